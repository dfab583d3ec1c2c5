/-
  No cell of these rows narrows 'for every input' (looked for: loops, veiled, ifaces, maps, wideKeys, modest, calm, conditions, laid).
  DERIVED. THE GIVEN ROWS OF THIS SEAT. 4 by the template 'for every input the law returns true; each argument reads behind the call as it read before'; 0 by the template 'total and deterministic' (their statements: Qxb6615739aTotals.lean).
  GIVEN WITH THE SEED: the statements are not yours to turn. If you find one false, say at which input.
  Laid BY PROGRAM, IN A SANDBOX (cutbox-rows.mjs): the forced cells as the released guide's own fill.sh prints them over the translation 6854896d0f31642e… (all of the seat's roots in one cut). By AI agents, Wed Nov 11 2026. No macro, syntax, notation, axiom, sorry.
-/
import Derived.Test.Qxb6615739aChecked
import GoSem.Claim
import GoSem.ClaimJoined
import GoSem.ClaimMapViews
import Derived.JoinedTies
import Derived.KernelRfl
namespace Go.Proofs.Qxb6615739a
/- THE CELL 'sum', in the pinned program and in every row, IS THE sha256 OF THE DUMP (.gsa) THAT Qxb6615739aProg.lean LOADS. Nothing in Lean hashes anything: it is a label: what it is worth is what the hold of that sum in a sandbox is worth. -/
noncomputable def Try.pinned : Pinned := { name := "qxb6615739a", sum := "6854896d0f31642e0ac805d266a56d8bab450609d7d9e02caeec3e5d41a5e9b3", checked := Try.checked }
namespace Rows
def none {H : Type} : Left H := { results := [], args := [] }

/-- 'zzlaws_root_b1.FnOutsideIsTheDrawnFreeNumber': WHATEVER THE INPUT: true; the input reads as it did. -/
def fnOutsideIsTheDrawnFreeNumberSpec : ChangeSpec := { name := "fnOutsideIsTheDrawnFreeNumber", fn := fun _ => fun
  | [d1, d2, d3, d4, d5] => { results := [.lit (.bool true)], args := [d1, d2, d3, d4, d5] }
  | _ => none }
def fnOutsideIsTheDrawnFreeNumberRow : OpenClaim := { program := "qxb6615739a", sum := "6854896d0f31642e0ac805d266a56d8bab450609d7d9e02caeec3e5d41a5e9b3", func := "example.com/murmurant/murmurant/zzlaws_root_b1.FnOutsideIsTheDrawnFreeNumber", spec := "fnOutsideIsTheDrawnFreeNumber", unfollowed := true, recurses := true, apart := false }
def FnOutsideIsTheDrawnFreeNumberSaid : Prop := fnOutsideIsTheDrawnFreeNumberRow.holds Try.pinned (OpenSpec.ofChange fnOutsideIsTheDrawnFreeNumberSpec)

/-- ITS FALSE NEIGHBOUR: 'it returns false'. Refute it at one input. -/
def fnOutsideIsTheDrawnFreeNumberWrong : ChangeSpec := { name := "fnOutsideIsTheDrawnFreeNumber", fn := fun _ => fun
  | [d1, d2, d3, d4, d5] => { results := [.lit (.bool false)], args := [d1, d2, d3, d4, d5] }
  | _ => none }
def FnOutsideIsTheDrawnFreeNumberWrongFalsely : Prop := fnOutsideIsTheDrawnFreeNumberRow.holds Try.pinned (OpenSpec.ofChange fnOutsideIsTheDrawnFreeNumberWrong)

/-- 'zzlaws_root_b1.FnOutsideAfterDistinctBut': WHATEVER THE INPUT: true; the input reads as it did. -/
def fnOutsideAfterDistinctButSpec : ChangeSpec := { name := "fnOutsideAfterDistinctBut", fn := fun _ => fun
  | [d1, d2, d3, d4, d5] => { results := [.lit (.bool true)], args := [d1, d2, d3, d4, d5] }
  | _ => none }
def fnOutsideAfterDistinctButRow : OpenClaim := { program := "qxb6615739a", sum := "6854896d0f31642e0ac805d266a56d8bab450609d7d9e02caeec3e5d41a5e9b3", func := "example.com/murmurant/murmurant/zzlaws_root_b1.FnOutsideAfterDistinctBut", spec := "fnOutsideAfterDistinctBut", unfollowed := true, recurses := true, apart := false }
def FnOutsideAfterDistinctButSaid : Prop := fnOutsideAfterDistinctButRow.holds Try.pinned (OpenSpec.ofChange fnOutsideAfterDistinctButSpec)

/-- ITS FALSE NEIGHBOUR: 'it returns false'. Refute it at one input. -/
def fnOutsideAfterDistinctButWrong : ChangeSpec := { name := "fnOutsideAfterDistinctBut", fn := fun _ => fun
  | [d1, d2, d3, d4, d5] => { results := [.lit (.bool false)], args := [d1, d2, d3, d4, d5] }
  | _ => none }
def FnOutsideAfterDistinctButWrongFalsely : Prop := fnOutsideAfterDistinctButRow.holds Try.pinned (OpenSpec.ofChange fnOutsideAfterDistinctButWrong)

/-- 'zzlaws_root_b1.FnSocialViewIsTopRankedAndPrefix': WHATEVER THE INPUT: true; the input reads as it did. -/
def fnSocialViewIsTopRankedAndPrefixSpec : ChangeSpec := { name := "fnSocialViewIsTopRankedAndPrefix", fn := fun _ => fun
  | [d1, d2, d3, d4, d5, d6, d7] => { results := [.lit (.bool true)], args := [d1, d2, d3, d4, d5, d6, d7] }
  | _ => none }
def fnSocialViewIsTopRankedAndPrefixRow : OpenClaim := { program := "qxb6615739a", sum := "6854896d0f31642e0ac805d266a56d8bab450609d7d9e02caeec3e5d41a5e9b3", func := "example.com/murmurant/murmurant/zzlaws_root_b1.FnSocialViewIsTopRankedAndPrefix", spec := "fnSocialViewIsTopRankedAndPrefix", inPlace := ["slices.overlaps[example.com/murmurant/murmurant.friend]"], unfollowed := true, recurses := true, apart := false }
def FnSocialViewIsTopRankedAndPrefixSaid : Prop := fnSocialViewIsTopRankedAndPrefixRow.holds Try.pinned (OpenSpec.ofChange fnSocialViewIsTopRankedAndPrefixSpec)

/-- ITS FALSE NEIGHBOUR: 'it returns false'. Refute it at one input. -/
def fnSocialViewIsTopRankedAndPrefixWrong : ChangeSpec := { name := "fnSocialViewIsTopRankedAndPrefix", fn := fun _ => fun
  | [d1, d2, d3, d4, d5, d6, d7] => { results := [.lit (.bool false)], args := [d1, d2, d3, d4, d5, d6, d7] }
  | _ => none }
def FnSocialViewIsTopRankedAndPrefixWrongFalsely : Prop := fnSocialViewIsTopRankedAndPrefixRow.holds Try.pinned (OpenSpec.ofChange fnSocialViewIsTopRankedAndPrefixWrong)

/-- 'zzlaws_root_b1.FnSocialViewFilterAgreesWithAcceptAll': WHATEVER THE INPUT: true; the input reads as it did. -/
def fnSocialViewFilterAgreesWithAcceptAllSpec : ChangeSpec := { name := "fnSocialViewFilterAgreesWithAcceptAll", fn := fun _ => fun
  | [d1, d2, d3, d4, d5, d6] => { results := [.lit (.bool true)], args := [d1, d2, d3, d4, d5, d6] }
  | _ => none }
def fnSocialViewFilterAgreesWithAcceptAllRow : OpenClaim := { program := "qxb6615739a", sum := "6854896d0f31642e0ac805d266a56d8bab450609d7d9e02caeec3e5d41a5e9b3", func := "example.com/murmurant/murmurant/zzlaws_root_b1.FnSocialViewFilterAgreesWithAcceptAll", spec := "fnSocialViewFilterAgreesWithAcceptAll", inPlace := ["slices.overlaps[example.com/murmurant/murmurant.friend]"], unfollowed := true, recurses := true, apart := false }
def FnSocialViewFilterAgreesWithAcceptAllSaid : Prop := fnSocialViewFilterAgreesWithAcceptAllRow.holds Try.pinned (OpenSpec.ofChange fnSocialViewFilterAgreesWithAcceptAllSpec)

/-- ITS FALSE NEIGHBOUR: 'it returns false'. Refute it at one input. -/
def fnSocialViewFilterAgreesWithAcceptAllWrong : ChangeSpec := { name := "fnSocialViewFilterAgreesWithAcceptAll", fn := fun _ => fun
  | [d1, d2, d3, d4, d5, d6] => { results := [.lit (.bool false)], args := [d1, d2, d3, d4, d5, d6] }
  | _ => none }
def FnSocialViewFilterAgreesWithAcceptAllWrongFalsely : Prop := fnSocialViewFilterAgreesWithAcceptAllRow.holds Try.pinned (OpenSpec.ofChange fnSocialViewFilterAgreesWithAcceptAllWrong)

end Rows
end Go.Proofs.Qxb6615739a
