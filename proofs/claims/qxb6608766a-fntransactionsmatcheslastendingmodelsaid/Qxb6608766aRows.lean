/-
  No cell of these rows narrows 'for every input' (looked for: loops, veiled, ifaces, maps, wideKeys, modest, calm, conditions, laid).
  DERIVED. THE GIVEN ROWS OF THIS SEAT. 3 by the template 'for every input the law returns true; each argument reads behind the call as it read before'; 0 by the template 'total and deterministic' (their statements: Qxb6608766aTotals.lean).
  GIVEN WITH THE SEED: the statements are not yours to turn. If you find one false, say at which input.
  Laid BY PROGRAM, IN A SANDBOX (cutbox-rows.mjs): the forced cells as the released guide's own fill.sh prints them over the translation d596eabb7741370b… (all of the seat's roots in one cut). By AI agents, Wed Nov 11 2026. No macro, syntax, notation, axiom, sorry.
-/
import Derived.Test.Qxb6608766aChecked
import GoSem.Claim
import GoSem.ClaimJoined
import GoSem.ClaimMapViews
import Derived.JoinedTies
import Derived.KernelRfl
namespace Go.Proofs.Qxb6608766a
/- THE CELL 'sum', in the pinned program and in every row, IS THE sha256 OF THE DUMP (.gsa) THAT Qxb6608766aProg.lean LOADS. Nothing in Lean hashes anything: it is a label: what it is worth is what the hold of that sum in a sandbox is worth. -/
noncomputable def Try.pinned : Pinned := { name := "qxb6608766a", sum := "d596eabb7741370b7671a0cc4ca39ff50c99ad4dfb9d00956e1cb68a8e353d2a", checked := Try.checked }
namespace Rows
def none {H : Type} : Left H := { results := [], args := [] }

/-- 'zzlaws_pkg_schedule_b1.FnOpListAllSplitsAtAnyCut': WHATEVER THE INPUT: true; the input reads as it did. -/
def fnOpListAllSplitsAtAnyCutSpec : ChangeSpec := { name := "fnOpListAllSplitsAtAnyCut", fn := fun _ => fun
  | [d1, d2] => { results := [.lit (.bool true)], args := [d1, d2] }
  | _ => none }
def fnOpListAllSplitsAtAnyCutRow : OpenClaim := { program := "qxb6608766a", sum := "d596eabb7741370b7671a0cc4ca39ff50c99ad4dfb9d00956e1cb68a8e353d2a", func := "example.com/interlace/interlace/zzlaws_pkg_schedule_b1.FnOpListAllSplitsAtAnyCut", spec := "fnOpListAllSplitsAtAnyCut", apart := false }
def FnOpListAllSplitsAtAnyCutSaid : Prop := fnOpListAllSplitsAtAnyCutRow.holds Try.pinned (OpenSpec.ofChange fnOpListAllSplitsAtAnyCutSpec)

/-- ITS FALSE NEIGHBOUR: 'it returns false'. Refute it at one input. -/
def fnOpListAllSplitsAtAnyCutWrong : ChangeSpec := { name := "fnOpListAllSplitsAtAnyCut", fn := fun _ => fun
  | [d1, d2] => { results := [.lit (.bool false)], args := [d1, d2] }
  | _ => none }
def FnOpListAllSplitsAtAnyCutWrongFalsely : Prop := fnOpListAllSplitsAtAnyCutRow.holds Try.pinned (OpenSpec.ofChange fnOpListAllSplitsAtAnyCutWrong)

/-- 'zzlaws_pkg_schedule_b1.FnTransactionsMatchesLastEndingModel': WHATEVER THE INPUT: true; the input reads as it did. -/
def fnTransactionsMatchesLastEndingModelSpec : ChangeSpec := { name := "fnTransactionsMatchesLastEndingModel", fn := fun _ => fun
  | [d1, d2] => { results := [.lit (.bool true)], args := [d1, d2] }
  | _ => none }
def fnTransactionsMatchesLastEndingModelRow : OpenClaim := { program := "qxb6608766a", sum := "d596eabb7741370b7671a0cc4ca39ff50c99ad4dfb9d00956e1cb68a8e353d2a", func := "example.com/interlace/interlace/zzlaws_pkg_schedule_b1.FnTransactionsMatchesLastEndingModel", spec := "fnTransactionsMatchesLastEndingModel", unfollowed := true, recurses := true, apart := false }
def FnTransactionsMatchesLastEndingModelSaid : Prop := fnTransactionsMatchesLastEndingModelRow.holds Try.pinned (OpenSpec.ofChange fnTransactionsMatchesLastEndingModelSpec)

/-- ITS FALSE NEIGHBOUR: 'it returns false'. Refute it at one input. -/
def fnTransactionsMatchesLastEndingModelWrong : ChangeSpec := { name := "fnTransactionsMatchesLastEndingModel", fn := fun _ => fun
  | [d1, d2] => { results := [.lit (.bool false)], args := [d1, d2] }
  | _ => none }
def FnTransactionsMatchesLastEndingModelWrongFalsely : Prop := fnTransactionsMatchesLastEndingModelRow.holds Try.pinned (OpenSpec.ofChange fnTransactionsMatchesLastEndingModelWrong)

/-- 'zzlaws_pkg_schedule_b1.FnTransactionsComposeAtAnyCut': WHATEVER THE INPUT: true; the input reads as it did. -/
def fnTransactionsComposeAtAnyCutSpec : ChangeSpec := { name := "fnTransactionsComposeAtAnyCut", fn := fun _ => fun
  | [d1, d2, d3] => { results := [.lit (.bool true)], args := [d1, d2, d3] }
  | _ => none }
def fnTransactionsComposeAtAnyCutRow : OpenClaim := { program := "qxb6608766a", sum := "d596eabb7741370b7671a0cc4ca39ff50c99ad4dfb9d00956e1cb68a8e353d2a", func := "example.com/interlace/interlace/zzlaws_pkg_schedule_b1.FnTransactionsComposeAtAnyCut", spec := "fnTransactionsComposeAtAnyCut", unfollowed := true, recurses := true, apart := false }
def FnTransactionsComposeAtAnyCutSaid : Prop := fnTransactionsComposeAtAnyCutRow.holds Try.pinned (OpenSpec.ofChange fnTransactionsComposeAtAnyCutSpec)

/-- ITS FALSE NEIGHBOUR: 'it returns false'. Refute it at one input. -/
def fnTransactionsComposeAtAnyCutWrong : ChangeSpec := { name := "fnTransactionsComposeAtAnyCut", fn := fun _ => fun
  | [d1, d2, d3] => { results := [.lit (.bool false)], args := [d1, d2, d3] }
  | _ => none }
def FnTransactionsComposeAtAnyCutWrongFalsely : Prop := fnTransactionsComposeAtAnyCutRow.holds Try.pinned (OpenSpec.ofChange fnTransactionsComposeAtAnyCutWrong)

end Rows
end Go.Proofs.Qxb6608766a
