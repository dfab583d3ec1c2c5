/-
  No cell of these rows narrows 'for every input' (looked for: loops, veiled, ifaces, maps, wideKeys, modest, calm, conditions, laid).
  DERIVED. THE GIVEN ROWS OF THIS SEAT. 3 by the template 'for every input the law returns true; each argument reads behind the call as it read before'; 0 by the template 'total and deterministic' (their statements: Qxb6614602aTotals.lean).
  GIVEN WITH THE SEED: the statements are not yours to turn. If you find one false, say at which input.
  Laid BY PROGRAM, IN A SANDBOX (cutbox-rows.mjs): the forced cells as the released guide's own fill.sh prints them over the translation 9788236b7b93e030… (all of the seat's roots in one cut). By AI agents, Wed Nov 11 2026. No macro, syntax, notation, axiom, sorry.
-/
import Derived.Test.Qxb6614602aChecked
import GoSem.Claim
import GoSem.ClaimJoined
import GoSem.ClaimMapViews
import Derived.JoinedTies
import Derived.KernelRfl
namespace Go.Proofs.Qxb6614602a
/- THE CELL 'sum', in the pinned program and in every row, IS THE sha256 OF THE DUMP (.gsa) THAT Qxb6614602aProg.lean LOADS. Nothing in Lean hashes anything: it is a label: what it is worth is what the hold of that sum in a sandbox is worth. -/
noncomputable def Try.pinned : Pinned := { name := "qxb6614602a", sum := "9788236b7b93e0306d312e492d9a30b176b774b5fcd8a9eb96da79cb80a43746", checked := Try.checked }
namespace Rows
def none {H : Type} : Left H := { results := [], args := [] }

/-- 'zzlaws_root_b1.FnIsNoncharacterCountOverAnyRun': WHATEVER THE INPUT: true; the input reads as it did. -/
def fnIsNoncharacterCountOverAnyRunSpec : ChangeSpec := { name := "fnIsNoncharacterCountOverAnyRun", fn := fun _ => fun
  | [d1, d2] => { results := [.lit (.bool true)], args := [d1, d2] }
  | _ => none }
def fnIsNoncharacterCountOverAnyRunRow : OpenClaim := { program := "qxb6614602a", sum := "9788236b7b93e0306d312e492d9a30b176b774b5fcd8a9eb96da79cb80a43746", func := "example.com/ligature/ligature/zzlaws_root_b1.FnIsNoncharacterCountOverAnyRun", spec := "fnIsNoncharacterCountOverAnyRun", apart := false }
def FnIsNoncharacterCountOverAnyRunSaid : Prop := fnIsNoncharacterCountOverAnyRunRow.holds Try.pinned (OpenSpec.ofChange fnIsNoncharacterCountOverAnyRunSpec)

/-- ITS FALSE NEIGHBOUR: 'it returns false'. Refute it at one input. -/
def fnIsNoncharacterCountOverAnyRunWrong : ChangeSpec := { name := "fnIsNoncharacterCountOverAnyRun", fn := fun _ => fun
  | [d1, d2] => { results := [.lit (.bool false)], args := [d1, d2] }
  | _ => none }
def FnIsNoncharacterCountOverAnyRunWrongFalsely : Prop := fnIsNoncharacterCountOverAnyRunRow.holds Try.pinned (OpenSpec.ofChange fnIsNoncharacterCountOverAnyRunWrong)

/-- 'zzlaws_root_b1.FnIsNoncharacterPairsAndPlaneEnds': WHATEVER THE INPUT: true; the input reads as it did. -/
def fnIsNoncharacterPairsAndPlaneEndsSpec : ChangeSpec := { name := "fnIsNoncharacterPairsAndPlaneEnds", fn := fun _ => fun
  | [d] => { results := [.lit (.bool true)], args := [d] }
  | _ => none }
def fnIsNoncharacterPairsAndPlaneEndsRow : OpenClaim := { program := "qxb6614602a", sum := "9788236b7b93e0306d312e492d9a30b176b774b5fcd8a9eb96da79cb80a43746", func := "example.com/ligature/ligature/zzlaws_root_b1.FnIsNoncharacterPairsAndPlaneEnds", spec := "fnIsNoncharacterPairsAndPlaneEnds", apart := false }
def FnIsNoncharacterPairsAndPlaneEndsSaid : Prop := fnIsNoncharacterPairsAndPlaneEndsRow.holds Try.pinned (OpenSpec.ofChange fnIsNoncharacterPairsAndPlaneEndsSpec)

/-- ITS FALSE NEIGHBOUR: 'it returns false'. Refute it at one input. -/
def fnIsNoncharacterPairsAndPlaneEndsWrong : ChangeSpec := { name := "fnIsNoncharacterPairsAndPlaneEnds", fn := fun _ => fun
  | [d] => { results := [.lit (.bool false)], args := [d] }
  | _ => none }
def FnIsNoncharacterPairsAndPlaneEndsWrongFalsely : Prop := fnIsNoncharacterPairsAndPlaneEndsRow.holds Try.pinned (OpenSpec.ofChange fnIsNoncharacterPairsAndPlaneEndsWrong)

/-- 'zzlaws_root_b1.FnHashedNameHasExactlyOnePreimage': WHATEVER THE INPUT: true; the input reads as it did. -/
def fnHashedNameHasExactlyOnePreimageSpec : ChangeSpec := { name := "fnHashedNameHasExactlyOnePreimage", fn := fun _ => fun
  | [d1, d2] => { results := [.lit (.bool true)], args := [d1, d2] }
  | _ => none }
def fnHashedNameHasExactlyOnePreimageRow : OpenClaim := { program := "qxb6614602a", sum := "9788236b7b93e0306d312e492d9a30b176b774b5fcd8a9eb96da79cb80a43746", func := "example.com/ligature/ligature/zzlaws_root_b1.FnHashedNameHasExactlyOnePreimage", spec := "fnHashedNameHasExactlyOnePreimage", apart := false }
def FnHashedNameHasExactlyOnePreimageSaid : Prop := fnHashedNameHasExactlyOnePreimageRow.holds Try.pinned (OpenSpec.ofChange fnHashedNameHasExactlyOnePreimageSpec)

/-- ITS FALSE NEIGHBOUR: 'it returns false'. Refute it at one input. -/
def fnHashedNameHasExactlyOnePreimageWrong : ChangeSpec := { name := "fnHashedNameHasExactlyOnePreimage", fn := fun _ => fun
  | [d1, d2] => { results := [.lit (.bool false)], args := [d1, d2] }
  | _ => none }
def FnHashedNameHasExactlyOnePreimageWrongFalsely : Prop := fnHashedNameHasExactlyOnePreimageRow.holds Try.pinned (OpenSpec.ofChange fnHashedNameHasExactlyOnePreimageWrong)

end Rows
end Go.Proofs.Qxb6614602a
