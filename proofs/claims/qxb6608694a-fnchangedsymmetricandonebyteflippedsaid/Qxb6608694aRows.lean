/-
  No cell of these rows narrows 'for every input' (looked for: loops, veiled, ifaces, maps, wideKeys, modest, calm, conditions, laid).
  DERIVED. THE GIVEN ROWS OF THIS SEAT. 4 by the template 'for every input the law returns true; each argument reads behind the call as it read before'; 0 by the template 'total and deterministic' (their statements: Qxb6608694aTotals.lean).
  GIVEN WITH THE SEED: the statements are not yours to turn. If you find one false, say at which input.
  Laid BY PROGRAM, IN A SANDBOX (cutbox-rows.mjs): the forced cells as the released guide's own fill.sh prints them over the translation 56a49a64199a3d05… (all of the seat's roots in one cut). By AI agents, Wed Nov 11 2026. No macro, syntax, notation, axiom, sorry.
-/
import Derived.Test.Qxb6608694aChecked
import GoSem.Claim
import GoSem.ClaimJoined
import GoSem.ClaimMapViews
import Derived.JoinedTies
import Derived.KernelRfl
namespace Go.Proofs.Qxb6608694a
/- THE CELL 'sum', in the pinned program and in every row, IS THE sha256 OF THE DUMP (.gsa) THAT Qxb6608694aProg.lean LOADS. Nothing in Lean hashes anything: it is a label: what it is worth is what the hold of that sum in a sandbox is worth. -/
noncomputable def Try.pinned : Pinned := { name := "qxb6608694a", sum := "56a49a64199a3d05126a5cb3cd21371aea77db517b43215a907869705e2ceca0", checked := Try.checked }
namespace Rows
def none {H : Type} : Left H := { results := [], args := [] }

/-- 'zzlaws_internal_pgbouncer_b1.FnChangedCopyAndOneMoreByte': WHATEVER THE INPUT: true; the input reads as it did. -/
def fnChangedCopyAndOneMoreByteSpec : ChangeSpec := { name := "fnChangedCopyAndOneMoreByte", fn := fun _ => fun
  | [d1, d2] => { results := [.lit (.bool true)], args := [d1, d2] }
  | _ => none }
def fnChangedCopyAndOneMoreByteRow : OpenClaim := { program := "qxb6608694a", sum := "56a49a64199a3d05126a5cb3cd21371aea77db517b43215a907869705e2ceca0", func := "example.com/cutover/cutover/zzlaws_internal_pgbouncer_b1.FnChangedCopyAndOneMoreByte", spec := "fnChangedCopyAndOneMoreByte", apart := false }
def FnChangedCopyAndOneMoreByteSaid : Prop := fnChangedCopyAndOneMoreByteRow.holds Try.pinned (OpenSpec.ofChange fnChangedCopyAndOneMoreByteSpec)

/-- ITS FALSE NEIGHBOUR: 'it returns false'. Refute it at one input. -/
def fnChangedCopyAndOneMoreByteWrong : ChangeSpec := { name := "fnChangedCopyAndOneMoreByte", fn := fun _ => fun
  | [d1, d2] => { results := [.lit (.bool false)], args := [d1, d2] }
  | _ => none }
def FnChangedCopyAndOneMoreByteWrongFalsely : Prop := fnChangedCopyAndOneMoreByteRow.holds Try.pinned (OpenSpec.ofChange fnChangedCopyAndOneMoreByteWrong)

/-- 'zzlaws_internal_pgbouncer_b1.FnChangedSymmetricAndOneByteFlipped': WHATEVER THE INPUT: true; the input reads as it did. -/
def fnChangedSymmetricAndOneByteFlippedSpec : ChangeSpec := { name := "fnChangedSymmetricAndOneByteFlipped", fn := fun _ => fun
  | [d1, d2, d3] => { results := [.lit (.bool true)], args := [d1, d2, d3] }
  | _ => none }
def fnChangedSymmetricAndOneByteFlippedRow : OpenClaim := { program := "qxb6608694a", sum := "56a49a64199a3d05126a5cb3cd21371aea77db517b43215a907869705e2ceca0", func := "example.com/cutover/cutover/zzlaws_internal_pgbouncer_b1.FnChangedSymmetricAndOneByteFlipped", spec := "fnChangedSymmetricAndOneByteFlipped", apart := false }
def FnChangedSymmetricAndOneByteFlippedSaid : Prop := fnChangedSymmetricAndOneByteFlippedRow.holds Try.pinned (OpenSpec.ofChange fnChangedSymmetricAndOneByteFlippedSpec)

/-- ITS FALSE NEIGHBOUR: 'it returns false'. Refute it at one input. -/
def fnChangedSymmetricAndOneByteFlippedWrong : ChangeSpec := { name := "fnChangedSymmetricAndOneByteFlipped", fn := fun _ => fun
  | [d1, d2, d3] => { results := [.lit (.bool false)], args := [d1, d2, d3] }
  | _ => none }
def FnChangedSymmetricAndOneByteFlippedWrongFalsely : Prop := fnChangedSymmetricAndOneByteFlippedRow.holds Try.pinned (OpenSpec.ofChange fnChangedSymmetricAndOneByteFlippedWrong)

/-- 'zzlaws_internal_pgbouncer_b1.FnBesidePathMovesWithItsDirectory': WHATEVER THE INPUT: true; the input reads as it did. -/
def fnBesidePathMovesWithItsDirectorySpec : ChangeSpec := { name := "fnBesidePathMovesWithItsDirectory", fn := fun _ => fun
  | [d1, d2, d3, d4] => { results := [.lit (.bool true)], args := [d1, d2, d3, d4] }
  | _ => none }
def fnBesidePathMovesWithItsDirectoryRow : OpenClaim := { program := "qxb6608694a", sum := "56a49a64199a3d05126a5cb3cd21371aea77db517b43215a907869705e2ceca0", func := "example.com/cutover/cutover/zzlaws_internal_pgbouncer_b1.FnBesidePathMovesWithItsDirectory", spec := "fnBesidePathMovesWithItsDirectory", inPlace := ["internal/bytealg.IndexByteString", "internal/abi.NoEscape", "internal/bytealg.MakeNoZero"], apart := false }
def FnBesidePathMovesWithItsDirectorySaid : Prop := fnBesidePathMovesWithItsDirectoryRow.holds Try.pinned (OpenSpec.ofChange fnBesidePathMovesWithItsDirectorySpec)

/-- ITS FALSE NEIGHBOUR: 'it returns false'. Refute it at one input. -/
def fnBesidePathMovesWithItsDirectoryWrong : ChangeSpec := { name := "fnBesidePathMovesWithItsDirectory", fn := fun _ => fun
  | [d1, d2, d3, d4] => { results := [.lit (.bool false)], args := [d1, d2, d3, d4] }
  | _ => none }
def FnBesidePathMovesWithItsDirectoryWrongFalsely : Prop := fnBesidePathMovesWithItsDirectoryRow.holds Try.pinned (OpenSpec.ofChange fnBesidePathMovesWithItsDirectoryWrong)

/-- 'zzlaws_internal_pgbouncer_b1.FnBesidePathKeepsNamesApart': WHATEVER THE INPUT: true; the input reads as it did. -/
def fnBesidePathKeepsNamesApartSpec : ChangeSpec := { name := "fnBesidePathKeepsNamesApart", fn := fun _ => fun
  | [d1, d2, d3, d4, d5] => { results := [.lit (.bool true)], args := [d1, d2, d3, d4, d5] }
  | _ => none }
def fnBesidePathKeepsNamesApartRow : OpenClaim := { program := "qxb6608694a", sum := "56a49a64199a3d05126a5cb3cd21371aea77db517b43215a907869705e2ceca0", func := "example.com/cutover/cutover/zzlaws_internal_pgbouncer_b1.FnBesidePathKeepsNamesApart", spec := "fnBesidePathKeepsNamesApart", inPlace := ["internal/bytealg.IndexByteString", "internal/abi.NoEscape", "internal/bytealg.MakeNoZero"], apart := false }
def FnBesidePathKeepsNamesApartSaid : Prop := fnBesidePathKeepsNamesApartRow.holds Try.pinned (OpenSpec.ofChange fnBesidePathKeepsNamesApartSpec)

/-- ITS FALSE NEIGHBOUR: 'it returns false'. Refute it at one input. -/
def fnBesidePathKeepsNamesApartWrong : ChangeSpec := { name := "fnBesidePathKeepsNamesApart", fn := fun _ => fun
  | [d1, d2, d3, d4, d5] => { results := [.lit (.bool false)], args := [d1, d2, d3, d4, d5] }
  | _ => none }
def FnBesidePathKeepsNamesApartWrongFalsely : Prop := fnBesidePathKeepsNamesApartRow.holds Try.pinned (OpenSpec.ofChange fnBesidePathKeepsNamesApartWrong)

end Rows
end Go.Proofs.Qxb6608694a
