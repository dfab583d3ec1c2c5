import Derived.Test.Qxb6608766aIx
namespace Go.Proofs.Qxb6608766a
open Go.RowKit
set_option linter.unusedSimpArgs false
set_option linter.unusedVariables false

theorem i32s_at (T : List Int) (k : Nat) (h : k < T.length) : (i32s T)[k]? = some (.int .i32 (T.getD k 0)) := by simp [i32s, h]

set_option maxHeartbeats 1000000 in
/-- Of, where the table holds the number. -/
theorem of_hit {w : World} {g : Nat} {M : List Int} {vM vT : Value} {r : Option Nat} {T : List Int} {f : Int → Option Int} (h : IxAt w g M vM vT r T f) (x : Nat) (hx : x < T.length) (hpos : tat T (x : Int) ≠ 0) :
    Calls Try.prog 20 #[.pointer (some ⟨g, 0, none⟩), .int .i64 (x : Int)] w (OfPost g M (x : Int) (foot g vM vT r) w) := by
  obtain ⟨i, hi, hM⟩ : ∃ i : Nat, tat T (x : Int) = (i : Int) + 1 ∧ M[i]? = some (x : Int) := by
    rcases h.inv.tab x with h | h
    · exact absurd h hpos
    · exact h
  have hil := (List.getElem?_eq_some_iff.1 hM).1
  have hml := h.ml
  have htl := h.tl
  have P : Hid (OfPost g M (x : Int) (foot g vM vT r) w (.returned (.int .i32 (i : Int))) w) :=
    ⟨i, M, _, rfl, ⟨vM, vT, r, T, f, h, rfl⟩, Kept.refl _ _, fun b hb => .inl hb, hM, .inl ⟨List.mem_of_getElem? hM, rfl⟩⟩
  obtain ⟨tb, cap, rfl, _, _⟩ := h.t.form (by omega)
  have c1 : w.cell? ⟨g, 1, none⟩ = some (.slice (some ⟨tb, 0, none⟩) T.length cap) := cell_blk h.blk rfl
  have cx : w.cell? ⟨tb, x, none⟩ = some (.int .i32 ((i : Int) + 1)) := by
    rw [h.t.cellAt x (by omega), i32s_at T x hx, ← tat_nat, hi]
  have e1 : IntKind.u64.wrap (x : Int) = (x : Int) := by rw [IntKind.wrap_u64]; omega
  have e2 : IntKind.u64.wrap (T.length : Int) = (T.length : Int) := by rw [IntKind.wrap_u64]; omega
  have e3 : IntKind.i32.wrap ((i : Int) + 1 - 1) = (i : Int) := by rw [IntKind.wrap_i32]; omega
  have e4 : decide ((0 : Int) < (i : Int) + 1) = true := decide_eq_true (by omega)
  have e5 : decide ((x : Int) < (T.length : Int)) = true := decide_eq_true (by omega)
  clear h hM hi hpos
  generalize T.length = L at *
  go_enter Try.func20, Try.ntmps20
  go_wp2
  go_ret
  exact P.out
end Go.Proofs.Qxb6608766a
