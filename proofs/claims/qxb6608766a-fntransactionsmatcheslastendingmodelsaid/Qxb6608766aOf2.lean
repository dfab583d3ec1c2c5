import Derived.Test.Qxb6608766aGrow2
import Derived.OpenShut
namespace Go.Proofs.Qxb6608766a
open Go.RowKit
set_option linter.unusedSimpArgs false
set_option linter.unusedVariables false

set_option maxHeartbeats 1000000 in
/-- Of, where the table does not hold the number: lookUp answers. -/
theorem of_miss {w : World} {g : Nat} {M : List Int} {vM vT : Value} {r : Option Nat} {T : List Int} {f : Int → Option Int} {Q : Ending → World → Prop} (h : IxAt w g M vM vT r T f) (x : Int) (hwf : (Lit.int .i64 x).wf = true) (h1 : tat T x = 0)
    (hQ : ∀ e w', Q e w' → ∃ i : Int, e = .returned (.int .i32 i)) (LK : Calls Try.prog 24 #[.pointer (some ⟨g, 0, none⟩), .int .i64 x] w Q) :
    Calls Try.prog 20 #[.pointer (some ⟨g, 0, none⟩), .int .i64 x] w Q := by
  have hb := bounds_i64 hwf
  have htl := h.tl
  have hml := h.ml
  obtain ⟨aT, cT, hvT⟩ := own_value h.t
  have c1 : w.cell? ⟨g, 1, none⟩ = some vT := cell_blk h.blk rfl
  have LH : Hid _ := LK
  have HQ : Hid _ := hQ
  have e2 : IntKind.u64.wrap (T.length : Int) = (T.length : Int) := by rw [IntKind.wrap_u64]; omega
  by_cases hneg : x < 0
  · have e1 : IntKind.u64.wrap x = x + 18446744073709551616 := by rw [IntKind.wrap_u64]; omega
    have e5 : decide (x + 18446744073709551616 < (T.length : Int)) = false := decide_eq_false (by omega)
    subst hvT
    clear h h1 hwf LK hQ
    generalize T.length = L at *
    go_enter Try.func20, Try.ntmps20
    go_wp2_with fail
    refine Calls.mono LH.out ?_
    intro e w' hq
    obtain ⟨v, rfl⟩ := HQ.out e w' hq
    have HH : Hid _ := hq
    clear hq
    go_wp2
    exact HH.out
  · obtain ⟨k, rfl⟩ := Int.eq_ofNat_of_zero_le (show 0 ≤ x by omega)
    have e1 : IntKind.u64.wrap (k : Int) = (k : Int) := by rw [IntKind.wrap_u64]; omega
    by_cases hlt : k < T.length
    · obtain ⟨tb, cap, hvT, _, _⟩ := h.t.form (by omega)
      have cx : w.cell? ⟨tb, k, none⟩ = some (.int .i32 0) := by
        have ht := h.t
        rw [hvT] at ht
        rw [ht.cellAt k (by omega), i32s_at T k hlt, ← tat_nat, h1]
      have e5 : decide ((k : Int) < (T.length : Int)) = true := decide_eq_true (by omega)
      subst hvT
      clear h h1 hwf LK hQ
      generalize T.length = L at *
      go_enter Try.func20, Try.ntmps20
      go_wp2_with fail
      refine Calls.mono LH.out ?_
      intro e w' hq
      obtain ⟨v, rfl⟩ := HQ.out e w' hq
      have HH : Hid _ := hq
      clear hq
      go_wp2
      exact HH.out
    · have e5 : decide ((k : Int) < (T.length : Int)) = false := decide_eq_false (by omega)
      subst hvT
      clear h h1 hwf LK hQ
      generalize T.length = L at *
      go_enter Try.func20, Try.ntmps20
      go_wp2_with fail
      refine Calls.mono LH.out ?_
      intro e w' hq
      obtain ⟨v, rfl⟩ := HQ.out e w' hq
      have HH : Hid _ := hq
      clear hq
      go_wp2
      exact HH.out

/-- OF's CONTRACT. -/
theorem of_any {w : World} {g : Nat} {M : List Int} {S : Nat → Prop} (h : Ix w g M S) (x : Int) (hwf : (Lit.int .i64 x).wf = true) (hml : M.length + 1 ≤ 4096) :
    Calls Try.prog 20 #[.pointer (some ⟨g, 0, none⟩), .int .i64 x] w (OfPost g M x S w) := by
  obtain ⟨vM, vT, r, T, f, h, rfl⟩ := h
  have hq : ∀ e w', OfPost g M x (foot g vM vT r) w e w' → ∃ i : Int, e = .returned (.int .i32 i) := fun e w' ⟨i, _, _, he, _⟩ => ⟨_, he⟩
  by_cases ht : tat T x = 0
  · refine of_miss h x hwf ht hq ?_
    cases hf : f x with
    | some i => exact look_hit h x i hwf hf
    | none =>
      by_cases hfar : x < 0 ∨ 4 * ((M.length : Int) + 1 + 1024) ≤ x
      · cases r with
        | none => exact look_far_none h x hfar hwf ht hf hml
        | some b => exact look_far_some h x hfar hwf ht hf hml
      · obtain ⟨k, rfl⟩ := Int.eq_ofNat_of_zero_le (show 0 ≤ x by omega)
        by_cases hlt : k < T.length
        · exact look_near h k hlt ht hf hml
        · exact look_grow h k (by omega) (by omega) hf hml
  · by_cases hneg : x < 0
    · exact absurd (tat_neg T hneg) ht
    · obtain ⟨k, rfl⟩ := Int.eq_ofNat_of_zero_le (show 0 ≤ x by omega)
      have hlt : k < T.length := by
        refine Nat.lt_of_not_le fun hle => ht ?_
        rw [tat_nat]; simp [List.getD_eq_getElem?_getD, List.getElem?_eq_none hle]
      exact of_hit h k hlt ht
end Go.Proofs.Qxb6608766a
