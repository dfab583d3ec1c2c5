import Derived.Test.Qxb6608766aGrow
namespace Go.Proofs.Qxb6608766a
open Go.RowKit
set_option linter.unusedSimpArgs false
set_option linter.unusedVariables false

set_option maxHeartbeats 2000000 in
set_option maxRecDepth 100000 in
/-- lookUp at a new number behind the table's end. -/
theorem look_grow {w : World} {g : Nat} {M : List Int} {vM vT : Value} {r : Option Nat} {T : List Int} {f : Int → Option Int} (h : IxAt w g M vM vT r T f) (x : Nat) (hx : T.length ≤ x) (hlim : x < 4 * (M.length + 1 + 1024)) (h2 : f (x : Int) = none) (hml : M.length + 1 ≤ 4096) :
    Calls Try.prog 24 #[.pointer (some ⟨g, 0, none⟩), .int .i64 (x : Int)] w (OfPost g M (x : Int) (foot g vM vT r) w) := by
  have htl := h.tl
  have h1 : tat T (x : Int) = 0 := by rw [tat_nat]; simp [List.getD_eq_getElem?_getD, List.getElem?_eq_none hx]
  have hwf : (Lit.int .i64 (x : Int)).wf = true := WalkArith.wf_i64 ⟨by omega, by omega⟩
  have hl := look_miss h (x : Int) hwf h2
  obtain ⟨aT, cT, hvT⟩ := own_value h.t
  obtain ⟨aM, cM, hvM⟩ := own_value h.m
  have HI : Hid (IxAt w g M vM vT r T f) := h
  obtain ⟨k, hk, hk0, hkx, hkl⟩ : ∃ k : Nat, min (max (2 * (T.length : Int)) ((x : Int) + 1)) (4 * ((M.length : Int) + 1 + 1024)) = ((T.length + k : Nat) : Int) ∧ 0 < k ∧ x < T.length + k ∧ T.length + k ≤ 4 * (M.length + 1 + 1024) :=
    ⟨(min (max (2 * (T.length : Int)) ((x : Int) + 1)) (4 * ((M.length : Int) + 1 + 1024))).toNat - T.length, by omega, by omega, by omega, by omega⟩
  have NE : Hid (∀ w2 vM', Mid w w2 g M (x : Int) vM vM' vT r T f → ∃ tb cap w3, (Builtin.append_ #[56, 3] 56 #[vT, .int .i64 (k : Int)]).run Try.prog w2.drew = .ok (.slice (some ⟨tb, 0, none⟩) (T.length + k) cap) w3 ∧ (w3.heap[g]? = some (.cells #[vM', vT, .map r] 59 (0, 0)) ∧ g ≠ tb) ∧
      (∃ u, (w3.setCell ⟨g, 1, none⟩ (.slice (some ⟨tb, 0, none⟩) (T.length + k) cap)).cell? ⟨tb, x, none⟩ = some (.int .i32 u)) ∧ (w3.setCell ⟨g, 1, none⟩ (.slice (some ⟨tb, 0, none⟩) (T.length + k) cap)).frozen? ⟨tb, x, none⟩ = false ∧
      OfPost g M (x : Int) (foot g vM vT r) w (.returned (.int .i32 (M.length : Int))) ((w3.setCell ⟨g, 1, none⟩ (.slice (some ⟨tb, 0, none⟩) (T.length + k) cap)).setCell ⟨tb, x, none⟩ (.int .i32 ((M.length : Int) + 1)))) := fun w2 vM' md => by
    obtain ⟨v', w3, hr, o3, g3, b3⟩ := zeros_own w2.drew (g + 1) 56 vT T.length k (i32s T) md.t.drew hk0 (by omega) (by have := lt_blk md.blk; exact this)
    obtain ⟨tb, cap, rfl, _, _⟩ := o3.form (by omega)
    exact ⟨tb, cap, w3, hr, grow_of h md o3 g3 b3 hkx hkl h1 h2 hml⟩
  have c0 : w.cell? ⟨g, 0, none⟩ = some vM := cell_blk h.blk rfl
  have c1 : w.cell? ⟨g, 1, none⟩ = some vT := cell_blk h.blk rfl
  have c2 : w.cell? ⟨g, 2, none⟩ = some (.map r) := cell_blk h.blk rfl
  have OM : Hid (w.ownsRow (g + 1) 3 1 vM M.length (i64s M)) := h.m
  have hgs := lt_blk h.blk
  obtain ⟨i3, hi3, hz30, hz31, hz32⟩ := info_parts info3
  subst hvT hvM
  clear h h1 h2 hwf
  generalize hn : M.length = n at *
  generalize hL : T.length = L at *
  have HN : Hid (M.length = n) := hn
  have HK : Hid _ := hk
  clear hn hL hk
  by_cases p1 : 2 * (L : Int) < (x : Int) + 1
  · have hsub : IntKind.i64.wrap (((x : Int) + 1) - (L : Int)) = (k : Int) := by rw [IntKind.wrap_i64]; have := HK.out; omega
    go_enter Try.func24, Try.ntmps24
    go_wp2_with (first
      | (at_builtin; refine wpList_append_lies _ rfl (.tmp 31) (.tmp 33) 24 rfl (g + 1) 3 i3 (.int .i64 0) 1 8 Try.underlying24 hi3 hz30 hz31 hz32 rfl (by decide) (.slice aM n cM) n (i64s M) rfl (OM.out.alloc _) ⟨w.heap.size, 0, none⟩ 1 1 [.int .i64 (x : Int)] rfl rfl (cell_one_new _ _ _) (one_mem _ rfl) (by omega) (by unfold maxLen; omega) (by omega) (by simp; omega) (w.heap.size + 1) (by simp) ?_; intro gm cm w1 o1 g1 b1 _; have bk := blk_mid HI.out g1; have d0 : w1.cell? ⟨g, 0, none⟩ = some (.slice aM n cM) := cell_blk bk rfl; have d1 : w1.cell? ⟨g, 1, none⟩ = some (.slice aT L cT) := cell_blk bk rfl; have fz : w1.frozen? ⟨g, 0, none⟩ = false := frozen_blk bk; have hg1 := lt_blk bk; have MD : Hid (Mid w (w1.setCell ⟨g, 0, none⟩ (.slice (some ⟨gm, 0, none⟩) (n + 1) cm)) g M (x : Int) (.slice aM n cM) (.slice (some ⟨gm, 0, none⟩) (n + 1) cm) (.slice aT L cT) r T f) := mid_of HI.out (by rw [HN.out]; exact o1) g1 (own_at b1); have NX : Hid _ := NE.out _ _ MD.out; clear o1 g1 b1 bk hl))
    obtain ⟨tb, cap, w3, hr, ⟨bk3, hne⟩, ⟨u, cx⟩, fx, PO⟩ := NX.out
    have PO : Hid _ := PO
    have q1 : w3.cell? ⟨g, 1, none⟩ = some (.slice aT L cT) := cell_blk bk3 rfl
    have f1 : w3.frozen? ⟨g, 1, none⟩ = false := frozen_blk bk3
    clear NX bk3
    go_region_law (refine step_append_run (by rfl) (.tmp 91) (.tmp 98) 56 3 (by rfl) (.slice aT L cT) (.int .i64 (k : Int)) (by rfl) (by rfl) _ _ hr ?_)
    all_goals
      go_wp2
      go_ret
      exact PO.out
  by_cases p2 : 2 * (L : Int) < 4 * ((n : Int) + 1 + 1024)
  · have hsub : IntKind.i64.wrap ((2 * (L : Int)) - (L : Int)) = (k : Int) := by rw [IntKind.wrap_i64]; have := HK.out; omega
    go_enter Try.func24, Try.ntmps24
    go_wp2_with (first
      | (at_builtin; refine wpList_append_lies _ rfl (.tmp 31) (.tmp 33) 24 rfl (g + 1) 3 i3 (.int .i64 0) 1 8 Try.underlying24 hi3 hz30 hz31 hz32 rfl (by decide) (.slice aM n cM) n (i64s M) rfl (OM.out.alloc _) ⟨w.heap.size, 0, none⟩ 1 1 [.int .i64 (x : Int)] rfl rfl (cell_one_new _ _ _) (one_mem _ rfl) (by omega) (by unfold maxLen; omega) (by omega) (by simp; omega) (w.heap.size + 1) (by simp) ?_; intro gm cm w1 o1 g1 b1 _; have bk := blk_mid HI.out g1; have d0 : w1.cell? ⟨g, 0, none⟩ = some (.slice aM n cM) := cell_blk bk rfl; have d1 : w1.cell? ⟨g, 1, none⟩ = some (.slice aT L cT) := cell_blk bk rfl; have fz : w1.frozen? ⟨g, 0, none⟩ = false := frozen_blk bk; have hg1 := lt_blk bk; have MD : Hid (Mid w (w1.setCell ⟨g, 0, none⟩ (.slice (some ⟨gm, 0, none⟩) (n + 1) cm)) g M (x : Int) (.slice aM n cM) (.slice (some ⟨gm, 0, none⟩) (n + 1) cm) (.slice aT L cT) r T f) := mid_of HI.out (by rw [HN.out]; exact o1) g1 (own_at b1); have NX : Hid _ := NE.out _ _ MD.out; clear o1 g1 b1 bk hl))
    obtain ⟨tb, cap, w3, hr, ⟨bk3, hne⟩, ⟨u, cx⟩, fx, PO⟩ := NX.out
    have PO : Hid _ := PO
    have q1 : w3.cell? ⟨g, 1, none⟩ = some (.slice aT L cT) := cell_blk bk3 rfl
    have f1 : w3.frozen? ⟨g, 1, none⟩ = false := frozen_blk bk3
    clear NX bk3
    go_region_law (refine step_append_run (by rfl) (.tmp 91) (.tmp 98) 56 3 (by rfl) (.slice aT L cT) (.int .i64 (k : Int)) (by rfl) (by rfl) _ _ hr ?_)
    all_goals
      go_wp2
      go_ret
      exact PO.out
  by_cases p3 : 4 * ((n : Int) + 1 + 1024) < 2 * (L : Int)
  · have hsub : IntKind.i64.wrap ((4 * ((n : Int) + 1 + 1024)) - (L : Int)) = (k : Int) := by rw [IntKind.wrap_i64]; have := HK.out; omega
    go_enter Try.func24, Try.ntmps24
    go_wp2_with (first
      | (at_builtin; refine wpList_append_lies _ rfl (.tmp 31) (.tmp 33) 24 rfl (g + 1) 3 i3 (.int .i64 0) 1 8 Try.underlying24 hi3 hz30 hz31 hz32 rfl (by decide) (.slice aM n cM) n (i64s M) rfl (OM.out.alloc _) ⟨w.heap.size, 0, none⟩ 1 1 [.int .i64 (x : Int)] rfl rfl (cell_one_new _ _ _) (one_mem _ rfl) (by omega) (by unfold maxLen; omega) (by omega) (by simp; omega) (w.heap.size + 1) (by simp) ?_; intro gm cm w1 o1 g1 b1 _; have bk := blk_mid HI.out g1; have d0 : w1.cell? ⟨g, 0, none⟩ = some (.slice aM n cM) := cell_blk bk rfl; have d1 : w1.cell? ⟨g, 1, none⟩ = some (.slice aT L cT) := cell_blk bk rfl; have fz : w1.frozen? ⟨g, 0, none⟩ = false := frozen_blk bk; have hg1 := lt_blk bk; have MD : Hid (Mid w (w1.setCell ⟨g, 0, none⟩ (.slice (some ⟨gm, 0, none⟩) (n + 1) cm)) g M (x : Int) (.slice aM n cM) (.slice (some ⟨gm, 0, none⟩) (n + 1) cm) (.slice aT L cT) r T f) := mid_of HI.out (by rw [HN.out]; exact o1) g1 (own_at b1); have NX : Hid _ := NE.out _ _ MD.out; clear o1 g1 b1 bk hl))
    obtain ⟨tb, cap, w3, hr, ⟨bk3, hne⟩, ⟨u, cx⟩, fx, PO⟩ := NX.out
    have PO : Hid _ := PO
    have q1 : w3.cell? ⟨g, 1, none⟩ = some (.slice aT L cT) := cell_blk bk3 rfl
    have f1 : w3.frozen? ⟨g, 1, none⟩ = false := frozen_blk bk3
    clear NX bk3
    go_region_law (refine step_append_run (by rfl) (.tmp 91) (.tmp 98) 56 3 (by rfl) (.slice aT L cT) (.int .i64 (k : Int)) (by rfl) (by rfl) _ _ hr ?_)
    all_goals
      go_wp2
      go_ret
      exact PO.out
  · have hsub : IntKind.i64.wrap ((2 * (L : Int)) - (L : Int)) = (k : Int) := by rw [IntKind.wrap_i64]; have := HK.out; omega
    have hsub' : IntKind.i64.wrap ((4 * ((n : Int) + 1 + 1024)) - (L : Int)) = (k : Int) := by rw [IntKind.wrap_i64]; have := HK.out; omega
    go_enter Try.func24, Try.ntmps24
    go_wp2_with (first
      | (at_builtin; refine wpList_append_lies _ rfl (.tmp 31) (.tmp 33) 24 rfl (g + 1) 3 i3 (.int .i64 0) 1 8 Try.underlying24 hi3 hz30 hz31 hz32 rfl (by decide) (.slice aM n cM) n (i64s M) rfl (OM.out.alloc _) ⟨w.heap.size, 0, none⟩ 1 1 [.int .i64 (x : Int)] rfl rfl (cell_one_new _ _ _) (one_mem _ rfl) (by omega) (by unfold maxLen; omega) (by omega) (by simp; omega) (w.heap.size + 1) (by simp) ?_; intro gm cm w1 o1 g1 b1 _; have bk := blk_mid HI.out g1; have d0 : w1.cell? ⟨g, 0, none⟩ = some (.slice aM n cM) := cell_blk bk rfl; have d1 : w1.cell? ⟨g, 1, none⟩ = some (.slice aT L cT) := cell_blk bk rfl; have fz : w1.frozen? ⟨g, 0, none⟩ = false := frozen_blk bk; have hg1 := lt_blk bk; have MD : Hid (Mid w (w1.setCell ⟨g, 0, none⟩ (.slice (some ⟨gm, 0, none⟩) (n + 1) cm)) g M (x : Int) (.slice aM n cM) (.slice (some ⟨gm, 0, none⟩) (n + 1) cm) (.slice aT L cT) r T f) := mid_of HI.out (by rw [HN.out]; exact o1) g1 (own_at b1); have NX : Hid _ := NE.out _ _ MD.out; clear o1 g1 b1 bk hl))
    obtain ⟨tb, cap, w3, hr, ⟨bk3, hne⟩, ⟨u, cx⟩, fx, PO⟩ := NX.out
    have PO : Hid _ := PO
    have q1 : w3.cell? ⟨g, 1, none⟩ = some (.slice aT L cT) := cell_blk bk3 rfl
    have f1 : w3.frozen? ⟨g, 1, none⟩ = false := frozen_blk bk3
    clear NX bk3
    go_region_law (refine step_append_run (by rfl) (.tmp 91) (.tmp 98) 56 3 (by rfl) (.slice aT L cT) (.int .i64 (k : Int)) (by rfl) (by rfl) _ _ hr ?_)
    all_goals
      go_wp2
      go_ret
      exact PO.out
end Go.Proofs.Qxb6608766a
