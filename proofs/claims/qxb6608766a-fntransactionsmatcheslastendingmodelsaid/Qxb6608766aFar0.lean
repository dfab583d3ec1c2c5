import Derived.Test.Qxb6608766aFar
namespace Go.Proofs.Qxb6608766a
open Go.RowKit
set_option linter.unusedSimpArgs false
set_option linter.unusedVariables false

set_option maxRecDepth 100000 in
theorem none_of {w w2 : World} {g : Nat} {M : List Int} {x : Int} {vM vM' vT : Value} {T : List Int} {f : Int → Option Int} {b : Nat} (h : IxAt w g M vM vT none T f) (md : Mid w w2 g M x vM vM' vT none T f) (hb : b = w2.heap.size)
    (h1 : tat T x = 0) (h2 : f x = none) (hml : M.length + 1 ≤ 4096) :
    OwnM ((w2.setCell ⟨g, 2, none⟩ (.map (some b))).alloc (.map #[] 0)) b M.length f ∧ ∀ w3, OwnM w3 b (M.length + 1) (fun k => if k = x then some (M.length : Int) else f k) → ((w2.setCell ⟨g, 2, none⟩ (.map (some b))).alloc (.map #[] 0)).grownBy w3 (some b) → OfPost g M x (foot g vM vT none) w (.returned (.int .i32 (M.length : Int))) w3 := by
  subst hb
  have hg := lt_blk md.blk
  have hsz : (w2.setCell ⟨g, 2, none⟩ (.map (some w2.heap.size))).heap.size = w2.heap.size := by simp
  have blk1 : (w2.setCell ⟨g, 2, none⟩ (.map (some w2.heap.size))).heap[g]? = some (.cells #[vM', vT, .map (some w2.heap.size)] 59 (0, 0)) := heap_setCell_same _ g 2 _ 59 _ md.blk
  have blk2 : ((w2.setCell ⟨g, 2, none⟩ (.map (some w2.heap.size))).alloc (.map #[] 0)).heap[g]? = some (.cells #[vM', vT, .map (some w2.heap.size)] 59 (0, 0)) := (Below.heap_alloc _ _ g (by rw [hsz]; exact hg)).trans blk1
  have g1 : w2.grownBy (w2.setCell ⟨g, 2, none⟩ (.map (some w2.heap.size))) (some g) := ⟨rfl, rfl, rfl, by simp, fun k _ hk => heap_setCell_other _ ⟨g, 2, none⟩ k _ (fun e => hk (by rw [e]))⟩
  have g2 : (w2.setCell ⟨g, 2, none⟩ (.map (some w2.heap.size))).grownBy ((w2.setCell ⟨g, 2, none⟩ (.map (some w2.heap.size))).alloc (.map #[] 0)) none := World.grownBy_alloc _ _ none
  have nM : vM'.ownBlock ≠ some g := fun e => by have := (md.m.lt g e).1; omega
  have nT : vT.ownBlock ≠ some g := fun e => by have := (md.t.lt g e).1; omega
  have hf : f = fun _ => none := funext (h.non rfl)
  have oM : OwnM ((w2.setCell ⟨g, 2, none⟩ (.map (some w2.heap.size))).alloc (.map #[] 0)) w2.heap.size M.length f := by
    obtain ⟨D, hD, hfD⟩ := OwnM.made (w2.setCell ⟨g, 2, none⟩ (.map (some w2.heap.size)))
    rw [hf]
    rw [hsz] at hD
    exact ⟨D, hD.mono (Nat.zero_le _), hfD⟩
  refine ⟨oM, fun w3 o3 g3 => ?_⟩
  have k1 : Kept (foot g vM vT none) w2 (w2.setCell ⟨g, 2, none⟩ (.map (some w2.heap.size))) := Kept.of g1 (fun c hc => .inl (by injection hc with hc; exact hc.symm))
  have k2 : Kept (foot g vM vT none) (w2.setCell ⟨g, 2, none⟩ (.map (some w2.heap.size))) ((w2.setCell ⟨g, 2, none⟩ (.map (some w2.heap.size))).alloc (.map #[] 0)) := Kept.of g2 (fun c hc => by cases hc)
  exact far_of h blk2 ((md.m.kept g1 (.inr nM)).alloc _) ((md.t.kept g1 (.inr nT)).alloc _) hg md.at' ((md.kept.trans k1 (fun c hc => .inl hc)).trans k2 (fun c hc => .inl hc)) md.mt
    ⟨fun e => by have := (md.m.lt _ e).2; omega, fun e => by have := (md.t.lt _ e).2; omega⟩ (.inr md.kept.size) o3 g3 h1 h2 hml

set_option maxHeartbeats 2000000 in
set_option maxRecDepth 100000 in
/-- lookUp at a new number that the table cannot hold; there is no map yet. -/
theorem look_far_none {w : World} {g : Nat} {M : List Int} {vM vT : Value} {T : List Int} {f : Int → Option Int} (h : IxAt w g M vM vT none T f) (x : Int) (hx : x < 0 ∨ 4 * ((M.length : Int) + 1 + 1024) ≤ x) (hwf : (Lit.int .i64 x).wf = true) (h1 : tat T x = 0) (h2 : f x = none) (hml : M.length + 1 ≤ 4096) :
    Calls Try.prog 24 #[.pointer (some ⟨g, 0, none⟩), .int .i64 x] w (OfPost g M x (foot g vM vT none) w) := by
  have htl := h.tl
  have hl := look_miss h x hwf h2
  obtain ⟨aM, cM, hvM⟩ := own_value h.m
  have HI : Hid (IxAt w g M vM vT none T f) := h
  have HW : Hid ((Lit.int .i64 x).wf = true) := hwf
  have NE : Hid (∀ w2 vM' b, Mid w w2 g M x vM vM' vT none T f → b = w2.heap.size → OwnM ((w2.setCell ⟨g, 2, none⟩ (.map (some b))).alloc (.map #[] 0)) b M.length f ∧ ∀ w3, OwnM w3 b (M.length + 1) (fun k => if k = x then some (M.length : Int) else f k) → ((w2.setCell ⟨g, 2, none⟩ (.map (some b))).alloc (.map #[] 0)).grownBy w3 (some b) → OfPost g M x (foot g vM vT none) w (.returned (.int .i32 (M.length : Int))) w3) :=
    fun w2 vM' b md hb => none_of h md hb h1 h2 hml
  have hmk : ∀ W : World, (Instr.makeMap 57 none).run Try.prog W = .ok (.map (some W.heap.size)) (W.alloc (.map #[] 0)) := fun W => rfl
  have heq : ∀ W : World, (binOp .eql 57 (.map none) (.map none)).run Try.prog W = .ok (.bool true) W := fun W => run_eql_map_nil W 57 3 21 none Try.underlying57
  have c0 : w.cell? ⟨g, 0, none⟩ = some vM := cell_blk h.blk rfl
  have c1 : w.cell? ⟨g, 1, none⟩ = some vT := cell_blk h.blk rfl
  have c2 : w.cell? ⟨g, 2, none⟩ = some (.map none) := cell_blk h.blk rfl
  have OM : Hid (w.ownsRow (g + 1) 3 1 vM M.length (i64s M)) := h.m
  have hgs := lt_blk h.blk
  obtain ⟨i3, hi3, hz30, hz31, hz32⟩ := info_parts info3
  subst hvM
  clear h h1 h2 hwf
  generalize hn : M.length = n at *
  have HN : Hid (M.length = n) := hn
  clear hn
  have hwi : Hid ((Lit.int .i32 (n : Int)).wf = true) := WalkArith.wf_i32 ⟨by omega, by omega⟩
  have arm : Hid True := trivial
  have hcase : (decide (x < 0) || decide (4 * ((n : Int) + 1 + 1024) ≤ x)) = true := by simpa using hx
  by_cases hneg : x < 0
  · go_enter Try.func24, Try.ntmps24
    go_wp2_with (first
      | (at_builtin; refine wpList_append_lies _ rfl (.tmp 31) (.tmp 33) 24 rfl (g + 1) 3 i3 (.int .i64 0) 1 8 Try.underlying24 hi3 hz30 hz31 hz32 rfl (by decide) (.slice aM n cM) n (i64s M) rfl (OM.out.alloc _) ⟨w.heap.size, 0, none⟩ 1 1 [.int .i64 x] rfl rfl (cell_one_new _ _ _) (one_mem _ rfl) (by omega) (by unfold maxLen; omega) (by omega) (by simp; omega) (w.heap.size + 1) (by simp) ?_; intro gm cm w1 o1 g1 b1 _; have bk := blk_mid HI.out g1; have d0 : w1.cell? ⟨g, 0, none⟩ = some (.slice aM n cM) := cell_blk bk rfl; have d2 : w1.cell? ⟨g, 2, none⟩ = some (.map none) := cell_blk bk rfl; have fz : w1.frozen? ⟨g, 0, none⟩ = false := frozen_blk bk; have fz2 : w1.frozen? ⟨g, 2, none⟩ = false := frozen_blk bk; have hg1 : g < w1.heap.size := lt_blk bk; have MD : Hid (Mid w (w1.setCell ⟨g, 0, none⟩ (.slice (some ⟨gm, 0, none⟩) (n + 1) cm)) g M x (.slice aM n cM) (.slice (some ⟨gm, 0, none⟩) (n + 1) cm) vT none T f) := mid_of HI.out (by rw [HN.out]; exact o1) g1 (own_at b1); have OB : Hid _ := NE.out _ _ w1.heap.size MD.out (by simp); clear o1 g1 b1 bk hl)
      | (at_mapUpdate; refine wpList_put _ rfl (.tmp 64) (.tmp 65) (.tmp 66) rfl w1.heap.size n f rfl OB.out.1 x (n : Int) rfl rfl HW.out hwi.out (by unfold maxLen; omega) ?_; intro w3 o3 g3; have PP : Hid _ := OB.out.2 _ o3 g3; clear o3 g3))
    go_ret
    exact PP.out
  · have hge : 4 * ((n : Int) + 1 + 1024) ≤ x := by omega
    go_enter Try.func24, Try.ntmps24
    go_wp2_with (first
      | (at_builtin; refine wpList_append_lies _ rfl (.tmp 31) (.tmp 33) 24 rfl (g + 1) 3 i3 (.int .i64 0) 1 8 Try.underlying24 hi3 hz30 hz31 hz32 rfl (by decide) (.slice aM n cM) n (i64s M) rfl (OM.out.alloc _) ⟨w.heap.size, 0, none⟩ 1 1 [.int .i64 x] rfl rfl (cell_one_new _ _ _) (one_mem _ rfl) (by omega) (by unfold maxLen; omega) (by omega) (by simp; omega) (w.heap.size + 1) (by simp) ?_; intro gm cm w1 o1 g1 b1 _; have bk := blk_mid HI.out g1; have d0 : w1.cell? ⟨g, 0, none⟩ = some (.slice aM n cM) := cell_blk bk rfl; have d2 : w1.cell? ⟨g, 2, none⟩ = some (.map none) := cell_blk bk rfl; have fz : w1.frozen? ⟨g, 0, none⟩ = false := frozen_blk bk; have fz2 : w1.frozen? ⟨g, 2, none⟩ = false := frozen_blk bk; have hg1 : g < w1.heap.size := lt_blk bk; have MD : Hid (Mid w (w1.setCell ⟨g, 0, none⟩ (.slice (some ⟨gm, 0, none⟩) (n + 1) cm)) g M x (.slice aM n cM) (.slice (some ⟨gm, 0, none⟩) (n + 1) cm) vT none T f) := mid_of HI.out (by rw [HN.out]; exact o1) g1 (own_at b1); have OB : Hid _ := NE.out _ _ w1.heap.size MD.out (by simp); clear o1 g1 b1 bk hl)
      | (at_mapUpdate; refine wpList_put _ rfl (.tmp 64) (.tmp 65) (.tmp 66) rfl w1.heap.size n f rfl OB.out.1 x (n : Int) rfl rfl HW.out hwi.out (by unfold maxLen; omega) ?_; intro w3 o3 g3; have PP : Hid _ := OB.out.2 _ o3 g3; clear o3 g3))
    go_ret
    exact PP.out
end Go.Proofs.Qxb6608766a
