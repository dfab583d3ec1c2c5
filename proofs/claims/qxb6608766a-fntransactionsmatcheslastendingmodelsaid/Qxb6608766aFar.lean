import Derived.Test.Qxb6608766aNear
namespace Go.Proofs.Qxb6608766a
open Go.RowKit
set_option linter.unusedSimpArgs false
set_option linter.unusedVariables false

theorem wpList_put {ops : Array Oper} {rest : List Oper} {o : Oper} {a : Act} {Q : Exit → Act → World → Prop} (w : World) (hg : o.guard = none) (m x v : Operand) (hop : o.op = Op.mapUpdate 57 m x v)
    (b n : Nat) (f : Int → Option Int) (hm : a.eval m = .map (some b)) (h : OwnM w b n f) (t i : Int) (hx : a.eval x = .int .i64 t) (hv : a.eval v = .int .i32 i) (ht : (Lit.int .i64 t).wf = true) (hi : (Lit.int .i32 i).wf = true) (hn : n < maxLen)
    (hK : ∀ w', OwnM w' b (n + 1) (fun k => if k = t then some i else f k) → w.grownBy w' (some b) → wpList Try.prog ops Q rest (a.put o.dst undef) w') :
    wpList Try.prog ops Q (o :: rest) a w := by
  refine wpList_plain hg fun K' hK' => ?_
  obtain ⟨w', hrun, r1, r2⟩ := h.put ht hi hn
  unfold Oper.wp
  simp [execOp, hop, hm, hx, hv, hrun, Result.andThen]
  exact hK' _ _ (hK w' r1 r2)

set_option maxRecDepth 100000 in
theorem far_of {w w2 w3 : World} {g : Nat} {M : List Int} {x : Int} {vM vM' vT : Value} {r : Option Nat} {T : List Int} {f : Int → Option Int} {b : Nat} (h : IxAt w g M vM vT r T f)
    (blk : w2.heap[g]? = some (.cells #[vM', vT, .map (some b)] 59 (0, 0))) (m : w2.ownsRow (g + 1) 3 1 vM' (M.length + 1) (i64s (M ++ [x]))) (t : w2.ownsRow (g + 1) 21 1 vT T.length (i32s T)) (hgb : g < b)
    (at' : vM'.ownBlock = vM.ownBlock ∨ (∃ c, vM'.ownBlock = some c ∧ w.heap.size ≤ c)) (kept : Kept (foot g vM vT r) w w2) (mt : ∀ c, vM'.ownBlock = some c → vT.ownBlock ≠ some c) (mr : vM'.ownBlock ≠ some b ∧ vT.ownBlock ≠ some b) (rb : r = some b ∨ w.heap.size ≤ b)
    (o3 : OwnM w3 b (M.length + 1) (fun k => if k = x then some (M.length : Int) else f k)) (g3 : w2.grownBy w3 (some b)) (h1 : tat T x = 0) (h2 : f x = none) (hml : M.length + 1 ≤ 4096) :
    OfPost g M x (foot g vM vT r) w (.returned (.int .i32 (M.length : Int))) w3 := by
  have e2 : (M ++ [x]).length = M.length + 1 := List.length_append
  refine ⟨M.length, M ++ [x], foot g vM' vT (some b), rfl, ⟨vM', vT, some b, T, _, ⟨?_, ?_, ?_, ?_, ?_, mt, ?_, h.inv.far h1 h2, by rw [e2]; exact hml, ?_⟩, rfl⟩, ?_, ?_, by simp, .inr ⟨h.inv.miss h1 h2, rfl, rfl⟩⟩
  · exact (g3.block g (lt_blk blk) (by intro e; injection e with e; omega)).trans blk
  · rw [e2]; exact m.kept g3 (.inr mr.1)
  · exact t.kept g3 (.inr mr.2)
  · intro c hc
    injection hc with hc
    subst hc
    rw [e2]
    exact ⟨o3, hgb⟩
  · intro e; cases e
  · intro c hc
    injection hc with hc
    subst hc
    exact mr
  · rw [e2]; have := h.tl; omega
  · refine kept.trans (S' := fun c => c = b) (Kept.of g3 (fun c hc => by injection hc with hc; exact hc.symm)) ?_
    rintro c rfl
    rcases rb with e | e
    · exact .inl (.inr (.inr (.inr e)))
    · exact .inr e
  · rintro c (hc | hc | hc | hc)
    · exact .inl (.inl hc)
    · rcases at' with e | ⟨b', e, hl⟩
      · exact .inl (.inr (.inl (by rw [← e]; exact hc)))
      · right; rw [hc] at e; injection e with e; omega
    · exact .inl (.inr (.inr (.inl hc)))
    · injection hc with hc
      subst hc
      rcases rb with e | e
      · exact .inl (.inr (.inr (.inr e)))
      · exact .inr e

set_option maxHeartbeats 2000000 in
set_option maxRecDepth 100000 in
/-- lookUp at a new number that the table cannot hold; the map is there. -/
theorem look_far_some {w : World} {g : Nat} {M : List Int} {vM vT : Value} {b : Nat} {T : List Int} {f : Int → Option Int} (h : IxAt w g M vM vT (some b) T f) (x : Int) (hx : x < 0 ∨ 4 * ((M.length : Int) + 1 + 1024) ≤ x) (hwf : (Lit.int .i64 x).wf = true) (h1 : tat T x = 0) (h2 : f x = none) (hml : M.length + 1 ≤ 4096) :
    Calls Try.prog 24 #[.pointer (some ⟨g, 0, none⟩), .int .i64 x] w (OfPost g M x (foot g vM vT (some b)) w) := by
  have htl := h.tl
  have hl := look_miss h x hwf h2
  obtain ⟨aM, cM, hvM⟩ := own_value h.m
  have HI : Hid (IxAt w g M vM vT (some b) T f) := h
  have HW : Hid ((Lit.int .i64 x).wf = true) := hwf
  have NE : Hid (∀ w2 w3 vM', Mid w w2 g M x vM vM' vT (some b) T f → OwnM w3 b (M.length + 1) (fun k => if k = x then some (M.length : Int) else f k) → w2.grownBy w3 (some b) → OfPost g M x (foot g vM vT (some b)) w (.returned (.int .i32 (M.length : Int))) w3) :=
    fun w2 w3 vM' md o3 g3 => far_of h md.blk md.m md.t (md.som b rfl).2 md.at' md.kept md.mt (md.mr b rfl) (.inl rfl) o3 g3 h1 h2 hml
  have SM : Hid (∀ w2 vM', Mid w w2 g M x vM vM' vT (some b) T f → OwnM w2 b M.length f) := fun w2 vM' md => (md.som b rfl).1
  have heq : ∀ W : World, (binOp .eql 57 (.map (some b)) (.map none)).run Try.prog W = .ok (.bool false) W := fun W => run_eql_map_nil W 57 3 21 (some b) Try.underlying57
  have c0 : w.cell? ⟨g, 0, none⟩ = some vM := cell_blk h.blk rfl
  have c1 : w.cell? ⟨g, 1, none⟩ = some vT := cell_blk h.blk rfl
  have c2 : w.cell? ⟨g, 2, none⟩ = some (.map (some b)) := cell_blk h.blk rfl
  have OM : Hid (w.ownsRow (g + 1) 3 1 vM M.length (i64s M)) := h.m
  have hgs := lt_blk h.blk
  obtain ⟨i3, hi3, hz30, hz31, hz32⟩ := info_parts info3
  subst hvM
  clear h h1 h2 hwf
  generalize hn : M.length = n at *
  have HN : Hid (M.length = n) := hn
  clear hn
  have hwi : Hid ((Lit.int .i32 (n : Int)).wf = true) := WalkArith.wf_i32 ⟨by omega, by omega⟩
  have arm : Hid True := trivial
  have hcase : (decide (x < 0) || decide (4 * ((n : Int) + 1 + 1024) ≤ x)) = true := by simpa using hx
  by_cases hneg : x < 0
  · go_enter Try.func24, Try.ntmps24
    go_wp2_with (first
      | (at_builtin; refine wpList_append_lies _ rfl (.tmp 31) (.tmp 33) 24 rfl (g + 1) 3 i3 (.int .i64 0) 1 8 Try.underlying24 hi3 hz30 hz31 hz32 rfl (by decide) (.slice aM n cM) n (i64s M) rfl (OM.out.alloc _) ⟨w.heap.size, 0, none⟩ 1 1 [.int .i64 x] rfl rfl (cell_one_new _ _ _) (one_mem _ rfl) (by omega) (by unfold maxLen; omega) (by omega) (by simp; omega) (w.heap.size + 1) (by simp) ?_; intro gm cm w1 o1 g1 b1 _; have bk := blk_mid HI.out g1; have d0 : w1.cell? ⟨g, 0, none⟩ = some (.slice aM n cM) := cell_blk bk rfl; have d2 : w1.cell? ⟨g, 2, none⟩ = some (.map (some b)) := cell_blk bk rfl; have fz : w1.frozen? ⟨g, 0, none⟩ = false := frozen_blk bk; have MD : Hid (Mid w (w1.setCell ⟨g, 0, none⟩ (.slice (some ⟨gm, 0, none⟩) (n + 1) cm)) g M x (.slice aM n cM) (.slice (some ⟨gm, 0, none⟩) (n + 1) cm) vT (some b) T f) := mid_of HI.out (by rw [HN.out]; exact o1) g1 (own_at b1); have ob : Hid (OwnM (w1.setCell ⟨g, 0, none⟩ (.slice (some ⟨gm, 0, none⟩) (n + 1) cm)) b n f) := SM.out _ _ MD.out; clear o1 g1 b1 bk hl)
      | (at_mapUpdate; refine wpList_put _ rfl (.tmp 64) (.tmp 65) (.tmp 66) rfl b n f rfl ob.out x (n : Int) rfl rfl HW.out hwi.out (by unfold maxLen; omega) ?_; intro w3 o3 g3; have PP : Hid _ := NE.out _ _ _ MD.out o3 g3; clear o3 g3))
    go_ret
    exact PP.out
  · have hge : 4 * ((n : Int) + 1 + 1024) ≤ x := by omega
    go_enter Try.func24, Try.ntmps24
    go_wp2_with (first
      | (at_builtin; refine wpList_append_lies _ rfl (.tmp 31) (.tmp 33) 24 rfl (g + 1) 3 i3 (.int .i64 0) 1 8 Try.underlying24 hi3 hz30 hz31 hz32 rfl (by decide) (.slice aM n cM) n (i64s M) rfl (OM.out.alloc _) ⟨w.heap.size, 0, none⟩ 1 1 [.int .i64 x] rfl rfl (cell_one_new _ _ _) (one_mem _ rfl) (by omega) (by unfold maxLen; omega) (by omega) (by simp; omega) (w.heap.size + 1) (by simp) ?_; intro gm cm w1 o1 g1 b1 _; have bk := blk_mid HI.out g1; have d0 : w1.cell? ⟨g, 0, none⟩ = some (.slice aM n cM) := cell_blk bk rfl; have d2 : w1.cell? ⟨g, 2, none⟩ = some (.map (some b)) := cell_blk bk rfl; have fz : w1.frozen? ⟨g, 0, none⟩ = false := frozen_blk bk; have MD : Hid (Mid w (w1.setCell ⟨g, 0, none⟩ (.slice (some ⟨gm, 0, none⟩) (n + 1) cm)) g M x (.slice aM n cM) (.slice (some ⟨gm, 0, none⟩) (n + 1) cm) vT (some b) T f) := mid_of HI.out (by rw [HN.out]; exact o1) g1 (own_at b1); have ob : Hid (OwnM (w1.setCell ⟨g, 0, none⟩ (.slice (some ⟨gm, 0, none⟩) (n + 1) cm)) b n f) := SM.out _ _ MD.out; clear o1 g1 b1 bk hl)
      | (at_mapUpdate; refine wpList_put _ rfl (.tmp 64) (.tmp 65) (.tmp 66) rfl b n f rfl ob.out x (n : Int) rfl rfl HW.out hwi.out (by unfold maxLen; omega) ?_; intro w3 o3 g3; have PP : Hid _ := NE.out _ _ _ MD.out o3 g3; clear o3 g3))
    go_ret
    exact PP.out
end Go.Proofs.Qxb6608766a
