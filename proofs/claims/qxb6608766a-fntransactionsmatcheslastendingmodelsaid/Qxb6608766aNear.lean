import Derived.Test.Qxb6608766aLook
import Derived.WalkArith
namespace Go.Proofs.Qxb6608766a
open Go.RowKit
set_option linter.unusedSimpArgs false
set_option linter.unusedVariables false

theorem own_value {w : World} {base e n : Nat} {v : Value} {xs : List Value} (h : w.ownsRow base e 1 v n xs) : ∃ a c, v = .slice a n c := by
  rcases h.2 with ⟨h1, h2⟩ | ⟨g, cap, cur, hv, _⟩
  · exact ⟨none, 0, by rw [h1, h2]⟩
  · exact ⟨_, _, hv⟩
theorem own_at {v : Value} {g n c : Nat} {w : World} {o : Obj} (h : v.ownBlock = some g ∨ g = w.heap.size + 1) : (Value.slice (some ⟨g, 0, none⟩) n c).ownBlock = v.ownBlock ∨ (Value.slice (some ⟨g, 0, none⟩) n c).ownBlock = some (w.alloc o).heap.size := by
  rcases h with h | h
  · left; rw [h]; rfl
  · right; rw [h]; simp [Value.ownBlock]
theorem one_mem (x : Value) (h : x.oneCell' = true) : ∀ u ∈ [x], u.oneCell' = true := by intro u hu; simp at hu; rw [hu]; exact h
theorem frozen_keep {w w' : World} {g : Nat} {cs : Array Value} {T : TypeId} (h : w'.heap[g]? = some (.cells cs T (0, 0))) (o : Nat) : w'.frozen? ⟨g, o, none⟩ = false := frozen_blk h

/-- The block of the index behind the append, ahead of the store. -/
theorem blk_mid {w w1 : World} {g : Nat} {M : List Int} {vM vT : Value} {r : Option Nat} {T : List Int} {f : Int → Option Int} {o : Obj} (h : IxAt w g M vM vT r T f) (g1 : (w.alloc o).grownBy w1 vM.ownBlock) :
    w1.heap[g]? = some (.cells #[vM, vT, .map r] 59 (0, 0)) := by
  have hg := lt_blk h.blk
  have nM : vM.ownBlock ≠ some g := fun e => by have := (h.m.lt g e).1; omega
  exact ((g1.block g (by simp; omega) (fun e => nM e.symm)).trans (Below.heap_alloc w o g hg)).trans h.blk

theorem i32s_set (T : List Int) (k : Nat) (v : Int) : (i32s T).set k (.int .i32 v) = i32s (T.set k v) := by simp [i32s, List.map_set]

set_option maxRecDepth 100000 in
/-- The number's place in the table is written. -/
theorem near_of {w w2 : World} {g : Nat} {M : List Int} {x : Nat} {vM vM' vT : Value} {r : Option Nat} {T : List Int} {f : Int → Option Int} {tb cap : Nat} (h : IxAt w g M vM vT r T f) (md : Mid w w2 g M (x : Int) vM vM' vT r T f) (hvT : vT = .slice (some ⟨tb, 0, none⟩) T.length cap)
    (hx : x < T.length) (h1 : tat T (x : Int) = 0) (h2 : f (x : Int) = none) (hml : M.length + 1 ≤ 4096) :
    OfPost g M (x : Int) (foot g vM vT r) w (.returned (.int .i32 (M.length : Int))) (w2.setCell ⟨tb, x, none⟩ (.int .i32 ((M.length : Int) + 1))) := by
  subst hvT
  have st := md.t.stored x (.int .i32 ((M.length : Int) + 1))
  rw [i32s_set] at st
  have hinv := h.inv.near 0 h1 h2 (by omega)
  simp only [List.replicate_zero, List.append_nil] at hinv
  have gT := md.t.lt tb rfl
  have nB : ∀ b, vM'.ownBlock = some b → b ≠ tb := fun b hb e => md.mt b hb (by rw [e]; rfl)
  refine ⟨M.length, M ++ [(x : Int)], foot g vM' (.slice (some ⟨tb, 0, none⟩) T.length cap) r, rfl, ⟨vM', _, r, T.set x ((M.length : Int) + 1), f, ⟨?_, ?_, ?_, ?_, ?_, md.mt, md.mr, hinv, by simp; omega, ?_⟩, rfl⟩, ?_, ?_, by simp, .inr ⟨h.inv.miss h1 h2, rfl, rfl⟩⟩
  · exact (st.2.block g (lt_blk md.blk) (by intro e; injection e with e; omega)).trans md.blk
  · rw [List.length_append]
    refine md.m.kept st.2 ?_
    cases hv : vM'.ownBlock with
    | none => exact .inl rfl
    | some b => right; intro e; injection e with e; exact nB b hv e
  · rw [List.length_set]; exact st.1
  · intro b hb
    obtain ⟨hO, hgb⟩ := md.som b hb
    have hk : OwnM (w2.setCell ⟨tb, x, none⟩ (.int .i32 ((M.length : Int) + 1))) b M.length f := hO.kept st.2 (by
      intro e; injection e with e
      exact (md.mr b hb).2 (by rw [e]; rfl))
    obtain ⟨D, hD, hf⟩ := hk
    exact ⟨⟨D, hD.mono (by simp), hf⟩, hgb⟩
  · exact h.non
  · have e1 : (T.set x ((M.length : Int) + 1)).length = T.length := List.length_set
    have e2 : (M ++ [(x : Int)]).length = M.length + 1 := List.length_append
    have := h.tl
    rw [e1, e2]
    omega
  · exact md.kept.trans (Kept.of (S := foot g vM (.slice (some ⟨tb, 0, none⟩) T.length cap) r) st.2 (fun b hb => .inr (.inr (.inl hb)))) (fun b hb => .inl hb)
  · rintro b (hb | hb | hb | hb)
    · exact .inl (.inl hb)
    · rcases md.at' with e | ⟨b', e, hl⟩
      · exact .inl (.inr (.inl (by rw [← e]; exact hb)))
      · right; rw [hb] at e; injection e with e; omega
    · exact .inl (.inr (.inr (.inl hb)))
    · exact .inl (.inr (.inr (.inr hb)))

set_option maxHeartbeats 2000000 in
set_option maxRecDepth 100000 in
/-- lookUp at a new number that the table has room for. -/
theorem look_near {w : World} {g : Nat} {M : List Int} {vM vT : Value} {r : Option Nat} {T : List Int} {f : Int → Option Int} (h : IxAt w g M vM vT r T f) (x : Nat) (hx : x < T.length) (h1 : tat T (x : Int) = 0) (h2 : f (x : Int) = none) (hml : M.length + 1 ≤ 4096) :
    Calls Try.prog 24 #[.pointer (some ⟨g, 0, none⟩), .int .i64 (x : Int)] w (OfPost g M (x : Int) (foot g vM vT r) w) := by
  have htl := h.tl
  have hwf : (Lit.int .i64 (x : Int)).wf = true := WalkArith.wf_i64 ⟨by omega, by omega⟩
  have hl := look_miss h (x : Int) hwf h2
  obtain ⟨tb, cap, hvT, _, _⟩ := h.t.form (by omega)
  obtain ⟨aM, cM, hvM⟩ := own_value h.m
  have HI : Hid (IxAt w g M vM vT r T f) := h
  have NE : Hid (∀ w2 vM', Mid w w2 g M (x : Int) vM vM' vT r T f → OfPost g M (x : Int) (foot g vM vT r) w (.returned (.int .i32 (M.length : Int))) (w2.setCell ⟨tb, x, none⟩ (.int .i32 ((M.length : Int) + 1)))) :=
    fun w2 vM' md => near_of h md hvT hx h1 h2 hml
  have TC : Hid (∀ w2 vM', Mid w w2 g M (x : Int) vM vM' vT r T f → w2.cell? ⟨tb, x, none⟩ = some (.int .i32 0) ∧ w2.frozen? ⟨tb, x, none⟩ = false) := fun w2 vM' md => by
    have ht := md.t
    rw [hvT] at ht
    exact ⟨by rw [ht.cellAt x (by omega), i32s_at T x hx, ← tat_nat, h1], ht.frozenAt x⟩
  have c0 : w.cell? ⟨g, 0, none⟩ = some vM := cell_blk h.blk rfl
  have c1 : w.cell? ⟨g, 1, none⟩ = some vT := cell_blk h.blk rfl
  have c2 : w.cell? ⟨g, 2, none⟩ = some (.map r) := cell_blk h.blk rfl
  have OM : Hid (w.ownsRow (g + 1) 3 1 vM M.length (i64s M)) := h.m
  have hgs := lt_blk h.blk
  obtain ⟨i3, hi3, hz30, hz31, hz32⟩ := info_parts info3
  subst hvT hvM
  clear h h1 h2 hwf
  generalize hn : M.length = n at *
  generalize hL : T.length = L at *
  have HN : Hid (M.length = n) := hn
  clear hn hL
  go_enter Try.func24, Try.ntmps24
  go_wp2_with (first
    | (at_builtin; refine wpList_append_lies _ rfl (.tmp 31) (.tmp 33) 24 rfl (g + 1) 3 i3 (.int .i64 0) 1 8 Try.underlying24 hi3 hz30 hz31 hz32 rfl (by decide) (.slice aM n cM) n (i64s M) rfl (OM.out.alloc _) ⟨w.heap.size, 0, none⟩ 1 1 [.int .i64 (x : Int)] rfl rfl (cell_one_new _ _ _) (one_mem _ rfl) (by omega) (by unfold maxLen; omega) (by omega) (by simp; omega) (w.heap.size + 1) (by simp) ?_; intro gm cm w1 o1 g1 b1 _; have bk := blk_mid HI.out g1; have d0 : w1.cell? ⟨g, 0, none⟩ = some (.slice aM n cM) := cell_blk bk rfl; have d1 : w1.cell? ⟨g, 1, none⟩ = some (.slice (some ⟨tb, 0, none⟩) L cap) := cell_blk bk rfl; have fz : w1.frozen? ⟨g, 0, none⟩ = false := frozen_blk bk; have MD : Hid (Mid w (w1.setCell ⟨g, 0, none⟩ (.slice (some ⟨gm, 0, none⟩) (n + 1) cm)) g M (x : Int) (.slice aM n cM) (.slice (some ⟨gm, 0, none⟩) (n + 1) cm) (.slice (some ⟨tb, 0, none⟩) L cap) r T f) := mid_of HI.out (by rw [HN.out]; exact o1) g1 (own_at b1); obtain ⟨tc, tf⟩ := TC.out _ _ MD.out; clear o1 g1 b1 bk hl))
  go_ret
  exact NE.out _ _ MD.out
end Go.Proofs.Qxb6608766a
