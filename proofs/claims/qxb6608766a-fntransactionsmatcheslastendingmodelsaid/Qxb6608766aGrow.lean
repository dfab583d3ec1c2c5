import Derived.Test.Qxb6608766aFar0
namespace Go.Proofs.Qxb6608766a
open Go.RowKit
set_option linter.unusedSimpArgs false
set_option linter.unusedVariables false

theorem i32s_zeros (T : List Int) (k : Nat) : i32s T ++ List.replicate k (.int .i32 0) = i32s (T ++ List.replicate k 0) := by simp [i32s]

set_option maxRecDepth 100000 in
theorem grow_of {w w2 w3 : World} {g : Nat} {M : List Int} {x : Nat} {vM vM' vT : Value} {r : Option Nat} {T : List Int} {f : Int → Option Int} {tb cap k : Nat} (h : IxAt w g M vM vT r T f) (md : Mid w w2 g M (x : Int) vM vM' vT r T f)
    (o3 : w3.ownsRow (g + 1) 21 1 (.slice (some ⟨tb, 0, none⟩) (T.length + k) cap) (T.length + k) (i32s T ++ List.replicate k (.int .i32 0))) (g3 : w2.drew.grownBy w3 vT.ownBlock) (b3 : (Value.slice (some ⟨tb, 0, none⟩) (T.length + k) cap).ownBlock = vT.ownBlock ∨ (Value.slice (some ⟨tb, 0, none⟩) (T.length + k) cap).ownBlock = some w2.heap.size)
    (hx : x < T.length + k) (hk : T.length + k ≤ 4 * (M.length + 1 + 1024)) (h1 : tat T (x : Int) = 0) (h2 : f (x : Int) = none) (hml : M.length + 1 ≤ 4096) :
    (w3.heap[g]? = some (.cells #[vM', vT, .map r] 59 (0, 0)) ∧ g ≠ tb) ∧
    (∃ u, (w3.setCell ⟨g, 1, none⟩ (.slice (some ⟨tb, 0, none⟩) (T.length + k) cap)).cell? ⟨tb, x, none⟩ = some (.int .i32 u)) ∧ (w3.setCell ⟨g, 1, none⟩ (.slice (some ⟨tb, 0, none⟩) (T.length + k) cap)).frozen? ⟨tb, x, none⟩ = false ∧
    OfPost g M (x : Int) (foot g vM vT r) w (.returned (.int .i32 (M.length : Int))) ((w3.setCell ⟨g, 1, none⟩ (.slice (some ⟨tb, 0, none⟩) (T.length + k) cap)).setCell ⟨tb, x, none⟩ (.int .i32 ((M.length : Int) + 1))) := by
  have hg2 := lt_blk md.blk
  have hsz : w2.drew.heap.size = w2.heap.size := rfl
  have nT : vT.ownBlock ≠ some g := fun e => by have := (md.t.lt g e).1; omega
  have nM : vM'.ownBlock ≠ some g := fun e => by have := (md.m.lt g e).1; omega
  have ntb : g < tb := (o3.lt tb rfl).1
  have blk3 : w3.heap[g]? = some (.cells #[vM', vT, .map r] 59 (0, 0)) := (g3.block g hg2 (fun e => nT e.symm)).trans md.blk
  have lift : tb = w2.heap.size ∨ vT.ownBlock = some tb := by
    rcases b3 with e | e
    · right; rw [← e]; rfl
    · left; simpa [Value.ownBlock] using e
  have mtb : vM'.ownBlock ≠ some tb := fun e => by
    rcases lift with hl | hl
    · have := (md.m.lt tb e).2; omega
    · exact md.mt tb e hl
  have rtb : r ≠ some tb := fun e => by
    rcases lift with hl | hl
    · have := (md.som tb e).1.lt; omega
    · exact (md.mr tb e).2 hl
  have mT : vM'.ownBlock = none ∨ vM'.ownBlock ≠ vT.ownBlock := by
    cases hv : vM'.ownBlock with
    | none => exact .inl rfl
    | some b => right; intro e; exact md.mt b hv e.symm
  have m3 : w3.ownsRow (g + 1) 3 1 vM' (M.length + 1) (i64s (M ++ [(x : Int)])) := md.m.drew.kept g3 mT
  have s3 : ∀ b, r = some b → OwnM w3 b M.length f ∧ g < b := fun b hb => by
    obtain ⟨hO, hgb⟩ := md.som b hb
    have : OwnM w2.drew b M.length f := hO
    exact ⟨this.kept g3 (fun e => (md.mr b hb).2 e.symm), hgb⟩
  have g4 : w3.grownBy (w3.setCell ⟨g, 1, none⟩ (.slice (some ⟨tb, 0, none⟩) (T.length + k) cap)) (some g) := ⟨rfl, rfl, rfl, by simp, fun j _ hj => heap_setCell_other _ ⟨g, 1, none⟩ j _ (fun e => hj (by rw [e]))⟩
  have blk4 : (w3.setCell ⟨g, 1, none⟩ (.slice (some ⟨tb, 0, none⟩) (T.length + k) cap)).heap[g]? = some (.cells #[vM', .slice (some ⟨tb, 0, none⟩) (T.length + k) cap, .map r] 59 (0, 0)) := heap_setCell_same _ g 1 _ 59 _ blk3
  have m4 := m3.kept g4 (.inr nM)
  have t4 : (w3.setCell ⟨g, 1, none⟩ (.slice (some ⟨tb, 0, none⟩) (T.length + k) cap)).ownsRow (g + 1) 21 1 (.slice (some ⟨tb, 0, none⟩) (T.length + k) cap) (T.length + k) (i32s (T ++ List.replicate k 0)) := by
    rw [← i32s_zeros]
    exact o3.kept g4 (.inr (by intro e; simp [Value.ownBlock] at e; omega))
  have hlz : (T ++ List.replicate k (0 : Int)).length = T.length + k := by simp
  have cx : (w3.setCell ⟨g, 1, none⟩ (.slice (some ⟨tb, 0, none⟩) (T.length + k) cap)).cell? ⟨tb, x, none⟩ = some (.int .i32 ((T ++ List.replicate k (0 : Int)).getD x 0)) := by
    rw [t4.cellAt x (by omega), i32s_at _ x (by omega)]
  have st := t4.stored x (.int .i32 ((M.length : Int) + 1))
  rw [i32s_set] at st
  refine ⟨⟨blk3, by omega⟩, ⟨_, cx⟩, t4.frozenAt x, ?_⟩
  have e2 : (M ++ [(x : Int)]).length = M.length + 1 := List.length_append
  have e3 : ((T ++ List.replicate k (0 : Int)).set x ((M.length : Int) + 1)).length = T.length + k := by rw [List.length_set, hlz]
  have b0 : w.heap.size ≤ w2.heap.size := md.kept.size
  have tbS : (Value.slice (some ⟨tb, 0, none⟩) (T.length + k) cap).ownBlock = some tb := rfl
  refine ⟨M.length, M ++ [(x : Int)], foot g vM' (.slice (some ⟨tb, 0, none⟩) (T.length + k) cap) r, rfl, ⟨vM', _, r, (T ++ List.replicate k 0).set x ((M.length : Int) + 1), f, ⟨?_, ?_, ?_, ?_, h.non, ?_, ?_, h.inv.near k h1 h2 hx, by rw [e2]; exact hml, by rw [e3, e2]; exact hk⟩, rfl⟩, ?_, ?_, by simp, .inr ⟨h.inv.miss h1 h2, rfl, rfl⟩⟩
  · exact (st.2.block g (lt_blk blk4) (by intro e; injection e with e; omega)).trans blk4
  · rw [e2]; exact m4.kept st.2 (.inr mtb)
  · rw [e3]; exact st.1
  · intro b hb
    obtain ⟨hO, hgb⟩ := s3 b hb
    have h4 := hO.kept g4 (by intro e; injection e with e; omega)
    obtain ⟨D, hD, hf⟩ := h4.kept st.2 (by intro e; injection e with e; exact rtb (by rw [hb, e]))
    exact ⟨⟨D, hD.mono (by rw [e2]; omega), hf⟩, hgb⟩
  · intro b hb e
    rw [tbS] at e
    injection e with e
    exact mtb (by rw [e]; exact hb)
  · intro b hb
    refine ⟨(md.mr b hb).1, fun e => ?_⟩
    rw [tbS] at e
    injection e with e
    exact rtb (by rw [hb, e])
  · have k3 : Kept (foot g vM vT r) w2 w3 := ⟨g3.os, g3.tape, g3.output, g3.size, fun j hj hs => g3.block j hj (fun e => hs (.inr (.inr (.inl e.symm))))⟩
    have k4 : Kept (foot g vM vT r) w3 (w3.setCell ⟨g, 1, none⟩ (.slice (some ⟨tb, 0, none⟩) (T.length + k) cap)) := Kept.of g4 (fun c hc => .inl (by injection hc with hc; exact hc.symm))
    refine ((md.kept.trans k3 (fun c hc => .inl hc)).trans k4 (fun c hc => .inl hc)).trans (S' := fun c => c = tb) (Kept.of st.2 (fun c hc => by injection hc with hc; exact hc.symm)) ?_
    rintro c rfl
    rcases lift with hl | hl
    · right; omega
    · exact .inl (.inr (.inr (.inl hl)))
  · rintro b (hb | hb | hb | hb)
    · exact .inl (.inl hb)
    · rcases md.at' with e | ⟨b', e, hl⟩
      · exact .inl (.inr (.inl (by rw [← e]; exact hb)))
      · right; rw [hb] at e; injection e with e; omega
    · rw [tbS] at hb
      injection hb with hb
      rcases lift with hl | hl
      · right; omega
      · exact .inl (.inr (.inr (.inl (by rw [← hb]; exact hl))))
    · exact .inl (.inr (.inr (.inr hb)))
end Go.Proofs.Qxb6608766a
