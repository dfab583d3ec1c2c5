import Derived.Test.Qxb6608766aOf
namespace Go.Proofs.Qxb6608766a
open Go.RowKit
set_option linter.unusedSimpArgs false
set_option linter.unusedVariables false

set_option maxHeartbeats 1000000 in
/-- lookUp, where the map holds the number. -/
theorem look_hit {w : World} {g : Nat} {M : List Int} {vM vT : Value} {r : Option Nat} {T : List Int} {f : Int → Option Int} (h : IxAt w g M vM vT r T f) (x i : Int) (hx : (Lit.int .i64 x).wf = true) (hf : f x = some i) :
    Calls Try.prog 24 #[.pointer (some ⟨g, 0, none⟩), .int .i64 x] w (OfPost g M x (foot g vM vT r) w) := by
  obtain ⟨k, rfl, hM⟩ := h.inv.oth x i hf
  have P : Hid (OfPost g M x (foot g vM vT r) w (.returned (.int .i32 (k : Int))) w) :=
    ⟨k, M, _, rfl, ⟨vM, vT, r, T, f, h, rfl⟩, Kept.refl _ _, fun b hb => .inl hb, hM, .inl ⟨List.mem_of_getElem? hM, rfl⟩⟩
  cases r with
  | none => rw [h.non rfl x] at hf; cases hf
  | some b =>
    have hl := (h.som b rfl).1.look hx
    rw [hf] at hl
    simp only [Option.getD_some, Option.isSome_some] at hl
    have c2 : w.cell? ⟨g, 2, none⟩ = some (.map (some b)) := cell_blk h.blk rfl
    clear h hM hf hx
    go_enter Try.func24, Try.ntmps24
    go_wp2
    go_ret
    exact P.out

/-- The map's word where the number is new. -/
theorem look_miss {w : World} {g : Nat} {M : List Int} {vM vT : Value} {r : Option Nat} {T : List Int} {f : Int → Option Int} (h : IxAt w g M vM vT r T f) (x : Int) (hx : (Lit.int .i64 x).wf = true) (hf : f x = none) :
    (Instr.lookup 57 (.map r) (.int .i64 x) true).run Try.prog w = .ok (.tuple #[.int .i32 0, .bool false]) w := by
  cases r with
  | none => exact look_none hx w
  | some b =>
    have hl := (h.som b rfl).1.look hx
    rw [hf] at hl
    exact hl

theorem i64s_snoc (M : List Int) (x : Int) : i64s M ++ [.int .i64 x] = i64s (M ++ [x]) := by simp [i64s]

/-- The number is laid into the list of those met: what stands then. -/
structure Mid (w w2 : World) (g : Nat) (M : List Int) (x : Int) (vM vM' vT : Value) (r : Option Nat) (T : List Int) (f : Int → Option Int) : Prop where
  blk : w2.heap[g]? = some (.cells #[vM', vT, .map r] 59 (0, 0))
  m : w2.ownsRow (g + 1) 3 1 vM' (M.length + 1) (i64s (M ++ [x]))
  t : w2.ownsRow (g + 1) 21 1 vT T.length (i32s T)
  som : ∀ b, r = some b → OwnM w2 b M.length f ∧ g < b
  at' : vM'.ownBlock = vM.ownBlock ∨ (∃ b, vM'.ownBlock = some b ∧ w.heap.size ≤ b)
  kept : Kept (foot g vM vT r) w w2
  mt : ∀ b, vM'.ownBlock = some b → vT.ownBlock ≠ some b
  mr : ∀ b, r = some b → vM'.ownBlock ≠ some b ∧ vT.ownBlock ≠ some b

/-- Behind the append of x and the store of the new slice. -/
theorem mid_of {w w1 : World} {g : Nat} {M : List Int} {x : Int} {vM vM' vT : Value} {r : Option Nat} {T : List Int} {f : Int → Option Int} {o : Obj} (h : IxAt w g M vM vT r T f)
    (o1 : w1.ownsRow (g + 1) 3 1 vM' (M.length + 1) (i64s M ++ [.int .i64 x])) (g1 : (w.alloc o).grownBy w1 vM.ownBlock) (b1 : vM'.ownBlock = vM.ownBlock ∨ vM'.ownBlock = some (w.alloc o).heap.size) :
    Mid w (w1.setCell ⟨g, 0, none⟩ vM') g M x vM vM' vT r T f := by
  have hg := lt_blk h.blk
  have hsz : (w.alloc o).heap.size = w.heap.size + 1 := by simp
  have ha : ∀ b, b < w.heap.size → (w.alloc o).heap[b]? = w.heap[b]? := fun b hb => Below.heap_alloc w o b hb
  have nM : vM.ownBlock ≠ some g := fun e => by have := (h.m.lt g e).1; omega
  have nM' : vM'.ownBlock ≠ some g := fun e => by have := (o1.lt g e).1; omega
  have nT : vT.ownBlock ≠ some g := fun e => by have := (h.t.lt g e).1; omega
  have blk1 : w1.heap[g]? = some (.cells #[vM, vT, .map r] 59 (0, 0)) := ((g1.block g (by rw [hsz]; omega) (fun e => nM e.symm)).trans (ha g hg)).trans h.blk
  have hTM : vT.ownBlock = none ∨ vT.ownBlock ≠ vM.ownBlock := by
    cases hv : vT.ownBlock with
    | none => exact .inl rfl
    | some b => right; intro e; exact h.mt b e.symm hv
  have t1 : w1.ownsRow (g + 1) 21 1 vT T.length (i32s T) := (h.t.alloc o).kept g1 hTM
  have lift : ∀ b, vM'.ownBlock = some b → vM.ownBlock = some b ∨ b = w.heap.size + 1 := fun b hb => by
    rcases b1 with e | e
    · left; rw [← e]; exact hb
    · right; rw [hb] at e; injection e with e; omega
  have blk2 : (w1.setCell ⟨g, 0, none⟩ vM').heap[g]? = some (.cells #[vM', vT, .map r] 59 (0, 0)) := heap_setCell_same w1 g 0 _ 59 vM' blk1
  have oth2 : ∀ k, k ≠ g → (w1.setCell ⟨g, 0, none⟩ vM').heap[k]? = w1.heap[k]? := fun k hk => heap_setCell_other w1 ⟨g, 0, none⟩ k vM' hk
  have g2 : w1.grownBy (w1.setCell ⟨g, 0, none⟩ vM') (some g) := ⟨rfl, rfl, rfl, by simp, fun k _ hk => oth2 k (fun e => hk (by rw [e]))⟩
  refine ⟨blk2, ?_, ?_, ?_, ?_, ?_, ?_, ?_⟩
  · rw [← i64s_snoc]
    exact o1.kept g2 (.inr nM')
  · exact t1.kept g2 (.inr nT)
  · intro b hb
    obtain ⟨hO, hgb⟩ := h.som b hb
    have hO1 : OwnM (w.alloc o) b M.length f := hO.kept (World.grownBy_alloc w o none) (by simp)
    have hO2 := hO1.kept g1 (fun e => (h.mr b hb).1 e.symm)
    exact ⟨hO2.kept g2 (by intro e; injection e with e; omega), hgb⟩
  · rcases b1 with e | e
    · exact .inl e
    · exact .inr ⟨_, e, by rw [hsz]; omega⟩
  · have k1 : Kept (foot g vM vT r) w (w.alloc o) := Kept.of (World.grownBy_alloc w o none) (fun b hb => by cases hb)
    have k2 : Kept (foot g vM vT r) (w.alloc o) w1 := Kept.of g1 (fun b hb => .inr (.inl hb))
    have k3 : Kept (foot g vM vT r) w1 (w1.setCell ⟨g, 0, none⟩ vM') := Kept.of g2 (fun b hb => .inl (by injection hb with hb; exact hb.symm))
    exact (k1.trans k2 (fun b hb => .inl hb)).trans k3 (fun b hb => .inl hb)
  · intro b hb hT
    rcases lift b hb with e | e
    · exact h.mt b e hT
    · have := (h.t.lt b hT).2; omega
  · intro b hb
    refine ⟨fun e => ?_, (h.mr b hb).2⟩
    rcases lift b e with e | e
    · exact (h.mr b hb).1 e
    · have := (h.som b hb).1.lt; omega
end Go.Proofs.Qxb6608766a
