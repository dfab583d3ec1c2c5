import Derived.Test.Qxb6608766aKit
import Derived.Laws.OwnMore
namespace Go.Proofs.Qxb6608766a
open Go.RowKit
set_option linter.unusedSimpArgs false
set_option linter.unusedVariables false

/-! The index of numbers: what it holds. No Go here. -/
def tat (T : List Int) (x : Int) : Int := if 0 ≤ x then T.getD x.toNat 0 else 0
/-- M: the numbers met, in their order; T: the table; f: the map. -/
structure Inv (M T : List Int) (f : Int → Option Int) : Prop where
  nd : M.Nodup
  tab : ∀ x : Int, tat T x = 0 ∨ ∃ i : Nat, tat T x = (i : Int) + 1 ∧ M[i]? = some x
  oth : ∀ x i : Int, f x = some i → ∃ k : Nat, i = (k : Int) ∧ M[k]? = some x
  all : ∀ x ∈ M, tat T x ≠ 0 ∨ (f x).isSome = true
theorem Inv.empty : Inv [] [] (fun _ => none) :=
  ⟨List.nodup_nil, (fun x => .inl (by unfold tat; split <;> simp)), (fun x i h => by simp at h), (fun x h => by simp at h)⟩
theorem tat_nat (T : List Int) (x : Nat) : tat T (x : Int) = T.getD x 0 := by unfold tat; rw [if_pos (by omega)]; simp
theorem tat_neg (T : List Int) {x : Int} (h : x < 0) : tat T x = 0 := by unfold tat; rw [if_neg (by omega)]
theorem tat_zeros (T : List Int) (k : Nat) (x : Int) : tat (T ++ List.replicate k 0) x = tat T x := by
  unfold tat
  split
  · simp only [List.getD_eq_getElem?_getD]
    by_cases h : x.toNat < T.length
    · rw [List.getElem?_append_left h]
    · rw [List.getElem?_append_right (by omega), List.getElem?_eq_none (l := T) (by omega)]
      by_cases h2 : x.toNat - T.length < k
      · simp [h2]
      · rw [List.getElem?_eq_none (by simp; omega)]
  · rfl
theorem tat_set {T : List Int} {x : Nat} (hx : x < T.length) (v y : Int) : tat (T.set x v) y = if y = x then v else tat T y := by
  unfold tat
  by_cases hy : 0 ≤ y
  · rw [if_pos hy, if_pos hy]
    simp only [List.getD_eq_getElem?_getD, List.getElem?_set]
    by_cases e : y = x
    · subst e
      simp [hx]
    · rw [if_neg e, if_neg (by omega)]
  · rw [if_neg hy, if_neg hy, if_neg (by omega)]
theorem Inv.miss {M T : List Int} {f : Int → Option Int} (h : Inv M T f) {x : Int} (h1 : tat T x = 0) (h2 : f x = none) : x ∉ M := fun hm => by
  rcases h.all x hm with h | h
  · exact h h1
  · rw [h2] at h; cases h
theorem snoc_old {M : List Int} {x y : Int} {k : Nat} (h : M[k]? = some y) : (M ++ [x])[k]? = some y := by
  have hk := (List.getElem?_eq_some_iff.1 h).1
  rw [List.getElem?_append_left hk, h]
theorem snoc_new (M : List Int) (x : Int) : (M ++ [x])[M.length]? = some x := by simp
theorem snoc_nd {M : List Int} {x : Int} (h : M.Nodup) (hx : x ∉ M) : (M ++ [x]).Nodup := by
  rw [List.nodup_append]
  refine ⟨h, by simp, fun a ha b hb => ?_⟩
  simp at hb
  subst hb
  exact fun e => hx (e ▸ ha)
theorem Inv.far {M T : List Int} {f : Int → Option Int} (h : Inv M T f) {x : Int} (h1 : tat T x = 0) (h2 : f x = none) : Inv (M ++ [x]) T (fun k => if k = x then some (M.length : Int) else f k) := by
  refine ⟨snoc_nd h.nd (h.miss h1 h2), fun y => ?_, fun y i hy => ?_, fun y hy => ?_⟩
  · rcases h.tab y with h | ⟨i, h3, h4⟩
    · exact .inl h
    · exact .inr ⟨i, h3, snoc_old h4⟩
  · by_cases e : y = x
    · subst e
      simp at hy
      exact ⟨M.length, hy.symm, snoc_new _ _⟩
    · simp only [if_neg e] at hy
      obtain ⟨k, h3, h4⟩ := h.oth y i hy
      exact ⟨k, h3, snoc_old h4⟩
  · by_cases e : y = x
    · right; simp [e]
    · rcases List.mem_append.1 hy with hy | hy
      · rcases h.all y hy with h | h
        · exact .inl h
        · right; simp only [if_neg e]; exact h
      · simp at hy; exact absurd hy e
theorem Inv.near {M T : List Int} {f : Int → Option Int} (h : Inv M T f) {x : Nat} (k : Nat) (h1 : tat T (x : Int) = 0) (h2 : f (x : Int) = none) (hx : x < T.length + k) :
    Inv (M ++ [(x : Int)]) ((T ++ List.replicate k 0).set x ((M.length : Int) + 1)) f := by
  have ht : ∀ y, tat ((T ++ List.replicate k 0).set x ((M.length : Int) + 1)) y = if y = x then (M.length : Int) + 1 else tat T y := fun y => by
    rw [tat_set (by simp; omega), tat_zeros]
  refine ⟨snoc_nd h.nd (h.miss h1 h2), fun y => ?_, fun y i hy => ?_, fun y hy => ?_⟩
  · rw [ht]
    by_cases e : y = x
    · right; rw [if_pos e]; exact ⟨M.length, rfl, by rw [e]; exact snoc_new _ _⟩
    · rw [if_neg e]
      rcases h.tab y with h | ⟨i, h3, h4⟩
      · exact .inl h
      · exact .inr ⟨i, h3, snoc_old h4⟩
  · obtain ⟨k, h3, h4⟩ := h.oth y i hy
    exact ⟨k, h3, snoc_old h4⟩
  · rw [ht]
    by_cases e : y = x
    · left; rw [if_pos e]; omega
    · rw [if_neg e]
      rcases List.mem_append.1 hy with hy | hy
      · exact h.all y hy
      · simp at hy; exact absurd hy e

/-! The index in memory. -/
structure Kept (S : Nat → Prop) (w w' : World) : Prop where
  os : w'.os = w.os
  tape : w'.tape = w.tape
  output : w'.output = w.output
  size : w.heap.size ≤ w'.heap.size
  block : ∀ k, k < w.heap.size → ¬ S k → w'.heap[k]? = w.heap[k]?
theorem Kept.refl (S : Nat → Prop) (w : World) : Kept S w w := ⟨rfl, rfl, rfl, Nat.le_refl _, fun _ _ _ => rfl⟩
theorem Kept.of {S : Nat → Prop} {w w' : World} {row : Option Nat} (g : w.grownBy w' row) (h : ∀ b, row = some b → S b) : Kept S w w' :=
  ⟨g.os, g.tape, g.output, g.size, fun k hk hs => g.block k hk (fun e => hs (h k e.symm))⟩
theorem Kept.trans {S S' : Nat → Prop} {a b c : World} (h : Kept S a b) (k : Kept S' b c) (hs : ∀ x, S' x → S x ∨ a.heap.size ≤ x) : Kept S a c :=
  ⟨k.os.trans h.os, k.tape.trans h.tape, k.output.trans h.output, Nat.le_trans h.size k.size, fun x hx hn => (k.block x (Nat.lt_of_lt_of_le hx h.size) (fun e => by rcases hs x e with e | e; exact hn e; omega)).trans (h.block x hx hn)⟩
theorem Kept.bel {S : Nat → Prop} {w w' : World} (h : Kept S w w') {g : Nat} (hs : ∀ x, S x → g ≤ x) (hg : g ≤ w.heap.size) : Below g w w' :=
  ⟨h.os, h.tape, h.output, h.size, fun k hk => h.block k (by omega) (fun e => by have := hs k e; omega)⟩
theorem Kept.grown {S : Nat → Prop} {w w' : World} (h : Kept S w w') {v : Value} {base e sz n : Nat} {xs : List Value} (ho : w.ownsRow base e sz v n xs) (hs : ∀ b, v.ownBlock = some b → ¬ S b) : w'.ownsRow base e sz v n xs := by
  obtain ⟨h0, hc⟩ := ho
  refine ⟨h0, ?_⟩
  rcases hc with hc | ⟨g, cap, cur, rfl, hb, hg, hr⟩
  · exact .inl hc
  · exact .inr ⟨g, cap, cur, rfl, hb, (h.block g (lt_blk hg) (hs g rfl)).trans hg, hr⟩

/-- The blocks that an index has. -/
def foot (g : Nat) (vM vT : Value) (r : Option Nat) (b : Nat) : Prop := b = g ∨ vM.ownBlock = some b ∨ vT.ownBlock = some b ∨ r = some b

def i64s (M : List Int) : List Value := M.map (Value.int .i64)
def i32s (T : List Int) : List Value := T.map (Value.int .i32)

structure IxAt (w : World) (g : Nat) (M : List Int) (vM vT : Value) (r : Option Nat) (T : List Int) (f : Int → Option Int) : Prop where
  blk : w.heap[g]? = some (.cells #[vM, vT, .map r] 59 (0, 0))
  m : w.ownsRow (g + 1) 3 1 vM M.length (i64s M)
  t : w.ownsRow (g + 1) 21 1 vT T.length (i32s T)
  som : ∀ b, r = some b → OwnM w b M.length f ∧ g < b
  non : r = none → ∀ x, f x = none
  mt : ∀ b, vM.ownBlock = some b → vT.ownBlock ≠ some b
  mr : ∀ b, r = some b → vM.ownBlock ≠ some b ∧ vT.ownBlock ≠ some b
  inv : Inv M T f
  ml : M.length ≤ 4096
  tl : T.length ≤ 4 * (M.length + 1024)

def Ix (w : World) (g : Nat) (M : List Int) (S : Nat → Prop) : Prop := ∃ vM vT r T f, IxAt w g M vM vT r T f ∧ S = foot g vM vT r

theorem Ix.lo {w : World} {g : Nat} {M : List Int} {S : Nat → Prop} (h : Ix w g M S) : ∀ b, S b → g ≤ b ∧ b < w.heap.size := by
  obtain ⟨vM, vT, r, T, f, h, rfl⟩ := h
  rintro b (rfl | hb | hb | hb)
  · exact ⟨Nat.le_refl _, lt_blk h.blk⟩
  · have := h.m.lt b hb; omega
  · have := h.t.lt b hb; omega
  · have := h.som b hb; exact ⟨Nat.le_of_lt this.2, this.1.lt⟩

/-- What Of leaves. -/
def OfPost (g : Nat) (M : List Int) (x : Int) (S : Nat → Prop) (w : World) (e : Ending) (w' : World) : Prop :=
  ∃ (i : Nat) (M' : List Int) (S' : Nat → Prop), e = .returned (.int .i32 (i : Int)) ∧ Ix w' g M' S' ∧ Kept S w w' ∧ (∀ b, S' b → S b ∨ w.heap.size ≤ b) ∧ M'[i]? = some x ∧ ((x ∈ M ∧ M' = M) ∨ (x ∉ M ∧ M' = M ++ [x] ∧ i = M.length))
end Go.Proofs.Qxb6608766a
