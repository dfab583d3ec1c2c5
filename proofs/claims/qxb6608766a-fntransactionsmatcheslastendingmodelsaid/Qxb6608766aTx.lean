import Derived.Test.Qxb6608766aTxp
namespace Go.Proofs.Qxb6608766a
open Go.RowKit
set_option linter.unusedSimpArgs false
set_option linter.unusedVariables false

def trs (L : List Tr) : List Value := L.flatMap fun x => [.int .i64 x.1, .int .u8 x.2]
theorem trs_cons (x : Tr) (L : List Tr) : trs (x :: L) = .int .i64 x.1 :: .int .u8 x.2 :: trs L := rfl
theorem trs_append (L M : List Tr) : trs (L ++ M) = trs L ++ trs M := by simp [trs]
theorem trs_set : ∀ {L : List Tr} {i : Nat} {t o : Int} (v : Int), L[i]? = some (t, o) → (trs L).set (i * 2 + 1) (.int .u8 v) = trs (L.set i (t, v))
  | [], i, t, o, v, h => by simp at h
  | x :: L, 0, t, o, v, h => by
    simp at h
    subst h
    rfl
  | x :: L, i + 1, t, o, v, h => by
    have h' : L[i]? = some (t, o) := by simpa using h
    rw [List.set_cons_succ, trs_cons, trs_cons, ← trs_set v h', show (i + 1) * 2 + 1 = (i * 2 + 1) + 1 + 1 by omega, List.set_cons_succ, List.set_cons_succ]
theorem trs_at : ∀ {L : List Tr} {i : Nat} {t o : Int}, L[i]? = some (t, o) → (trs L)[i * 2]? = some (.int .i64 t) ∧ (trs L)[i * 2 + 1]? = some (.int .u8 o)
  | [], i, t, o, h => by simp at h
  | x :: L, 0, t, o, h => by
    simp at h
    subst h
    exact ⟨rfl, rfl⟩
  | x :: L, i + 1, t, o, h => by
    have h' : L[i]? = some (t, o) := by simpa using h
    rw [trs_cons, show (i + 1) * 2 = i * 2 + 1 + 1 by omega]
    exact ⟨by simpa using (trs_at h').1, by simpa using (trs_at h').2⟩

theorem IxAt.kept {w w' : World} {g : Nat} {M : List Int} {vM vT : Value} {r : Option Nat} {T : List Int} {f : Int → Option Int} (h : IxAt w g M vM vT r T f) {S : Nat → Prop} (k : Kept S w w') (hs : ∀ b, foot g vM vT r b → ¬ S b) : IxAt w' g M vM vT r T f where
  blk := (k.block g (lt_blk h.blk) (hs g (.inl rfl))).trans h.blk
  m := k.grown h.m (fun b hb => hs b (.inr (.inl hb)))
  t := k.grown h.t (fun b hb => hs b (.inr (.inr (.inl hb))))
  som := fun b hb => by
    obtain ⟨⟨D, ⟨es, cl, h1, h2⟩, hf⟩, hg⟩ := h.som b hb
    exact ⟨⟨D, ⟨es, cl, (k.block b (lt_blk h1) (hs b (.inr (.inr (.inr hb))))).trans h1, h2⟩, hf⟩, hg⟩
  non := h.non
  mt := h.mt
  mr := h.mr
  inv := h.inv
  ml := h.ml
  tl := h.tl
theorem Ix.kept {w w' : World} {g : Nat} {M : List Int} {S S' : Nat → Prop} (h : Ix w g M S) (k : Kept S' w w') (hs : ∀ b, S b → ¬ S' b) : Ix w' g M S := by
  obtain ⟨vM, vT, r, T, f, h, rfl⟩ := h
  exact ⟨vM, vT, r, T, f, h.kept k hs, rfl⟩

/-- What the loop holds. -/
def TxSt (w : World) (g : Nat) (K X : Nat → Int) (n : Nat) (v : Value) (wr : World) : Prop :=
  ∃ (L : List Tr) (S : Nat → Prop), Lists K X n L ∧ L.length ≤ n ∧ Ix wr g (L.map (·.1)) S ∧ wr.ownsRow (g + 1) 46 2 v L.length (trs L) ∧ (∀ b, v.ownBlock = some b → ¬ S b) ∧ Below g w wr ∧ g < wr.heap.size

/-- The operations that come in. -/
def OpsIn (w : World) (b o n : Nat) (K X : Nat → Int) : Prop := ∀ i, i < n → ∀ j u, (opCells (K i) (X i))[j]? = some u → w.cell? ⟨b, o + i * 7 + j, none⟩ = some u

/-- What stands ahead of the switch on the kind. -/
structure Ready (w w3 : World) (g : Nat) (L : List Tr) (v : Value) (S : Nat → Prop) : Prop where
  ix : Ix w3 g (L.map (·.1)) S
  row : w3.ownsRow (g + 1) 46 2 v L.length (trs L)
  ap : ∀ b, v.ownBlock = some b → ¬ S b
  bel : Below g w w3
  lt : g < w3.heap.size

theorem own_value2 {w : World} {base e n : Nat} {v : Value} {xs : List Value} (h : w.ownsRow base e 2 v n xs) : ∃ a c, v = .slice a n c := by
  rcases h.2 with ⟨h1, h2⟩ | ⟨g, cap, cur, hv, _⟩
  · exact ⟨none, 0, by rw [h1, h2]⟩
  · exact ⟨_, _, hv⟩

/-- Behind Of. -/
theorem ready_of {w wr w2 : World} {g : Nat} {L : List Tr} {v : Value} {S S' : Nat → Prop} {o : Obj} {M' : List Int} (hI : Ix wr g (L.map (·.1)) S) (hR : wr.ownsRow (g + 1) 46 2 v L.length (trs L)) (hA : ∀ b, v.ownBlock = some b → ¬ S b) (hB : Below g w wr) (hg : g < wr.heap.size)
    (hI2 : Ix w2 g M' S') (hK : Kept S (wr.alloc o) w2) (hS : ∀ b, S' b → S b ∨ (wr.alloc o).heap.size ≤ b) :
    w2.ownsRow (g + 1) 46 2 v L.length (trs L) ∧ (∀ b, v.ownBlock = some b → ¬ S' b) ∧ Below g w w2 ∧ g < w2.heap.size ∧ w2.heap[wr.heap.size]? = some o := by
  have hsz : (wr.alloc o).heap.size = wr.heap.size + 1 := by simp
  have hlo := hI.lo
  refine ⟨hK.grown (hR.alloc o) hA, fun b hb hs => ?_, ?_, Nat.lt_of_lt_of_le (by rw [hsz]; omega) hK.size, ?_⟩
  · rcases hS b hs with h | h
    · exact hA b hb h
    · have := (hR.lt b hb).2; omega
  · have b1 : Below g w (wr.alloc o) := hB.alloc (by omega) o
    have b2 : Below g (wr.alloc o) w2 := hK.bel (fun x hx => (hlo x hx).1) (by rw [hsz]; omega)
    exact b1.trans b2
  · exact (hK.block wr.heap.size (by rw [hsz]; omega) (fun h => by have := (hlo _ h).2; omega)).trans (heap_alloc_new wr o)

/-- The outcome is stored. -/
theorem Ready.store {w w3 : World} {g gm cm i : Nat} {L : List Tr} {S : Nat → Prop} (h : Ready w w3 g L (.slice (some ⟨gm, 0, none⟩) L.length cm) S) {t o : Int} (hi : L[i]? = some (t, o)) (v : Int) :
    Ready w (w3.setCell ⟨gm, i * 2 + 1, none⟩ (.int .u8 v)) g (L.set i (t, v)) (.slice (some ⟨gm, 0, none⟩) (L.set i (t, v)).length cm) S := by
  have hil := (List.getElem?_eq_some_iff.1 hi).1
  have st := h.row.stored (i * 2 + 1) (.int .u8 v)
  rw [trs_set v hi] at st
  have el : (L.set i (t, v)).length = L.length := List.length_set
  have em : (L.set i (t, v)).map (·.1) = L.map (·.1) := by
    rw [List.map_set]
    apply List.ext_getElem?
    intro j
    rw [List.getElem?_set]
    by_cases e : i = j
    · subst e
      rw [if_pos rfl, if_pos (by simpa using hil)]
      simp [hi]
    · rw [if_neg e]
  have kp : Kept (fun b => b = gm) w3 (w3.setCell ⟨gm, i * 2 + 1, none⟩ (.int .u8 v)) := Kept.of st.2 (fun b hb => by injection hb with hb; exact hb.symm)
  have hgm : g + 1 ≤ gm := (h.row.lt gm rfl).1
  refine ⟨?_, ?_, ?_, ?_, ?_⟩
  · rw [em]
    exact h.ix.kept kp (fun b hb e => h.ap gm rfl (e ▸ hb))
  · rw [el]; exact st.1
  · rw [el]; exact h.ap
  · exact h.bel.trans (kp.bel (fun x hx => by omega) (by have := h.lt; omega))
  · simpa using h.lt

/-- A new transaction is laid behind. -/
theorem ready_new {w w2 w3 : World} {g gm cm : Nat} {L : List Tr} {v : Value} {S : Nat → Prop} {x : Int} {o : Obj} (hI : Ix w2 g (L.map (·.1) ++ [x]) S) (hR : w2.ownsRow (g + 1) 46 2 v L.length (trs L)) (hA : ∀ b, v.ownBlock = some b → ¬ S b) (hB : Below g w w2) (hg : g < w2.heap.size)
    (o1 : w3.ownsRow (g + 1) 46 2 (.slice (some ⟨gm, 0, none⟩) (L.length + 1) cm) (L.length + 1) (trs L ++ [.int .i64 x, .int .u8 0])) (g1 : (w2.alloc o).grownBy w3 v.ownBlock) (b1 : v.ownBlock = some gm ∨ gm = w2.heap.size + 1) :
    Ready w w3 g (L ++ [(x, 0)]) (.slice (some ⟨gm, 0, none⟩) (L ++ [(x, 0)]).length cm) S := by
  have el : (L ++ [((x : Int), (0 : Int))]).length = L.length + 1 := List.length_append
  have et : trs (L ++ [((x : Int), (0 : Int))]) = trs L ++ [.int .i64 x, .int .u8 0] := by rw [trs_append]; rfl
  have k1 : Kept (fun _ => False) w2 (w2.alloc o) := Kept.of (World.grownBy_alloc w2 o none) (fun b hb => by cases hb)
  have k2 : Kept (fun b => v.ownBlock = some b) (w2.alloc o) w3 := Kept.of g1 (fun b hb => hb)
  have hsz : (w2.alloc o).heap.size = w2.heap.size + 1 := by simp
  refine ⟨?_, ?_, ?_, ?_, ?_⟩
  · rw [List.map_append]
    exact (hI.kept k1 (fun b _ h => h)).kept k2 (fun b hb e => hA b e hb)
  · rw [el, et]; exact o1
  · intro b hb hs
    have e : gm = b := by simpa [Value.ownBlock] using hb
    subst e
    rcases b1 with h | h
    · exact hA gm h hs
    · have := (hI.lo gm hs).2; omega
  · have a1 : Below g w (w2.alloc o) := hB.alloc (by omega) o
    exact a1.trans (k2.bel (fun b hb => by have := (hR.lt b hb).1; omega) (by rw [hsz]; omega))
  · exact Nat.lt_of_lt_of_le (by rw [hsz]; omega) g1.size
end Go.Proofs.Qxb6608766a
