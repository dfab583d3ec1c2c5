import Derived.Test.Qxb6615739aRows
import Derived.WalkKit
import Derived.WalkSpells
import Derived.WalkLawsBesides
import Derived.Shelf.SlSortCmp.QuietGrown
namespace Go.Proofs.Qxb6615739a
open Go.RowKit Go.Sort

/-- w' is w with draws made and new blocks laid behind it: nothing old has turned. -/
structure Gr (w w' : World) : Prop where
  bel : Below w.heap.size w w'
  dr : w.drawn ≤ w'.drawn

theorem Gr.refl (w : World) : Gr w w := ⟨Below.refl _ _, Nat.le_refl _⟩
theorem Gr.trans {a b c : World} (h : Gr a b) (k : Gr b c) : Gr a c :=
  ⟨h.bel.trans (k.bel.mono h.bel.size), Nat.le_trans h.dr k.dr⟩
theorem Gr.drew {a b : World} (h : Gr a b) : Gr a b.drew := ⟨h.bel.drew, Nat.le_trans h.dr (Nat.le_succ _)⟩
theorem Gr.drewN {a b : World} (h : Gr a b) (n : Nat) : Gr a (b.drewN n) :=
  ⟨⟨h.bel.os, h.bel.tape, h.bel.output, h.bel.size, h.bel.block⟩, Nat.le_trans h.dr (Nat.le_add_right _ _)⟩
theorem Gr.alloc {a b : World} (h : Gr a b) (o : Obj) : Gr a (b.alloc o) := ⟨h.bel.alloc h.bel.size o, h.dr⟩
theorem Gr.setCell {a b : World} (h : Gr a b) {p : Addr} (hp : a.heap.size ≤ p.block) (u : Value) : Gr a (b.setCell p u) := ⟨h.bel.setCell hp u, h.dr⟩
theorem Gr.grow {a b : World} (h : Gr a b) (os : Array Obj) : Gr a (Sort.grow b os) := by
  refine h.trans ⟨⟨rfl, rfl, rfl, by simp, fun k hk => heap_grow_old _ _ hk⟩, Nat.le_refl _⟩
theorem Gr.cell {w w' : World} (h : Gr w w') {b o : Nat} (hb : b < w.heap.size) : w'.cell? ⟨b, o, none⟩ = w.cell? ⟨b, o, none⟩ := h.bel.cell (p := ⟨b, o, none⟩) hb
theorem Gr.frozen {w w' : World} (h : Gr w w') {b o : Nat} (hb : b < w.heap.size) : w'.frozen? ⟨b, o, none⟩ = w.frozen? ⟨b, o, none⟩ := h.bel.frozen (p := ⟨b, o, none⟩) hb
theorem Gr.size {w w' : World} (h : Gr w w') : w.heap.size ≤ w'.heap.size := h.bel.size

theorem Gr.out {w w' : World} (h : Gr w w') : ∃ q os, w' = Sort.grow (w.drewN q) os := by
  refine ⟨w'.drawn - w.drawn, w'.heap.extract w.heap.size w'.heap.size, ?_⟩
  have hd := h.dr
  have hb := h.bel
  have hs := hb.size
  cases w' with
  | mk heap tape drawn os output =>
    have e1 : heap = w.heap ++ heap.extract w.heap.size heap.size := by
      apply Array.ext_getElem?
      intro k
      by_cases hk : k < w.heap.size
      · rw [Array.getElem?_append_left hk]; exact hb.block k hk
      · rw [Array.getElem?_append_right (by omega)]
        simp only [Array.getElem?_extract]
        by_cases h2 : k < heap.size
        · rw [if_pos (by omega)]
          congr 1; omega
        · rw [if_neg (by omega)]
          simp at h2 ⊢; omega
    have e2 := hb.os; have e3 := hb.tape; have e4 := hb.output
    simp only [Sort.grow, World.drewN] at *
    subst e2; subst e3; subst e4
    congr 1
    omega

theorem Gr.calls {P : Program} {f : FuncId} {args : Array Value} {w : World} {v : Value} (h : Calls P f args w fun e w' => e = .returned v ∧ Gr w w') :
    Calls P f args w fun e w' => e = .returned v ∧ ∃ q os, w' = Sort.grow (w.drewN q) os :=
  h.mono fun _ _ ⟨he, hg⟩ => ⟨he, hg.out⟩

end Go.Proofs.Qxb6615739a
