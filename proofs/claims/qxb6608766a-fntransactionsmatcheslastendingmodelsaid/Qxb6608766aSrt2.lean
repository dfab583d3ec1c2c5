import Derived.Test.Qxb6608766aSrt
import Derived.Shelf.SlSortCmp.NoneTotal
namespace Go.Proofs.Qxb6608766a
open Go.Shelf Go.RowKit Go.Lib Go.Sort
set_option linter.unusedSimpArgs false
set_option linter.unusedVariables false

/-- The sort's contract. -/
theorem sort_any (w W : World) (g : Nat) (L : List Tr) (v : Value) (S : Nat → Prop) (h : Ready w W g L v S) (hl : L.length ≤ 4096) : Calls Try.prog 21 #[v, .func (.func 22) #[] #[]] W (SortPost g L v W) := by
  by_cases h0 : 0 < L.length
  · exact sort_some w W g L v S h hl h0
  · have hL : L = [] := List.eq_nil_of_length_eq_zero (by omega)
    subst hL
    obtain ⟨a, c, rfl⟩ := own_value2 h.row
    have hS := AnyF.slices_SortFunc_none (P := Try.prog) (ρ := sortTr_ren) { sortTr with } a c (.func (.func 22) #[] #[]) W
    change Calls Try.prog 21 _ _ _ at hS
    refine hS.mono ?_
    rintro e w' ⟨rfl, rfl⟩
    exact ⟨[], rfl, List.Perm.refl _, List.Pairwise.nil, .inl rfl, ⟨rfl, rfl, rfl, Nat.le_refl _, fun _ _ => rfl⟩⟩

/-- TRANSACTIONS' CONTRACT. -/
theorem transactions_any (sb so ob oo n c : Nat) (K X : Nat → Int) (w : World) (hs : w.cell? ⟨sb, so, none⟩ = some (.slice (some ⟨ob, oo, none⟩) n c)) (hsb : sb < w.heap.size) (hob : ob < w.heap.size) (hO : OpsIn w ob oo n K X) (hn : n ≤ 4096) (hwf : ∀ i, i < n → (Lit.int .i64 (X i)).wf = true) :
    Calls Try.prog 12 #[.pointer (some ⟨sb, so, none⟩)] w (TxPost K X n w) :=
  tx_any sort_any sb so ob oo n c K X w hs hsb hob hO hn hwf
end Go.Proofs.Qxb6608766a
