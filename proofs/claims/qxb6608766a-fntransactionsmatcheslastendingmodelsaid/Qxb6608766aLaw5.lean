import Derived.Test.Qxb6608766aSrt2
import Derived.Test.Qxb6608766aCut
namespace Go.Proofs.Qxb6608766a
open Go.RowKit
set_option linter.unusedSimpArgs false
set_option linter.unusedVariables false

def SomeBool (w : World) (e : Ending) (w' : World) : Prop := ∃ r, e = .returned (.bool r) ∧ w = w'
set_option maxHeartbeats 1000000 in
theorem zzBytes15_any (a : Option Addr) (n c : Nat) (b : Option Addr) (m d : Nat) (x : Int) (w : World) (h : n ≤ 9223372036854775807) (h' : m ≤ 9223372036854775807) :
    Calls Try.prog 15 #[.slice a n c, .slice b m d, .int .i64 x] w (SomeBool w) := by
  by_cases k : n ≤ 1048576
  · by_cases k2 : m ≤ 1048576
    · by_cases k3 : n + m ≤ 1048576
      · go_enter Try.func15, Try.ntmps15
        go_wp2
        go_ret
        exact ⟨_, rfl, rfl⟩
      · go_enter Try.func15, Try.ntmps15
        go_wp2
        go_ret
        exact ⟨_, rfl, rfl⟩
    · go_enter Try.func15, Try.ntmps15
      go_wp2
      go_ret
      exact ⟨_, rfl, rfl⟩
  · go_enter Try.func15, Try.ntmps15
    go_wp2
    go_ret
    exact ⟨_, rfl, rfl⟩

theorem OpsB.opsIn {w : World} {b n : Nat} {K X : Nat → Int} (h : OpsB w b n K X) (c m : Nat) (hm : c + m ≤ n) : OpsIn w b (c * 7) m (fun i => K (c + i)) (fun i => X (c + i)) := fun i hi j u hu => by
  have := h.2.1 (c + i) (by omega) j u hu
  rwa [show (c + i) * 7 + j = c * 7 + i * 7 + j by omega] at this

theorem nodup_le : ∀ (A B : List Int), A.Nodup → (∀ t, t ∈ A → t ∈ B) → A.length ≤ B.length
  | [], _, _, _ => Nat.zero_le _
  | a :: A, B, nd, h => by
    have nd' := List.nodup_cons.1 nd
    have ha : a ∈ B := h a (by simp)
    have ih := nodup_le A (B.erase a) nd'.2 fun t ht => by
      have hne : t ≠ a := fun e => nd'.1 (e ▸ ht)
      exact (List.mem_erase_of_ne hne).2 (h t (by simp [ht]))
    have e := List.length_erase_of_mem ha
    have p : 0 < B.length := List.length_pos_of_mem ha
    rw [List.length_cons]
    omega
theorem Lists.len {K X : Nat → Int} {n : Nat} {L : List Tr} (h : Lists K X n L) : L.length ≤ n := by
  have := nodup_le (L.map (·.1)) ((List.range n).map X) h.nd fun t ht => by
    obtain ⟨i, hi, e⟩ := h.fst.1 ht
    exact List.mem_map.2 ⟨i, List.mem_range.2 hi, e⟩
  simpa using this

/-- Transactions' post, the length by a name. -/
def TxP (K X : Nat → Int) (n : Nat) (w : World) (e : Ending) (w' : World) : Prop :=
  ∃ a c l L', e = .returned (.slice a l c) ∧ L'.length = l ∧ l ≤ n ∧ Lists K X n L' ∧ AscT L' ∧ TrC w' (.slice a l c) L' ∧ (n = 0 → a = none) ∧ Below w.heap.size w w'
theorem box_tx (W : World) (ob oo n c : Nat) (K X : Nat → Int) (hob : ob < W.heap.size) (hO : OpsIn W ob oo n K X) (hn : n ≤ 4096) (hwf : ∀ i, i < n → (Lit.int .i64 (X i)).wf = true) :
    Calls Try.prog 12 #[.pointer (some ⟨W.heap.size, 0, none⟩)] (W.alloc (.cells #[.slice (some ⟨ob, oo, none⟩) n c] 40)) (TxP K X n (W.alloc (.cells #[.slice (some ⟨ob, oo, none⟩) n c] 40))) := by
  have b : Below W.heap.size W (W.alloc (.cells #[.slice (some ⟨ob, oo, none⟩) n c] 40)) := (Below.refl _ _).alloc (Nat.le_refl _) _
  refine (transactions_any W.heap.size 0 ob oo n c K X _ (cell_blk (heap_alloc_new W _) rfl) (by simp) (by simp; omega) (fun i hi j u hu => (b.cell (p := ⟨ob, oo + i * 7 + j, none⟩) hob).trans (hO i hi j u hu)) hn hwf).mono ?_
  rintro e w' ⟨a, c, L', he, hL, hA, hC, h0, hB⟩
  exact ⟨a, c, L'.length, L', he, rfl, hL.len, hL, hA, hC, h0, hB⟩
theorem bel_box {w W w' : World} {o : Obj} (h : Below w.heap.size w W) (b : Below (W.alloc o).heap.size (W.alloc o) w') : Below w.heap.size w w' ∧ Below W.heap.size W w' := by
  have hs : (W.alloc o).heap.size = W.heap.size + 1 := by simp
  have b1 : Below W.heap.size W (W.alloc o) := (Below.refl _ _).alloc (Nat.le_refl _) _
  have b2 : Below W.heap.size W w' := b1.trans (b.mono (by omega))
  exact ⟨h.trans (b2.mono h.size), b2⟩
theorem below_drewN {B : Nat} {a w : World} (h : Below B a w) (n : Nat) : Below B a (w.drewN n) := ⟨h.os, h.tape, h.output, h.size, h.block⟩

/-- What a slice of transactions shows at k. -/
theorem tr_at {w : World} {a : Option Addr} {l c k : Nat} {L : List Tr} (h : TrC w (.slice a l c) L) (hl : L.length = l) (hk : k < l) :
    ∃ b x o, a = some ⟨b, 0, none⟩ ∧ L[k]? = some (x, o) ∧ w.cell? ⟨b, k * 2, none⟩ = some (.int .i64 x) ∧ w.cell? ⟨b, k * 2 + 1, none⟩ = some (.int .u8 o) := by
  rcases h with h | ⟨b, c', h1, _, h3⟩
  · omega
  · injection h1 with h1 _ _
    have hkl : k < L.length := by omega
    generalize hx : L[k] = x
    obtain ⟨xt, xo⟩ := x
    have hg : L[k]? = some (xt, xo) := by rw [List.getElem?_eq_getElem hkl, hx]
    exact ⟨b, xt, xo, h1, hg, h3 _ _ (trs_at hg).1, h3 _ _ (trs_at hg).2⟩
theorem tr_two {w : World} {a : Option Addr} {l c k : Nat} {L : List Tr} (h : TrC w (.slice a l c) L) (hl : L.length = l) (ha : AscT L) (hk : k + 1 < l) :
    ∃ b x y, a = some ⟨b, 0, none⟩ ∧ x < y ∧ w.cell? ⟨b, k * 2, none⟩ = some (.int .i64 x) ∧ w.cell? ⟨b, (k + 1) * 2, none⟩ = some (.int .i64 y) := by
  obtain ⟨b, x, o, h1, h2, h3, _⟩ := tr_at h hl (show k < l by omega)
  obtain ⟨b', y, o', h1', h2', h3', _⟩ := tr_at h hl hk
  rw [h1] at h1'
  injection h1' with e
  injection e with e
  subst e
  refine ⟨b, x, y, h1, ?_, h3, h3'⟩
  have hp := List.pairwise_iff_getElem.1 ha k (k + 1) (by omega) (by omega) (by omega)
  rw [(List.getElem?_eq_some_iff.1 h2).2, (List.getElem?_eq_some_iff.1 h2').2] at hp
  exact hp
theorem find_l (a : Option Addr) (l c : Nat) (L : List Tr) (t : Int) (w : World) (h : TrC w (.slice a l c) L) (hl : L.length = l) (hl' : l ≤ 4096) :
    Calls Try.prog 16 #[.slice a l c, .int .i64 t] w (FindPost L t w) := by
  subst hl
  exact find_any a c L t w h hl'

theorem slice_from (ob n cut : Nat) (hc : cut ≤ n) (hn : n ≤ 4096) : ∃ ro, (ro = cut * 7 ∨ n - cut = 0) ∧ ∀ W : World, (Instr.slice 29 (.slice (some ⟨ob, 0, none⟩) n n) (some (.int .i64 (cut : Int))) none none).run Try.prog W = .ok (.slice (some ⟨ob, ro, none⟩) (n - cut) (n - cut)) W := by
  obtain ⟨i, hi, hz, hs, hb⟩ := info_parts info34
  by_cases h : cut = n
  · subst h
    refine ⟨0, .inr (by omega), fun W => ?_⟩
    simp [Instr.slice, go_sem, run_underlying Try.underlying29, sizeOf, typeInfo, hi, hs]
  · refine ⟨cut * 7, .inl rfl, fun W => ?_⟩
    simp [Instr.slice, go_sem, run_underlying Try.underlying29, sizeOf, typeInfo, hi, hs, hc, Ne.symm h]
end Go.Proofs.Qxb6608766a
