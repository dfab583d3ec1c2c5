import Derived.Test.Qxb6615739aInsert
namespace Go.Proofs.Qxb6615739a
open Go.RowKit
set_option linter.unusedSimpArgs false
set_option linter.unusedVariables false

/-- The cells of a list of friends. -/
def flat (L : List Fr) : List Value := L.flatMap Fr.cells
/-- The friends by their places. -/
def nth (L : List Fr) (j : Nat) : Fr := L.getD j (0, 0, 0)

theorem flat_nil : flat [] = [] := rfl
theorem flat_cons (x : Fr) (L : List Fr) : flat (x :: L) = Fr.cells x ++ flat L := rfl
theorem flat_append (L M : List Fr) : flat (L ++ M) = flat L ++ flat M := by simp [flat]
theorem flat_length : ∀ L : List Fr, (flat L).length = L.length * 3
  | [] => rfl
  | x :: L => by rw [flat_cons, List.length_append, flat_length L, List.length_cons]; simp [Fr.cells]; omega
theorem flat_take : ∀ (L : List Fr) (k : Nat), (flat L).take (k * 3) = flat (L.take k)
  | [], k => by simp [flat]
  | x :: L, 0 => by simp [flat]
  | x :: L, k + 1 => by
    rw [List.take_succ_cons, flat_cons, flat_cons, ← flat_take L k, show (k + 1) * 3 = 3 + k * 3 by omega]
    exact List.take_length_add_append (l₁ := Fr.cells x) (l₂ := flat L) (i := k * 3)
theorem flat_drop : ∀ (L : List Fr) (k : Nat), (flat L).drop (k * 3) = flat (L.drop k)
  | [], k => by simp [flat]
  | x :: L, 0 => by simp [flat]
  | x :: L, k + 1 => by
    rw [List.drop_succ_cons, flat_cons, ← flat_drop L k, show (k + 1) * 3 = 3 + k * 3 by omega]
    exact List.drop_length_add_append (l₁ := Fr.cells x) (l₂ := flat L) (i := k * 3)
theorem flat_one : ∀ (L : List Fr), ∀ u ∈ flat L, u.oneCell' = true
  | [], u, h => by simp [flat] at h
  | x :: L, u, h => by
    rw [flat_cons, List.mem_append] at h
    rcases h with h | h
    · exact cells_one x u h
    · exact flat_one L u h
theorem flat_at (L : List Fr) (j : Nat) (hj : j < L.length) : (flat L)[j * 3]? = some (.int .i64 (nth L j).1) ∧ (flat L)[j * 3 + 1]? = some (.int .u64 (nth L j).2.1) ∧ (flat L)[j * 3 + 2]? = some (.int .u64 (nth L j).2.2) := by
  have h := flat_drop L j
  rw [List.drop_eq_getElem_cons hj, flat_cons] at h
  have e : ∀ i, (flat L)[j * 3 + i]? = (Fr.cells L[j] ++ flat (L.drop (j + 1)))[i]? := fun i => by rw [← h, List.getElem?_drop]
  have hn : nth L j = L[j] := by simp [nth, hj]
  rw [hn]
  refine ⟨?_, ?_, ?_⟩
  · have := e 0; simpa [Fr.cells] using this
  · have := e 1; simpa [Fr.cells] using this
  · have := e 2; simpa [Fr.cells] using this

/-- x laid in at place k. -/
def insK (L : List Fr) (x : Fr) (k : Nat) : List Fr := L.take k ++ x :: L.drop k
theorem insK_length (L : List Fr) (x : Fr) (k : Nat) (hk : k ≤ L.length) : (insK L x k).length = L.length + 1 := by simp [insK]; omega
theorem flat_insK (L : List Fr) (x : Fr) (k : Nat) : flat (insK L x k) = (flat L).take (k * 3) ++ (Fr.cells x ++ (flat L).drop (k * 3)) := by
  rw [insK, flat_append, flat_cons, flat_take, flat_drop]

/-- k elements stand ahead of x, the others behind it. -/
def Bd (L : List Fr) (x : Fr) (k : Nat) : Prop := k ≤ L.length ∧ (∀ j, j < k → clo (nth L j) x < 0) ∧ (∀ j, k ≤ j → j < L.length → 0 ≤ clo (nth L j) x)

/-- A slice that the call owns: its form. -/
theorem own_form {w : World} {base n : Nat} {v : Value} {xs : List Value} (h : w.ownsRow base 66 3 v n xs) :
    (v = .slice none 0 0 ∧ n = 0 ∧ xs = []) ∨ ∃ g cap cur, v = .slice (some ⟨g, 0, none⟩) n cap ∧ base ≤ g ∧ g < w.heap.size ∧ w.heap[g]? = some (.cells (cur : List Value).toArray 66 (0, 0)) ∧ n ≤ cap ∧ cap ≤ 9223372036854775807 ∧ cur.length = cap * 3 ∧ cur.take (n * 3) = xs := by
  obtain ⟨h0, h1 | ⟨g, cap, cur, hv, hg, hh, hn, hc, hs, ht⟩⟩ := h
  · refine .inl ⟨h1.1, h1.2, ?_⟩
    rw [h1.2] at h0
    exact List.eq_nil_of_length_eq_zero (by simpa using h0)
  · unfold maxLen at hc
    exact .inr ⟨g, cap, cur.toList, hv, hg, (Array.getElem?_eq_some_iff.1 hh).1, by simpa using hh, hn, hc, by simpa using hs, ht⟩

theorem row_of_own {w : World} {base g cap : Nat} {L : List Fr} {cur : List Value} (hg : g < w.heap.size) (hh : w.heap[g]? = some (.cells cur.toArray 66 (0, 0))) (ht : cur.take (L.length * 3) = flat L) : Row w g L.length (nth L) := by
  have e : ∀ i u, (flat L)[i]? = some u → w.cell? ⟨g, i, none⟩ = some u := fun i u h => by
    rw [← ht, List.getElem?_take] at h
    split at h
    · simp [World.cell?, hh, h]
    · cases h
  exact ⟨hg, fun j hj => ⟨e _ _ (flat_at L j hj).1, e _ _ (flat_at L j hj).2.1, e _ _ (flat_at L j hj).2.2⟩⟩

theorem bsearch_any (base : Nat) (v : Value) (L : List Fr) (t : Fr) (w : World) (hn : L.length ≤ 4096) (hown : w.ownsRow base 66 3 v L.length (flat L)) (ok : ∀ j, j < L.length → Fr.ok (nth L j)) (okt : Fr.ok t) (k : Nat) (hk : Bd L t k) :
    Calls Try.prog 45 #[v, .agg (Fr.cells t).toArray, .func (.func 46) #[] #[]] w fun e w' => e = .returned (.tuple #[.int .i64 k, .bool (found L.length (nth L) t k)]) ∧ Gr w w' := by
  rcases own_form hown with ⟨rfl, h0, _⟩ | ⟨g, cap, cur, rfl, _, hg, hh, _, _, _, ht⟩
  · obtain rfl : k = 0 := by have := hk.1; omega
    rw [h0]
    exact bsearch_nil (nth L) t w
  · exact bsearch_some g L.length cap (nth L) t w hn (row_of_own (base := base) (cap := cap) hg hh ht) ok okt k hk.1 hk.2.1 hk.2.2

theorem insert_any (base : Nat) (v : Value) (L : List Fr) (x : Fr) (k vb : Nat) (w : World) (hn : L.length ≤ 4096) (hk : k ≤ L.length) (hown : w.ownsRow base 66 3 v L.length (flat L)) (hb : base ≤ w.heap.size)
    (hvb : w.heap[vb]? = some (.cells (Fr.cells x).toArray 66 (0, 0))) (hvg : v.ownBlock ≠ some vb) :
    Calls Try.prog 47 #[v, .int .i64 k, .slice (some ⟨vb, 0, none⟩) 1 1] w (InsPost base v L.length (flat (insK L x k)) w) := by
  by_cases e : k = L.length
  · subst e
    have h := insert_end base v L.length vb (flat L) x w hn hown hb hvb
    rw [flat_insK]
    rw [show (flat L).take (L.length * 3) = flat L from List.take_of_length_le (by rw [flat_length]; omega), show (flat L).drop (L.length * 3) = [] from List.drop_of_length_le (by rw [flat_length]; omega), List.append_nil]
    exact h
  · rcases own_form hown with ⟨rfl, h0, _⟩ | ⟨g, cap, cur, rfl, hbg, hg, hh, hnc, hcm, hcl, ht⟩
    · omega
    · rw [flat_insK]
      have hne : vb ≠ g := fun e => hvg (by rw [e]; rfl)
      by_cases hr : L.length + 1 ≤ cap
      · exact insert_room base g L.length cap k vb (flat L) cur x w hn (by omega) hr hcm hbg hh hcl ht (flat_one L) hne hvb
      · exact insert_grow base g L.length cap k vb (flat L) cur x w hn (by omega) hnc (by omega) hb hh hcl ht (flat_one L) hvb
end Go.Proofs.Qxb6615739a
