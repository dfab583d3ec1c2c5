import Derived.Test.Qxb6608766aCut
namespace Go.Proofs.Qxb6608766a
open Go.RowKit
set_option linter.unusedSimpArgs false
set_option linter.unusedVariables false

/-! Ascending lists of numbers. No Go here. -/
def Asc (A : List Int) : Prop := A.Pairwise (fun a b => a < b)
theorem asc_eq : ∀ {A B : List Int}, Asc A → Asc B → (∀ t, t ∈ A ↔ t ∈ B) → A = B
  | [], [], _, _, _ => rfl
  | [], b :: B, _, _, h => absurd ((h b).2 (by simp)) (by simp)
  | a :: A, [], _, _, h => absurd ((h a).1 (by simp)) (by simp)
  | a :: A, b :: B, hA, hB, h => by
    have pa := List.pairwise_cons.1 hA
    have pb := List.pairwise_cons.1 hB
    have e : a = b := by
      have h1 : a = b ∨ a ∈ B := by simpa using (h a).1 (by simp)
      have h2 : b = a ∨ b ∈ A := by simpa using (h b).2 (by simp)
      rcases h1 with h1 | h1
      · exact h1
      · rcases h2 with h2 | h2
        · exact h2.symm
        · have := pb.1 a h1
          have := pa.1 b h2
          omega
    subst e
    have : A = B := asc_eq pa.2 pb.2 fun t => by
      constructor
      · intro ht
        have := pa.1 t ht
        have h1 : t = a ∨ t ∈ B := by simpa using (h t).1 (by simp [ht])
        rcases h1 with h1 | h1
        · omega
        · exact h1
      · intro ht
        have := pb.1 t ht
        have h1 : t = a ∨ t ∈ A := by simpa using (h t).2 (by simp [ht])
        rcases h1 with h1 | h1
        · omega
        · exact h1
    rw [this]

/-- D lists the numbers met among the first n, ascending. -/
structure Dist (X : Nat → Int) (n : Nat) (D : List Int) : Prop where
  asc : Asc D
  mem : ∀ t, t ∈ D ↔ Met X n t
theorem Dist.zero (X : Nat → Int) : Dist X 0 [] := ⟨List.Pairwise.nil, fun t => ⟨fun h => by simp at h, fun ⟨i, hi, _⟩ => by omega⟩⟩
theorem Dist.same {X : Nat → Int} {n : Nat} {D : List Int} (h : Dist X n D) {j : Nat} (hj : D[j]? = some (X n)) : Dist X (n + 1) D := by
  refine ⟨h.asc, fun t => ?_⟩
  rw [met_succ, h.mem]
  constructor
  · exact .inl
  · rintro (h1 | rfl)
    · exact h1
    · exact (h.mem _).1 (List.mem_of_getElem? hj)
/-- The number is laid in at its place. -/
def put (D : List Int) (j : Nat) (t : Int) : List Int := D.take j ++ t :: D.drop j
theorem put_mem {D : List Int} {j : Nat} {t x : Int} : x ∈ put D j t ↔ x ∈ D ∨ t = x := by
  unfold put
  rw [List.mem_append, List.mem_cons]
  constructor
  · rintro (h | h | h)
    · exact .inl (List.mem_of_mem_take h)
    · exact .inr h.symm
    · exact .inl (List.mem_of_mem_drop h)
  · rintro (h | h)
    · rw [← List.take_append_drop j D, List.mem_append] at h
      rcases h with h | h
      · exact .inl h
      · exact .inr (.inr h)
    · exact .inr (.inl h.symm)
theorem put_asc {D : List Int} {j : Nat} {t : Int} (h : Asc D) (lo : ∀ p x, p < j → D[p]? = some x → x < t) (hi : ∀ x, D[j]? = some x → t < x) : Asc (put D j t) := by
  unfold put Asc
  have h' : Asc (D.take j ++ D.drop j) := by rw [List.take_append_drop]; exact h
  have hp := List.pairwise_append.1 h'
  rw [List.pairwise_append, List.pairwise_cons]
  have up : ∀ b, b ∈ D.drop j → t < b := fun b hb => by
    cases hd : D.drop j with
    | nil => rw [hd] at hb; cases hb
    | cons c C =>
      rw [hd] at hb
      have hc : D[j]? = some c := by
        have := List.getElem?_drop (xs := D) (i := j) (j := 0)
        rw [hd] at this
        simpa using this.symm
      have h1 := hi c hc
      rcases List.mem_cons.1 hb with rfl | hb
      · exact h1
      · have := hp.2.1
        rw [hd] at this
        have := (List.pairwise_cons.1 this).1 b hb
        omega
  have dn : ∀ a, a ∈ D.take j → a < t := fun a ha => by
    obtain ⟨p, hp⟩ := List.mem_iff_getElem?.1 ha
    rw [List.getElem?_take] at hp
    split at hp
    · exact lo p a (by assumption) hp
    · cases hp
  refine ⟨hp.1, ⟨up, hp.2.1⟩, fun a ha b hb => ?_⟩
  rcases List.mem_cons.1 hb with rfl | hb
  · exact dn a ha
  · have := dn a ha; have := up b hb; omega
theorem Dist.put {X : Nat → Int} {n : Nat} {D : List Int} (h : Dist X n D) {j : Nat} (lo : ∀ p x, p < j → D[p]? = some x → x < X n) (hi : ∀ x, D[j]? = some x → X n < x) : Dist X (n + 1) (put D j (X n)) :=
  ⟨put_asc h.asc lo hi, fun t => by rw [put_mem, met_succ, h.mem]⟩
theorem put_len {D : List Int} {j : Nat} {t : Int} (hj : j ≤ D.length) : (put D j t).length = D.length + 1 := by
  unfold Qxb6608766a.put
  rw [List.length_append, List.length_cons, List.length_take, List.length_drop]
  omega

/-- While the numbers behind j are shifted: those above k are done. -/
def shift (D : List Int) (t : Int) (k : Nat) : List Int := (D ++ [t]).take (k + 1) ++ D.drop k
theorem shift_len {D : List Int} {t : Int} {k : Nat} (hk : k ≤ D.length) : (shift D t k).length = D.length + 1 := by
  unfold shift
  rw [List.length_append, List.length_take, List.length_drop, List.length_append]
  simp
  omega
theorem shift_start (D : List Int) (t : Int) : shift D t D.length = D ++ [t] := by
  unfold shift
  rw [List.drop_length, List.append_nil, List.take_of_length_le (by simp)]
theorem shift_below {D : List Int} {t : Int} {k p : Nat} (hp : p ≤ k) (hk : p < D.length) : (shift D t k)[p]? = D[p]? := by
  unfold shift
  rw [List.getElem?_append_left (by rw [List.length_take, List.length_append]; simp; omega), List.getElem?_take, if_pos (by omega), List.getElem?_append_left hk]
theorem shift_above {D : List Int} {t : Int} {k p : Nat} (hk : k ≤ D.length) (hp : k < p) : (shift D t k)[p]? = D[p - 1]? := by
  unfold shift
  have e : ((D ++ [t]).take (k + 1)).length = k + 1 := by rw [List.length_take, List.length_append]; simp; omega
  rw [List.getElem?_append_right (by rw [e]; omega), e, List.getElem?_drop]
  congr 1
  omega
theorem shift_step {D : List Int} {t x : Int} {k : Nat} (hk : k + 1 ≤ D.length) (hx : D[k]? = some x) : (shift D t (k + 1)).set (k + 1) x = shift D t k := by
  apply List.ext_getElem?
  intro p
  have hl : (shift D t (k + 1)).length = D.length + 1 := shift_len hk
  rw [List.getElem?_set]
  by_cases e : k + 1 = p
  · subst e
    rw [if_pos rfl, if_pos (by omega), shift_above (by omega) (by omega)]
    simpa using hx.symm
  · rw [if_neg e]
    by_cases h : p < k + 1
    · rw [shift_below (by omega) (by omega), shift_below (by omega) (by omega)]
    · rw [shift_above (by omega) (by omega), shift_above (by omega) (by omega)]
theorem shift_done {D : List Int} {t : Int} {j : Nat} (hj : j ≤ D.length) : (shift D t j).set j t = put D j t := by
  apply List.ext_getElem?
  intro p
  have hl : (shift D t j).length = D.length + 1 := shift_len hj
  have hp : ∀ p, (put D j t)[p]? = if p < j then D[p]? else if p = j then some t else D[p - 1]? := fun p => by
    unfold put
    have e : (D.take j).length = j := by rw [List.length_take]; omega
    by_cases h : p < j
    · rw [if_pos h, List.getElem?_append_left (by omega), List.getElem?_take, if_pos h]
    · rw [if_neg h, List.getElem?_append_right (by omega), e]
      by_cases h2 : p = j
      · subst h2; simp
      · rw [if_neg h2, show p - j = (p - j - 1) + 1 by omega, List.getElem?_cons_succ, List.getElem?_drop]
        congr 1
        omega
  rw [List.getElem?_set, hp]
  by_cases e : j = p
  · subst e
    rw [if_pos rfl, if_pos (by omega), if_neg (by omega), if_pos rfl]
  · rw [if_neg e]
    by_cases h : p < j
    · rw [if_pos h, shift_below (by omega) (by omega)]
    · rw [if_neg h, if_neg (by omega), shift_above hj (by omega)]

/-- The transactions that are listed are the numbers met. -/
theorem lists_dist {K X : Nat → Int} {n : Nat} {L : List Tr} {D : List Int} (h : Lists K X n L) (ha : AscT L) (d : Dist X n D) : L.map (·.1) = D :=
  asc_eq (by unfold Asc; rw [List.pairwise_map]; exact ha) d.asc fun t => by rw [h.fst, d.mem]
end Go.Proofs.Qxb6608766a
