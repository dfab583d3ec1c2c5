namespace Go.Proofs.Qxb6615739a

/-- Is x among the first lu of U? -/
def inRow (U : Nat → Int) (lu : Nat) (x : Int) : Bool := (List.range lu).any (fun i => U i == x)
theorem inRow_iff {U : Nat → Int} {lu : Nat} {x : Int} : inRow U lu x = true ↔ ∃ i, i < lu ∧ U i = x := by
  simp [inRow, List.any_eq_true]
/-- How many of the first b of V are among the first lu of U. -/
def cnt (U : Nat → Int) (lu : Nat) (V : Nat → Int) : Nat → Nat
  | 0 => 0
  | b + 1 => cnt U lu V b + (if inRow U lu (V b) then 1 else 0)
theorem cnt_le (U : Nat → Int) (lu : Nat) (V : Nat → Int) : ∀ b, cnt U lu V b ≤ b
  | 0 => Nat.le_refl _
  | b + 1 => by have := cnt_le U lu V b; unfold cnt; split <;> omega
theorem cnt_stay (U : Nat → Int) (lu : Nat) (V : Nat → Int) (b : Nat) : ∀ d, (∀ j, b ≤ j → j < b + d → inRow U lu (V j) = false) → cnt U lu V (b + d) = cnt U lu V b
  | 0, _ => rfl
  | d + 1, h => by
    rw [show b + (d + 1) = (b + d) + 1 from rfl]
    simp only [cnt]
    rw [cnt_stay U lu V b d (fun j h1 h2 => h j h1 (by omega)), h (b + d) (by omega) (by omega)]
    simp

/-- The merge's book. -/
def Merge (U : Nat → Int) (lu : Nat) (V : Nat → Int) (lv a b : Nat) : Prop :=
  (∀ i j, i < a → b ≤ j → j < lv → U i < V j) ∧ (∀ i j, j < b → a ≤ i → i < lu → V j < U i)
def Asc (U : Nat → Int) (lu : Nat) : Prop := ∀ i j, i < j → j < lu → U i < U j

theorem Asc.le {U : Nat → Int} {lu : Nat} (h : Asc U lu) {i j : Nat} (hij : i ≤ j) (hj : j < lu) : U i ≤ U j := by
  by_cases e : i = j
  · rw [e]; exact Int.le_refl _
  · exact Int.le_of_lt (h i j (by omega) hj)

theorem merge_u {U : Nat → Int} {lu : Nat} {V : Nat → Int} {lv a b : Nat} (hV : Asc V lv) (h : Merge U lu V lv a b) (hlt : U a < V b) : Merge U lu V lv (a + 1) b := by
  refine ⟨fun i j h1 h2 h3 => ?_, fun i j h1 h2 h3 => h.2 i j h1 (by omega) h3⟩
  by_cases e : i = a
  · rw [e]; exact Int.lt_of_lt_of_le hlt (hV.le h2 h3)
  · exact h.1 i j (by omega) h2 h3
theorem merge_v {U : Nat → Int} {lu : Nat} {V : Nat → Int} {lv a b : Nat} (hU : Asc U lu) (h : Merge U lu V lv a b) (hlt : V b < U a) : Merge U lu V lv a (b + 1) := by
  refine ⟨fun i j h1 h2 h3 => h.1 i j h1 (by omega) h3, fun i j h1 h2 h3 => ?_⟩
  by_cases e : j = b
  · rw [e]; exact Int.lt_of_lt_of_le hlt (hU.le h2 h3)
  · exact h.2 i j (by omega) h2 h3
theorem merge_v_cnt {U : Nat → Int} {lu : Nat} {V : Nat → Int} {lv a b : Nat} (hU : Asc U lu) (hb : b < lv) (h : Merge U lu V lv a b) (hlt : V b < U a) : cnt U lu V (b + 1) = cnt U lu V b := by
  have : inRow U lu (V b) = false := by
    rw [Bool.eq_false_iff]
    intro hc
    obtain ⟨i, hi, he⟩ := inRow_iff.1 hc
    by_cases e : i < a
    · have := h.1 i b e (Nat.le_refl _) hb; omega
    · have := hU.le (show a ≤ i by omega) hi; omega
  simp [cnt, this]
theorem merge_e {U : Nat → Int} {lu : Nat} {V : Nat → Int} {lv a b : Nat} (hU : Asc U lu) (hV : Asc V lv) (h : Merge U lu V lv a b) (he : U a = V b) : Merge U lu V lv (a + 1) (b + 1) := by
  refine ⟨fun i j h1 h2 h3 => ?_, fun i j h1 h2 h3 => ?_⟩
  · by_cases e : i = a
    · rw [e, he]; exact hV b j (by omega) h3
    · exact h.1 i j (by omega) (by omega) h3
  · by_cases e : j = b
    · rw [e, ← he]; exact hU a i (by omega) h3
    · exact h.2 i j (by omega) (by omega) h3
theorem merge_e_cnt {U : Nat → Int} {lu : Nat} {V : Nat → Int} {a b : Nat} (ha : a < lu) (he : U a = V b) : cnt U lu V (b + 1) = cnt U lu V b + 1 := by
  have : inRow U lu (V b) = true := inRow_iff.2 ⟨a, ha, he⟩
  simp [cnt, this]
theorem merge_done {U : Nat → Int} {lu : Nat} {V : Nat → Int} {lv a b : Nat} (h : Merge U lu V lv a b) (ha : a ≤ lu) (hb : b ≤ lv) (hd : a = lu ∨ b = lv) : cnt U lu V b = cnt U lu V lv := by
  rcases hd with rfl | rfl
  · have := cnt_stay U a V b (lv - b) (fun j h1 h2 => by
      rw [Bool.eq_false_iff]
      intro hc
      obtain ⟨i, hi, he⟩ := inRow_iff.1 hc
      have := h.1 i j hi h1 (by omega)
      omega)
    rw [show b + (lv - b) = lv by omega] at this
    exact this.symm
  · rfl

end Go.Proofs.Qxb6615739a
