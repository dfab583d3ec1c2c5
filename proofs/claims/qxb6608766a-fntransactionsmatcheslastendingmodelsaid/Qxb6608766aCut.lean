import Derived.Test.Qxb6608766aFind
namespace Go.Proofs.Qxb6608766a
open Go.RowKit
set_option linter.unusedSimpArgs false
set_option linter.unusedVariables false

/-! The plain law at a cut. No Go here. -/
theorem find_met {K X : Nat → Int} {n : Nat} {L : List Tr} (h : Lists K X n L) {t : Int} (ht : Met X n t) : find L t = (ends K X n t, true) := by
  have hm : (t, ends K X n t) ∈ L := (h.mem t _).2 ⟨ht, rfl⟩
  unfold find
  cases hf : L.find? (fun x => x.1 == t) with
  | none =>
    have := List.find?_eq_none.1 hf _ hm
    simp at this
  | some x =>
    obtain ⟨a, o⟩ := x
    have h1 := List.find?_some hf
    have h2 := List.mem_of_find?_eq_some hf
    simp at h1
    subst h1
    rw [((h.mem a o).1 h2).2]
theorem find_unmet {K X : Nat → Int} {n : Nat} {L : List Tr} (h : Lists K X n L) {t : Int} (ht : ¬ Met X n t) : find L t = (0, false) := by
  unfold find
  cases hf : L.find? (fun x => x.1 == t) with
  | none => rfl
  | some x =>
    obtain ⟨a, o⟩ := x
    have h1 := List.find?_some hf
    have h2 := List.mem_of_find?_eq_some hf
    simp at h1
    subst h1
    exact absurd ((h.mem a o).1 h2).1 ht

theorem met_cut {X : Nat → Int} {c m : Nat} {t : Int} : Met X (c + m) t ↔ Met X c t ∨ Met (fun i => X (c + i)) m t := by
  constructor
  · rintro ⟨i, hi, e⟩
    by_cases h : i < c
    · exact .inl ⟨i, h, e⟩
    · exact .inr ⟨i - c, by omega, by show X (c + (i - c)) = t; rw [show c + (i - c) = i by omega]; exact e⟩
  · rintro (⟨i, hi, e⟩ | ⟨i, hi, e⟩)
    · exact ⟨i, by omega, e⟩
    · exact ⟨c + i, by omega, e⟩
theorem ends_cut (K X : Nat → Int) (c : Nat) (t : Int) : ∀ m, ends K X (c + m) t = if ends (fun i => K (c + i)) (fun i => X (c + i)) m t = 0 then ends K X c t else ends (fun i => K (c + i)) (fun i => X (c + i)) m t
  | 0 => by simp [ends]
  | m + 1 => by
    have ih := ends_cut K X c t m
    rw [← Nat.add_assoc]
    simp only [ends]
    by_cases h : X (c + m) = t
    · rw [if_pos h, if_pos h]
      by_cases h3 : K (c + m) = 3
      · rw [if_pos h3, if_pos h3, if_neg (by omega)]
      · rw [if_neg h3, if_neg h3]
        by_cases h4 : K (c + m) = 4
        · rw [if_pos h4, if_pos h4, if_neg (by omega)]
        · rw [if_neg h4, if_neg h4, ih]
    · rw [if_neg h, if_neg h, ih]

/-- What the law reckons for the number t. -/
def want (l r : Int × Bool) : Int := if r.2 && (r.1 != 0) then r.1 else if l.2 then l.1 else 0
theorem want_eq {K X : Nat → Int} {c m : Nat} {Lf Rt : List Tr} (hl : Lists K X c Lf) (hr : Lists (fun i => K (c + i)) (fun i => X (c + i)) m Rt) {t : Int} (ht : Met X (c + m) t) :
    ((find Lf t).2 || (find Rt t).2) = true ∧ want (find Lf t) (find Rt t) = ends K X (c + m) t := by
  rw [ends_cut]
  by_cases h1 : Met X c t
  · rw [find_met hl h1]
    by_cases h2 : Met (fun i => X (c + i)) m t
    · rw [find_met hr h2]
      refine ⟨rfl, ?_⟩
      unfold want
      by_cases h0 : ends (fun i => K (c + i)) (fun i => X (c + i)) m t = 0
      · simp [h0]
      · simp [h0]
    · rw [find_unmet hr h2, ends_unmet h2]
      refine ⟨rfl, ?_⟩
      simp [want]
  · have h2 : Met (fun i => X (c + i)) m t := (met_cut.1 ht).resolve_left h1
    rw [find_unmet hl h1, find_met hr h2, ends_unmet h1]
    refine ⟨rfl, ?_⟩
    unfold want
    by_cases h0 : ends (fun i => K (c + i)) (fun i => X (c + i)) m t = 0
    · simp [h0]
    · simp [h0]
end Go.Proofs.Qxb6608766a
