import Derived.Test.Qxb6608766aOps
namespace Go.Proofs.Qxb6608766a
open Go.RowKit
set_option linter.unusedSimpArgs false
set_option linter.unusedVariables false

/-! How the transactions of the first n operations end. No Go here. -/
def ends (K X : Nat → Int) : Nat → Int → Int
  | 0, _ => 0
  | n + 1, t => if X n = t then (if K n = 3 then 1 else if K n = 4 then 2 else ends K X n t) else ends K X n t
def Met (X : Nat → Int) (n : Nat) (t : Int) : Prop := ∃ i, i < n ∧ X i = t
theorem met_succ {X : Nat → Int} {n : Nat} {t : Int} : Met X (n + 1) t ↔ Met X n t ∨ X n = t := by
  constructor
  · rintro ⟨i, hi, e⟩
    by_cases h : i = n
    · subst h; exact .inr e
    · exact .inl ⟨i, by omega, e⟩
  · rintro (⟨i, hi, e⟩ | e)
    · exact ⟨i, by omega, e⟩
    · exact ⟨n, by omega, e⟩

abbrev Tr := Int × Int
/-- L lists each number that the first n operations carry, once, with its ending. -/
structure Lists (K X : Nat → Int) (n : Nat) (L : List Tr) : Prop where
  nd : (L.map (·.1)).Nodup
  mem : ∀ t o, (t, o) ∈ L ↔ Met X n t ∧ o = ends K X n t
theorem Lists.zero (K X : Nat → Int) : Lists K X 0 [] :=
  ⟨by simp, fun t o => ⟨fun h => by simp at h, fun ⟨⟨i, hi, _⟩, _⟩ => by omega⟩⟩

theorem ends_unmet {K X : Nat → Int} : ∀ {n : Nat} {t : Int}, ¬ Met X n t → ends K X n t = 0
  | 0, _, _ => rfl
  | n + 1, t, h => by
    have h1 : ¬ X n = t := fun e => h ⟨n, by omega, e⟩
    have h2 : ¬ Met X n t := fun ⟨i, hi, e⟩ => h ⟨i, by omega, e⟩
    simp only [ends, if_neg h1]
    exact ends_unmet h2

theorem Lists.fst {K X : Nat → Int} {n : Nat} {L : List Tr} (h : Lists K X n L) {t : Int} : t ∈ L.map (·.1) ↔ Met X n t := by
  constructor
  · intro ht
    obtain ⟨⟨a, o⟩, hm, rfl⟩ := List.mem_map.1 ht
    exact ((h.mem a o).1 hm).1
  · intro ht
    exact List.mem_map.2 ⟨(t, ends K X n t), (h.mem t _).2 ⟨ht, rfl⟩, rfl⟩

/-- What the outcome of the number becomes. -/
def out (k o : Int) : Int := if k = 3 then 1 else if k = 4 then 2 else o
theorem ends_hit (K X : Nat → Int) (n : Nat) : ends K X (n + 1) (X n) = out (K n) (ends K X n (X n)) := by simp [ends, out]
theorem ends_other {K X : Nat → Int} {n : Nat} {t : Int} (h : t ≠ X n) : ends K X (n + 1) t = ends K X n t := by
  simp only [ends]
  rw [if_neg (fun e => h e.symm)]

theorem Lists.val {K X : Nat → Int} {n : Nat} {L : List Tr} (h : Lists K X n L) {i : Nat} {t o : Int} (hi : L[i]? = some (t, o)) : o = ends K X n t := ((h.mem t o).1 (List.mem_of_getElem? hi)).2

theorem set_mem {L : List Tr} (nd : (L.map (·.1)).Nodup) {i : Nat} {t o v : Int} (hi : L[i]? = some (t, o)) (a b : Int) : (a, b) ∈ L.set i (t, v) ↔ (a = t ∧ b = v) ∨ (a ≠ t ∧ (a, b) ∈ L) := by
  have hil := (List.getElem?_eq_some_iff.1 hi).1
  have uniq : ∀ j b', L[j]? = some (t, b') → j = i := fun j b' hj => by
    have hjl := (List.getElem?_eq_some_iff.1 hj).1
    by_cases e : j = i
    · exact e
    · exfalso
      have h1 : (L.map (·.1))[j]? = some t := by simp [hj]
      have h2 : (L.map (·.1))[i]? = some t := by simp [hi]
      exact e ((List.getElem?_inj (by simpa using hjl) nd).1 (h1.trans h2.symm))
  constructor
  · intro hm
    obtain ⟨j, hj⟩ := List.mem_iff_getElem?.1 hm
    rw [List.getElem?_set] at hj
    by_cases e : i = j
    · rw [if_pos e, if_pos hil] at hj
      injection hj with hj
      injection hj with h1 h2
      exact .inl ⟨h1.symm, h2.symm⟩
    · rw [if_neg e] at hj
      refine .inr ⟨fun ea => ?_, List.mem_of_getElem? hj⟩
      subst ea
      exact e (uniq j b hj).symm
  · rintro (⟨rfl, rfl⟩ | ⟨hne, hm⟩)
    · exact List.mem_iff_getElem?.2 ⟨i, by simp [List.getElem?_set, hil]⟩
    · obtain ⟨j, hj⟩ := List.mem_iff_getElem?.1 hm
      have e : i ≠ j := fun e => by
        subst e
        rw [hi] at hj
        injection hj with hj
        injection hj with h1 _
        exact hne h1.symm
      exact List.mem_iff_getElem?.2 ⟨j, by rw [List.getElem?_set, if_neg e]; exact hj⟩

theorem set_nd {L : List Tr} (nd : (L.map (·.1)).Nodup) {i : Nat} {t o v : Int} (hi : L[i]? = some (t, o)) : ((L.set i (t, v)).map (·.1)).Nodup := by
  have : (L.set i (t, v)).map (·.1) = L.map (·.1) := by
    rw [List.map_set]
    apply List.ext_getElem?
    intro j
    rw [List.getElem?_set]
    by_cases e : i = j
    · subst e
      have hil := (List.getElem?_eq_some_iff.1 hi).1
      rw [if_pos rfl, if_pos (by simpa using hil)]
      simp [hi]
    · rw [if_neg e]
  rw [this]
  exact nd

/-- A number that was met. -/
theorem Lists.old {K X : Nat → Int} {n : Nat} {L : List Tr} (h : Lists K X n L) {i : Nat} {o : Int} (hi : L[i]? = some (X n, o)) : Lists K X (n + 1) (L.set i (X n, out (K n) o)) := by
  refine ⟨set_nd h.nd hi, fun t o' => ?_⟩
  rw [set_mem h.nd hi, met_succ]
  have ho := h.val hi
  have hm : Met X n (X n) := ((h.mem _ _).1 (List.mem_of_getElem? hi)).1
  by_cases e : t = X n
  · subst e
    rw [ends_hit, ← ho]
    constructor
    · rintro (⟨_, h2⟩ | ⟨h1, _⟩)
      · exact ⟨.inl hm, h2⟩
      · exact absurd rfl h1
    · rintro ⟨_, h2⟩
      exact .inl ⟨rfl, h2⟩
  · rw [ends_other e, h.mem]
    constructor
    · rintro (⟨h1, _⟩ | ⟨_, h2, h3⟩)
      · exact absurd h1 e
      · exact ⟨.inl h2, h3⟩
    · rintro ⟨h2 | h2, h3⟩
      · exact .inr ⟨e, h2, h3⟩
      · exact absurd h2.symm e
/-- A new one: laid behind, then as one that was met. -/
theorem Lists.new {K X : Nat → Int} {n : Nat} {L : List Tr} (h : Lists K X n L) (hx : X n ∉ L.map (·.1)) : Lists K X (n + 1) (L ++ [(X n, out (K n) 0)]) := by
  have hun : ¬ Met X n (X n) := fun hm => hx (h.fst.2 hm)
  refine ⟨?_, fun t o => ?_⟩
  · rw [List.map_append, List.nodup_append]
    refine ⟨h.nd, by simp, fun a ha b hb => ?_⟩
    simp at hb
    subst hb
    exact fun e => hx (e ▸ ha)
  · rw [List.mem_append, met_succ]
    by_cases e : t = X n
    · subst e
      rw [ends_hit, ends_unmet hun]
      constructor
      · rintro (h1 | h1)
        · exact absurd ((h.mem _ _).1 h1).1 hun
        · simp at h1; exact ⟨.inr rfl, h1⟩
      · rintro ⟨_, h2⟩
        right; simp [h2]
    · rw [ends_other e, h.mem]
      constructor
      · rintro (⟨h1, h2⟩ | h1)
        · exact ⟨.inl h1, h2⟩
        · simp at h1; exact absurd h1.1 e
      · rintro ⟨h1 | h1, h2⟩
        · exact .inl ⟨h1, h2⟩
        · exact absurd h1.symm e
end Go.Proofs.Qxb6608766a
