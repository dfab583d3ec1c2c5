import Derived.Test.Qxb6615739aOffer
namespace Go.Proofs.Qxb6615739a
set_option linter.unusedSimpArgs false
set_option linter.unusedVariables false

/-! The order of friends: 'x stands ahead of y' is 'clo x y < 0'. No Go here. -/

theorem cross_le {a b c x y z : Nat} (hy : 0 < y) (h1 : b * x ≤ a * y) (h2 : c * y ≤ b * z) : c * x ≤ a * z := by
  have e1 : c * y * x ≤ b * z * x := Nat.mul_le_mul_right x h2
  have e2 : b * x * z ≤ a * y * z := Nat.mul_le_mul_right z h1
  have e3 : c * x * y ≤ a * z * y := by
    have q1 : c * x * y = c * y * x := Nat.mul_right_comm _ _ _
    have q2 : b * z * x = b * x * z := Nat.mul_right_comm _ _ _
    have q3 : a * y * z = a * z * y := Nat.mul_right_comm _ _ _
    omega
  exact Nat.le_of_mul_le_mul_right e3 hy
theorem cross_lt1 {a b c x y z : Nat} (hy : 0 < y) (hz : 0 < z) (h1 : b * x < a * y) (h2 : c * y ≤ b * z) : c * x < a * z := by
  have e1 : c * y * x ≤ b * z * x := Nat.mul_le_mul_right x h2
  have e2 : b * x * z < a * y * z := Nat.mul_lt_mul_of_pos_right h1 hz
  have e3 : c * x * y < a * z * y := by
    have q1 : c * x * y = c * y * x := Nat.mul_right_comm _ _ _
    have q2 : b * z * x = b * x * z := Nat.mul_right_comm _ _ _
    have q3 : a * y * z = a * z * y := Nat.mul_right_comm _ _ _
    omega
  exact Nat.lt_of_mul_lt_mul_right e3
theorem cross_lt2 {a b c x y z : Nat} (hy : 0 < y) (hx : 0 < x) (h1 : b * x ≤ a * y) (h2 : c * y < b * z) : c * x < a * z := by
  have e1 : c * y * x < b * z * x := Nat.mul_lt_mul_of_pos_right h2 hx
  have e2 : b * x * z ≤ a * y * z := Nat.mul_le_mul_right z h1
  have e3 : c * x * y < a * z * y := by
    have q1 : c * x * y = c * y * x := Nat.mul_right_comm _ _ _
    have q2 : b * z * x = b * x * z := Nat.mul_right_comm _ _ _
    have q3 : a * y * z = a * z * y := Nat.mul_right_comm _ _ _
    omega
  exact Nat.lt_of_mul_lt_mul_right e3

theorem cmp3_neg {a b : Int} : cmp3 a b < 0 ↔ a < b := by unfold cmp3; split <;> (try split) <;> omega
theorem cmp3_zero {a b : Int} : cmp3 a b = 0 ↔ a = b := by unfold cmp3; split <;> (try split) <;> omega
theorem cmp3_pos {a b : Int} : 0 < cmp3 a b ↔ b < a := by unfold cmp3; split <;> (try split) <;> omega

/-- x ahead of y, in numbers. -/
theorem clo_neg {x y : Fr} : clo x y < 0 ↔ y.2.1 * y.2.1 * x.2.2 < x.2.1 * x.2.1 * y.2.2 ∨ (y.2.1 * y.2.1 * x.2.2 = x.2.1 * x.2.1 * y.2.2 ∧ x.1 < y.1) := by
  unfold clo fcmp
  split
  · rename_i h
    rw [cmp3_zero] at h
    rw [cmp3_neg]
    omega
  · rename_i h
    rw [cmp3_zero] at h
    rw [cmp3_neg]
    omega

/-- A friend whose product of degrees is not nought. -/
def Pos (x : Fr) : Prop := 0 < x.2.2

theorem clo_trans {x y z : Fr} (hx : Pos x) (hy : Pos y) (hz : Pos z) (h1 : clo x y < 0) (h2 : clo y z < 0) : clo x z < 0 := by
  rw [clo_neg] at *
  rcases h1 with h1 | ⟨e1, n1⟩
  · rcases h2 with h2 | ⟨e2, n2⟩
    · exact .inl (cross_lt1 hy hz h1 (Nat.le_of_lt h2))
    · exact .inl (cross_lt1 hy hz h1 (Nat.le_of_eq e2))
  · rcases h2 with h2 | ⟨e2, n2⟩
    · exact .inl (cross_lt2 hy hx (Nat.le_of_eq e1) h2)
    · refine .inr ⟨Nat.le_antisymm (cross_le hy (Nat.le_of_eq e1) (Nat.le_of_eq e2)) ?_, by omega⟩
      exact cross_le (a := z.2.1 * z.2.1) (b := y.2.1 * y.2.1) (c := x.2.1 * x.2.1) hy (Nat.le_of_eq e2.symm) (Nat.le_of_eq e1.symm)

theorem clo_total {x y : Fr} (hn : x.1 ≠ y.1) (h : ¬ clo x y < 0) : clo y x < 0 := by
  rw [clo_neg] at *
  omega
theorem clo_irrefl (x : Fr) : ¬ clo x x < 0 := by rw [clo_neg]; omega
theorem clo_asymm {x y : Fr} (h : clo x y < 0) : ¬ clo y x < 0 := by
  rw [clo_neg] at *
  omega

/-- Laid in where it belongs. -/
def ins (x : Fr) : List Fr → List Fr
  | [] => [x]
  | y :: r => if clo y x < 0 then y :: ins x r else x :: y :: r

def Sorted (L : List Fr) : Prop := L.Pairwise (fun a b => clo a b < 0)

theorem mem_ins {x z : Fr} : ∀ {L : List Fr}, z ∈ ins x L ↔ z = x ∨ z ∈ L
  | [] => by simp [ins]
  | y :: r => by
    unfold ins
    split
    · rw [List.mem_cons, mem_ins, List.mem_cons]
      constructor
      · rintro (h | h | h)
        · exact .inr (.inl h)
        · exact .inl h
        · exact .inr (.inr h)
      · rintro (h | h | h)
        · exact .inr (.inl h)
        · exact .inl h
        · exact .inr (.inr h)
    · simp
theorem ins_length (x : Fr) : ∀ L : List Fr, (ins x L).length = L.length + 1
  | [] => rfl
  | y :: r => by
    unfold ins
    split
    · simp [ins_length x r]
    · simp

theorem ins_sorted {x : Fr} : ∀ {L : List Fr}, Sorted L → (∀ y ∈ L, Pos y) → Pos x → (∀ y ∈ L, y.1 ≠ x.1) → Sorted (ins x L)
  | [], _, _, _, _ => by simp [ins, Sorted]
  | y :: r, h, hp, hx, hn => by
    rw [Sorted, List.pairwise_cons] at h
    unfold ins
    split
    · rename_i hc
      rw [Sorted, List.pairwise_cons]
      refine ⟨fun z hz => ?_, ins_sorted h.2 (fun a ha => hp a (List.mem_cons_of_mem _ ha)) hx (fun a ha => hn a (List.mem_cons_of_mem _ ha))⟩
      rcases mem_ins.1 hz with rfl | hz
      · exact hc
      · exact h.1 z hz
    · rename_i hc
      have hxy := clo_total (hn y (List.mem_cons_self)) hc
      rw [Sorted, List.pairwise_cons]
      refine ⟨fun z hz => ?_, List.pairwise_cons.2 h⟩
      rcases List.mem_cons.1 hz with rfl | hz
      · exact hxy
      · exact clo_trans hx (hp y List.mem_cons_self) (hp z (List.mem_cons_of_mem _ hz)) hxy (h.1 z hz)

theorem nth_zero (y : Fr) (r : List Fr) : nth (y :: r) 0 = y := rfl
theorem nth_succ (y : Fr) (r : List Fr) (j : Nat) : nth (y :: r) (j + 1) = nth r j := rfl
theorem nth_mem {L : List Fr} {j : Nat} (h : j < L.length) : nth L j ∈ L := by
  have : nth L j = L[j] := by simp [nth, h]
  rw [this]; exact List.getElem_mem h

/-- 'ins' is an insertion at the place that the search finds. -/
theorem ins_insK {x : Fr} : ∀ {L : List Fr}, Sorted L → (∀ y ∈ L, Pos y) → Pos x → ∃ k, Bd L x k ∧ ins x L = insK L x k
  | [], _, _, _ => ⟨0, ⟨Nat.le_refl _, fun j h => absurd h (Nat.not_lt_zero _), fun j _ h => absurd h (Nat.not_lt_zero _)⟩, rfl⟩
  | y :: r, h, hp, hx => by
    rw [Sorted, List.pairwise_cons] at h
    unfold ins
    split
    · rename_i hc
      obtain ⟨k, ⟨h1, h2, h3⟩, e⟩ := ins_insK h.2 (fun a ha => hp a (List.mem_cons_of_mem _ ha)) hx
      refine ⟨k + 1, ⟨by simp; omega, fun j hj => ?_, fun j hj hl => ?_⟩, by rw [e]; simp [insK]⟩
      · cases j with
        | zero => exact hc
        | succ j => rw [nth_succ]; exact h2 j (by omega)
      · cases j with
        | zero => omega
        | succ j => rw [nth_succ]; exact h3 j (by omega) (by simpa using hl)
    · rename_i hc
      refine ⟨0, ⟨Nat.zero_le _, fun j hj => absurd hj (Nat.not_lt_zero _), fun j _ hl => ?_⟩, rfl⟩
      cases j with
      | zero => rw [nth_zero]; omega
      | succ j =>
        rw [nth_succ]
        have hm : nth r j ∈ r := nth_mem (by simpa using hl)
        have := h.1 _ hm
        by_cases hz : clo (nth r j) x < 0
        · exact absurd (clo_trans (hp y List.mem_cons_self) (hp _ (List.mem_cons_of_mem _ hm)) hx this hz) hc
        · omega

theorem ins_take_keep {x : Fr} : ∀ {S : List Fr} {s : Nat}, Sorted S → (∀ y ∈ S, Pos y) → Pos x → s < S.length → clo (nth S s) x < 0 → (ins x S).take (s + 1) = S.take (s + 1)
  | [], s, _, _, _, h, _ => by simp at h
  | a :: r, 0, h, hp, hx, hs, hc => by
    rw [nth_zero] at hc
    unfold ins
    rw [if_pos hc]
    simp
  | a :: r, s + 1, h, hp, hx, hs, hc => by
    rw [Sorted, List.pairwise_cons] at h
    rw [nth_succ] at hc
    have hs' : s < r.length := by simpa using hs
    have hm := nth_mem hs'
    have ha : clo a x < 0 := clo_trans (hp a List.mem_cons_self) (hp _ (List.mem_cons_of_mem _ hm)) hx (h.1 _ hm) hc
    unfold ins
    rw [if_pos ha, List.take_succ_cons, List.take_succ_cons, ins_take_keep h.2 (fun b hb => hp b (List.mem_cons_of_mem _ hb)) hx hs' hc]

theorem ins_take_repl {x : Fr} : ∀ {S : List Fr} {s : Nat}, s < S.length → ¬ clo (nth S s) x < 0 → (ins x S).take (s + 1) = ins x (S.take s)
  | [], s, h, _ => by simp at h
  | a :: r, 0, hs, hc => by
    rw [nth_zero] at hc
    simp [ins, hc]
  | a :: r, s + 1, hs, hc => by
    rw [nth_succ] at hc
    rw [List.take_succ_cons (i := s)]
    unfold ins
    split
    · rw [List.take_succ_cons, ins_take_repl (by simpa using hs) hc]
    · rw [List.take_succ_cons, List.take_succ_cons]

theorem sorted_take {L : List Fr} (h : Sorted L) (k : Nat) : Sorted (L.take k) := List.Pairwise.sublist (List.take_sublist k L) h

/-- OFFER's PLAIN LAW: the first s of the sorted list, one more laid in. -/
theorem offer_plain {S : List Fr} {x : Fr} (s : Nat) (hS : Sorted S) (hp : ∀ y ∈ S, Pos y) (hx : Pos x) (hn : ∀ y ∈ S, y.1 < x.1) : OfferRel (s : Int) (S.take s) x ((ins x S).take s) := by
  by_cases h : S.length < s
  · left
    rw [List.take_of_length_le (Nat.le_of_lt h), List.take_of_length_le (by rw [ins_length]; omega)]
    obtain ⟨k, hk, e⟩ := ins_insK hS hp hx
    exact ⟨by omega, k, hk, e⟩
  · have hl : (S.take s).length = s := by rw [List.length_take]; omega
    right
    cases s with
    | zero => left; exact ⟨by simp, by simp, by simp⟩
    | succ s =>
      right
      refine ⟨by rw [hl], S.take s, nth S s, ?_, ?_⟩
      · rw [List.take_succ_eq_append_getElem (by omega)]
        simp [nth, show s < S.length by omega]
      · have hs : s < S.length := by omega
        have hm := nth_mem hs
        by_cases hf : fcmp x.2.1 x.2.2 (nth S s).2.1 (nth S s).2.2 ≤ 0
        · left
          have hc : clo (nth S s) x < 0 := by
            unfold clo
            split
            · rw [cmp3_neg]; exact hn _ hm
            · omega
          exact ⟨hf, ins_take_keep hS hp hx hs hc⟩
        · right
          have hc : ¬ clo (nth S s) x < 0 := by
            unfold clo
            split <;> omega
          rw [ins_take_repl hs hc]
          obtain ⟨k, hk, e⟩ := ins_insK (sorted_take hS s) (fun y hy => hp y (List.mem_of_mem_take hy)) hx
          exact ⟨by omega, k, hk, e⟩

/-- All that stand behind x: x goes first. -/
theorem ins_front {x : Fr} : ∀ {L : List Fr}, (∀ y ∈ L, ¬ clo y x < 0) → ins x L = x :: L
  | [], _ => rfl
  | y :: r, h => by unfold ins; rw [if_neg (h y List.mem_cons_self)]

/-- To take some out, and to lay one in. -/
theorem filter_ins {x : Fr} (p : Fr → Bool) : ∀ {L : List Fr}, Sorted L → (∀ y ∈ L, Pos y) → Pos x → (ins x L).filter p = if p x then ins x (L.filter p) else L.filter p
  | [], _, _, _ => by unfold ins; cases h : p x <;> simp [h, ins]
  | y :: r, h, hp, hx => by
    rw [Sorted, List.pairwise_cons] at h
    have hr : ∀ a ∈ r, Pos a := fun a ha => hp a (List.mem_cons_of_mem _ ha)
    by_cases hc : clo y x < 0
    · have ih := filter_ins p h.2 hr hx
      have e : ins x (y :: r) = y :: ins x r := by rw [ins, if_pos hc]
      rw [e]
      cases hy : p y
      · rw [List.filter_cons_of_neg (by simp [hy]), List.filter_cons_of_neg (by simp [hy]), ih]
      · rw [List.filter_cons_of_pos hy, List.filter_cons_of_pos hy, ih]
        split
        · rw [ins, if_pos hc]
        · rfl
    · have e : ins x (y :: r) = x :: y :: r := by rw [ins, if_neg hc]
      rw [e]
      cases hpx : p x
      · rw [List.filter_cons_of_neg (by simp [hpx])]
        rfl
      · rw [List.filter_cons_of_pos hpx, if_pos rfl, ins_front]
        intro z hz
        have hz' := (List.mem_filter.1 hz).1
        rcases List.mem_cons.1 hz' with rfl | hz'
        · exact hc
        · intro hzx
          exact hc (clo_trans (hp y List.mem_cons_self) (hr z hz') hx (h.1 z hz') hzx)

/-- The list sorted: one after the other laid in. -/
def srt (l : List Fr) : List Fr := l.foldl (fun S x => ins x S) []
theorem srt_snoc (l : List Fr) (x : Fr) : srt (l ++ [x]) = ins x (srt l) := by simp [srt, List.foldl_append]

/-- Friends whose nodes ascend, all with a product. -/
def Up (l : List Fr) : Prop := l.Pairwise (fun a b => a.1 < b.1) ∧ ∀ y ∈ l, Pos y

theorem mem_foldl_ins (z : Fr) : ∀ (l S : List Fr), z ∈ l.foldl (fun S x => ins x S) S ↔ z ∈ l ∨ z ∈ S
  | [], S => by simp
  | x :: l, S => by
    rw [List.foldl_cons, mem_foldl_ins z l, mem_ins, List.mem_cons]
    constructor
    · rintro (h | h | h)
      · exact .inl (.inr h)
      · exact .inl (.inl h)
      · exact .inr h
    · rintro ((h | h) | h)
      · exact .inr (.inl h)
      · exact .inl h
      · exact .inr (.inr h)
theorem mem_srt {l : List Fr} {z : Fr} : z ∈ srt l ↔ z ∈ l := by rw [srt, mem_foldl_ins]; simp
theorem length_foldl_ins : ∀ (l S : List Fr), (l.foldl (fun S x => ins x S) S).length = l.length + S.length
  | [], S => by simp
  | x :: l, S => by rw [List.foldl_cons, length_foldl_ins l, ins_length, List.length_cons]; omega
theorem srt_length (l : List Fr) : (srt l).length = l.length := by rw [srt, length_foldl_ins]; simp

theorem up_init {l : List Fr} {x : Fr} (h : Up (l ++ [x])) : Up l ∧ Pos x ∧ ∀ y ∈ l, y.1 < x.1 := by
  obtain ⟨h1, h2⟩ := h
  rw [List.pairwise_append] at h1
  exact ⟨⟨h1.1, fun y hy => h2 y (by simp [hy])⟩, h2 x (by simp), fun y hy => h1.2.2 y hy x (by simp)⟩

theorem srt_take_up {l : List Fr} (h : Up l) : ∀ k, k ≤ l.length → Sorted (srt (l.take k))
  | 0, _ => by simp [srt, Sorted]
  | k + 1, hk => by
    have e : l.take (k + 1) = l.take k ++ [l[k]] := List.take_succ_eq_append_getElem (by omega)
    have hu : Up (l.take (k + 1)) := ⟨List.Pairwise.sublist (List.take_sublist _ _) h.1, fun y hy => h.2 y (List.mem_of_mem_take hy)⟩
    rw [e] at hu ⊢
    obtain ⟨h1, h2, h3⟩ := up_init hu
    rw [srt_snoc]
    exact ins_sorted (srt_take_up h k (by omega)) (fun y hy => h1.2 y (mem_srt.1 hy)) h2 (fun y hy => by have := h3 y (mem_srt.1 hy); omega)
theorem srt_sorted {l : List Fr} (h : Up l) : Sorted (srt l) := by
  have := srt_take_up h l.length (Nat.le_refl _)
  rwa [List.take_length] at this

theorem filter_srt_take {l : List Fr} (p : Fr → Bool) (h : Up l) : ∀ k, k ≤ l.length → (srt (l.take k)).filter p = srt ((l.take k).filter p)
  | 0, _ => by simp [srt]
  | k + 1, hk => by
    have e : l.take (k + 1) = l.take k ++ [l[k]] := List.take_succ_eq_append_getElem (by omega)
    have hu : Up (l.take (k + 1)) := ⟨List.Pairwise.sublist (List.take_sublist _ _) h.1, fun y hy => h.2 y (List.mem_of_mem_take hy)⟩
    rw [e] at hu ⊢
    obtain ⟨h1, h2, h3⟩ := up_init hu
    rw [srt_snoc, filter_ins p (srt_take_up h k (by omega)) (fun y hy => h1.2 y (mem_srt.1 hy)) h2, filter_srt_take p h k (by omega), List.filter_append]
    cases hp : p l[k]
    · simp [hp]
    · simp only [List.filter_cons, hp, if_true, List.filter_nil]
      rw [srt_snoc]
theorem filter_srt {l : List Fr} (p : Fr → Bool) (h : Up l) : (srt l).filter p = srt (l.filter p) := by
  have := filter_srt_take p h l.length (Nat.le_refl _)
  rwa [List.take_length] at this
end Go.Proofs.Qxb6615739a
