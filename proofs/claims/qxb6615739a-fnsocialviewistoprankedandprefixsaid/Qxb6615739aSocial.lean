import Derived.Test.Qxb6615739aOffer3
import Derived.Test.Qxb6615739aPlain2
namespace Go.Proofs.Qxb6615739a
open Go.RowKit Go.Sort
set_option linter.unusedSimpArgs false
set_option linter.unusedVariables false

/-- The mask's word on a node. -/
def acc (A : Nat → Bool) (lA : Nat) (x : Int) : Bool := decide (0 ≤ x) && (decide (x < lA) && A x.toNat)

/-- A slice of bools of the law's own: nil, or the head of a block. -/
def IsMask (w : World) (a : Option Addr) (lA cA : Nat) (A : Nat → Bool) : Prop :=
  lA ≤ cA ∧ cA ≤ 9223372036854775807 ∧ ((a = none ∧ lA = 0) ∨ ∃ b, a = some ⟨b, 0, none⟩ ∧ b < w.heap.size ∧ ∀ i, i < lA → w.cell? ⟨b, i, none⟩ = some (.bool (A i)))

theorem IsMask.bel {w w' : World} {a : Option Addr} {lA cA : Nat} {A : Nat → Bool} (h : IsMask w a lA cA A) (b : Below w.heap.size w w') : IsMask w' a lA cA A := by
  refine ⟨h.1, h.2.1, ?_⟩
  rcases h.2.2 with h0 | ⟨k, ha, hb, hc⟩
  · exact .inl h0
  · exact .inr ⟨k, ha, Nat.lt_of_lt_of_le hb b.size, fun i hi => (b.cell (p := ⟨k, i, none⟩) hb).trans (hc i hi)⟩

theorem Graph.bel {w w' : World} {g bF oF n cF : Nat} {F : Nat → Nat} {aN : Option Addr} {lN cN : Nat} {N : Nat → Int} (h : Graph w g bF oF n cF F aN lN cN N) (r : Below w.heap.size w w') : Graph w' g bF oF n cF F aN lN cN N where
  gl := Nat.lt_of_lt_of_le h.gl r.size
  g1 := (r.cell (p := ⟨g, 1, none⟩) h.gl).trans h.g1
  g2 := (r.cell (p := ⟨g, 2, none⟩) h.gl).trans h.g2
  hn := h.hn
  bl := Nat.lt_of_lt_of_le h.bl r.size
  hF := fun i hi => (r.cell (p := ⟨bF, oF + i, none⟩) h.bl).trans (h.hF i hi)
  hl := h.hl
  hc := h.hc
  up := h.up
  top := h.top
  hN := by
    rcases h.hN with h0 | ⟨b, o, ha, hb, hc⟩
    · exact .inl h0
    · exact .inr ⟨b, o, ha, Nat.lt_of_lt_of_le hb r.size, fun i hi => (r.cell (p := ⟨b, o + i, none⟩) hb).trans (hc i hi)⟩

set_option maxHeartbeats 400000 in
/-- acceptedAt. -/
theorem accepted_any (a : Option Addr) (lA cA : Nat) (A : Nat → Bool) (x : Int) (w : World) (h : IsMask w a lA cA A) :
    Calls Try.prog 19 #[.slice a lA cA, .int .i64 x] w fun e w' => e = .returned (.bool (acc A lA x)) ∧ w' = w := by
  have hl := h.1
  have hc := h.2.1
  by_cases h0 : 0 ≤ x
  · by_cases h1 : x < lA
    · rcases h.2.2 with ⟨_, e⟩ | ⟨b, rfl, hb, hcell⟩
      · omega
      obtain ⟨k, rfl⟩ := Int.eq_ofNat_of_zero_le h0
      have c := hcell k (by omega)
      have hacc : acc A lA (k : Int) = A k := by simp [acc, h0, h1]
      rw [hacc]
      clear h hcell hacc
      go_enter Try.func19, Try.ntmps19
      go_wp2
      go_ret
      exact ⟨rfl, rfl⟩
    · have hacc : acc A lA x = false := by simp [acc, h1]
      rw [hacc]
      clear h hacc
      go_enter Try.func19, Try.ntmps19
      go_wp2
      go_ret
      exact ⟨rfl, rfl⟩
  · have hacc : acc A lA x = false := by simp [acc, h0]
    rw [hacc]
    clear h hacc
    go_enter Try.func19, Try.ntmps19
    go_wp2
    go_ret
    exact ⟨rfl, rfl⟩

set_option maxHeartbeats 400000 in
/-- The closure over the mask. -/
theorem closure_any (ab : Nat) (a : Option Addr) (lA cA : Nat) (A : Nat → Bool) (x : Int) (w : World) (h : IsMask w a lA cA A) (hab : w.cell? ⟨ab, 0, none⟩ = some (.slice a lA cA)) :
    Calls Try.prog 30 #[.int .i64 x, .pointer (some ⟨ab, 0, none⟩)] w fun e w' => e = .returned (.bool (acc A lA x)) ∧ w' = w := by
  have hl := h.1
  have hc := h.2.1
  by_cases h0 : 0 ≤ x
  · by_cases h1 : x < lA
    · rcases h.2.2 with ⟨_, e⟩ | ⟨b, rfl, hb, hcell⟩
      · omega
      obtain ⟨k, rfl⟩ := Int.eq_ofNat_of_zero_le h0
      have c := hcell k (by omega)
      have hacc : acc A lA (k : Int) = A k := by simp [acc, h0, h1]
      rw [hacc]
      clear h hcell hacc
      go_enter Try.func30, Try.ntmps30
      go_wp2
      go_ret
      exact ⟨rfl, rfl⟩
    · have hacc : acc A lA x = false := by simp [acc, h1]
      rw [hacc]
      clear h hacc
      go_enter Try.func30, Try.ntmps30
      go_wp2
      go_ret
      exact ⟨rfl, rfl⟩
  · have hacc : acc A lA x = false := by simp [acc, h0]
    rw [hacc]
    clear h hacc
    go_enter Try.func30, Try.ntmps30
    go_wp2
    go_ret
    exact ⟨rfl, rfl⟩

/-! What the graph says of a node's friends. No Go here. -/
def deg (F : Nat → Nat) (u : Nat) : Nat := F (u + 1) - F u
def com (F : Nat → Nat) (N : Nat → Int) (u v : Nat) : Nat := cnt (fun i => N (F u + i)) (F (u + 1) - F u) (fun i => N (F v + i)) (F (v + 1) - F v)
/-- The friend that node u's p-th neighbour is. -/
def fr (F : Nat → Nat) (N : Nat → Int) (u p : Nat) : Fr :=
  (N (F u + p), com F N u (N (F u + p)).toNat, if com F N u (N (F u + p)).toNat = 0 then 1 else deg F u * deg F (N (F u + p)).toNat)
/-- Each row ascends, and names nodes. -/
def Adj (n : Nat) (F : Nat → Nat) (N : Nat → Int) : Prop := ∀ u, u < n → Asc (fun i => N (F u + i)) (F (u + 1) - F u) ∧ ∀ i, i < deg F u → 0 ≤ N (F u + i) ∧ N (F u + i) < n
def cands (F : Nat → Nat) (N : Nat → Int) (ac : Int → Bool) (u t : Nat) : List Fr := ((List.range t).map (fr F N u)).filter (fun x => ac x.1)

theorem cands_succ (F : Nat → Nat) (N : Nat → Int) (ac : Int → Bool) (u t : Nat) : cands F N ac u (t + 1) = cands F N ac u t ++ (if ac (N (F u + t)) then [fr F N u t] else []) := by
  unfold cands
  rw [List.range_succ, List.map_append, List.filter_append]
  congr 1
  simp only [List.map_cons, List.map_nil, List.filter_cons, List.filter_nil]
  rfl

theorem cnt_zero (U : Nat → Int) (V : Nat → Int) : ∀ b, cnt U 0 V b = 0
  | 0 => rfl
  | b + 1 => by simp [cnt, cnt_zero U V b, inRow]

theorem com_le (F : Nat → Nat) (N : Nat → Int) (u v : Nat) : com F N u v ≤ deg F v := cnt_le _ _ _ _
theorem com_pos {F : Nat → Nat} {N : Nat → Int} {u v : Nat} (h : com F N u v ≠ 0) : 0 < deg F u ∧ 0 < deg F v := by
  refine ⟨Nat.pos_of_ne_zero fun e => h ?_, by have := com_le F N u v; omega⟩
  unfold com
  unfold deg at e
  rw [e]
  exact cnt_zero _ _ _

theorem fr_pos (F : Nat → Nat) (N : Nat → Int) (u p : Nat) : Pos (fr F N u p) := by
  unfold Pos fr
  simp only
  split
  · omega
  · rename_i h
    obtain ⟨h1, h2⟩ := com_pos h
    exact Nat.mul_pos h1 h2

theorem fr_ok {F : Nat → Nat} {N : Nat → Int} {u p : Nat} (hu : deg F u ≤ 4096) (hv : deg F (N (F u + p)).toNat ≤ 4096) : Fr.ok (fr F N u p) := by
  unfold Fr.ok fr
  simp only
  have := com_le F N u (N (F u + p)).toNat
  refine ⟨by omega, ?_⟩
  split
  · omega
  · have := Nat.mul_le_mul hu hv
    omega

theorem cands_up {n : Nat} {F : Nat → Nat} {N : Nat → Int} (ha : Adj n F N) (ac : Int → Bool) {u t : Nat} (hu : u < n) (ht : t ≤ deg F u) : Up (cands F N ac u t) := by
  unfold cands
  refine ⟨List.Pairwise.sublist List.filter_sublist ?_, fun y hy => ?_⟩
  · rw [List.pairwise_map]
    refine List.Pairwise.imp_of_mem ?_ (List.pairwise_lt_range)
    intro a b h1 h2 h3
    rw [List.mem_range] at h1 h2
    exact (ha u hu).1 a b h3 (by unfold deg at ht; omega)
  · obtain ⟨p, _, rfl⟩ := List.mem_map.1 (List.mem_filter.1 hy).1
    exact fr_pos _ _ _ _

theorem cands_mem {F : Nat → Nat} {N : Nat → Int} {ac : Int → Bool} {u t : Nat} {y : Fr} (h : y ∈ cands F N ac u t) : ∃ p, p < t ∧ y = fr F N u p ∧ ac y.1 = true := by
  obtain ⟨h1, h2⟩ := List.mem_filter.1 h
  obtain ⟨p, hp, rfl⟩ := List.mem_map.1 h1
  exact ⟨p, List.mem_range.1 hp, rfl, h2⟩
theorem cands_length (F : Nat → Nat) (N : Nat → Int) (ac : Int → Bool) (u t : Nat) : (cands F N ac u t).length ≤ t := by
  unfold cands
  refine Nat.le_trans (List.length_filter_le _ _) ?_
  simp
end Go.Proofs.Qxb6615739a
