import Derived.Test.Qxb6615739aLeaf
import Derived.Deep.QuietTactic
import Derived.BigQuiet
import Derived.RegionTactic
import Derived.Deep.LoopGhost
namespace Go.Proofs.Qxb6615739a
open Go.RowKit
set_option linter.unusedSimpArgs false
set_option linter.unusedVariables false

/-- A slice of integers: of 'len' elements 'Z 0 .. Z (len - 1)'. -/
def IsInts (w : World) (k : IntKind) (a : Option Addr) (len cap : Nat) (Z : Nat → Int) : Prop :=
  len ≤ cap ∧ cap ≤ 9223372036854775807 ∧ (len = 0 ∨ ∃ b o, a = some ⟨b, o, none⟩ ∧ b < w.heap.size ∧ ∀ i, i < len → w.cell? ⟨b, o + i, none⟩ = some (.int k (Z i)))

theorem IsInts.gr {w w' : World} {k : IntKind} {a : Option Addr} {len cap : Nat} {Z : Nat → Int} (h : IsInts w k a len cap Z) (g : Gr w w') : IsInts w' k a len cap Z := by
  refine ⟨h.1, h.2.1, ?_⟩
  rcases h.2.2 with h0 | ⟨b, o, ha, hb, hc⟩
  · exact .inl h0
  · exact .inr ⟨b, o, ha, Nat.lt_of_lt_of_le hb g.size, fun i hi => (g.cell hb).trans (hc i hi)⟩

/-- What hasEdge answers, as far as the laws ask: it finds a node that stands in an ascending row. -/
def Finds (N : Nat → Int) (f0 f1 : Nat) (x : Int) (r : Bool) : Prop :=
  (∀ p q, f0 ≤ p → p < q → q < f1 → N p < N q) → (∃ p, f0 ≤ p ∧ p < f1 ∧ N p = x) → r = true

def EdgePost (N : Nat → Int) (f0 f1 : Nat) (x : Int) (w : World) (e : Ending) (w' : World) : Prop := ∃ r, e = .returned (.bool r) ∧ w' = w ∧ Finds N f0 f1 x r ∧ (r = true → f0 < f1)

set_option maxHeartbeats 1000000 in
theorem hasEdge_none (bF oF lF cF : Nat) (aN : Option Addr) (lN cN : Nat) (N : Nat → Int) (u f0 : Nat) (x : Int) (w : World)
    (hu : u + 1 < lF) (hlF : lF ≤ 9223372036854775807) (h0 : w.cell? ⟨bF, oF + u, none⟩ = some (.int .i64 f0)) (h1 : w.cell? ⟨bF, oF + (u + 1), none⟩ = some (.int .i64 f0)) :
    Calls Try.prog 22 #[.slice (some ⟨bF, oF, none⟩) lF cF, .slice aN lN cN, .int .i64 u, .int .i64 x] w (EdgePost N f0 f0 x w) := by
  go_enter Try.func22, Try.ntmps22
  go_wp2
  refine wp_loop_rounds 1 ?_
  rw [rounds_succ]
  go_wp2
  go_ret
  exact ⟨_, rfl, rfl, fun _ ⟨p, h1, h2, _⟩ => by omega, fun h => by simp at h⟩

/-- The search's book: what lies ahead of lo is less than x, what lies from hi on is not. -/
def Book (N : Nat → Int) (f0 f1 : Nat) (x : Int) (lo hi : Nat) : Prop :=
  (∀ p q, f0 ≤ p → p < q → q < f1 → N p < N q) → (∀ p, f0 ≤ p → p < lo → N p < x) ∧ (∀ p, hi ≤ p → p < f1 → x ≤ N p)

theorem book_lo {N : Nat → Int} {f0 f1 : Nat} {x : Int} {lo hi m : Nat} (h : Book N f0 f1 x lo hi) (hm : m < f1) (hx : N m < x) : Book N f0 f1 x (m + 1) hi := by
  intro ha
  refine ⟨fun p h1 h2 => ?_, (h ha).2⟩
  by_cases e : p = m
  · rw [e]; exact hx
  · exact Int.lt_trans (ha p m h1 (by omega) hm) hx
theorem book_hi {N : Nat → Int} {f0 f1 : Nat} {x : Int} {lo hi m : Nat} (h : Book N f0 f1 x lo hi) (hm : f0 ≤ m) (hx : x ≤ N m) : Book N f0 f1 x lo m := by
  intro ha
  refine ⟨(h ha).1, fun p h1 h2 => ?_⟩
  by_cases e : p = m
  · rw [e]; exact hx
  · exact Int.le_of_lt (Int.lt_of_le_of_lt hx (ha m p hm (by omega) h2))
theorem book_end {N : Nat → Int} {f0 f1 : Nat} {x : Int} {lo : Nat} (h : Book N f0 f1 x lo lo) (h0 : f0 ≤ lo) (hl : lo < f1) : Finds N f0 f1 x (N lo == x) := by
  intro ha ⟨p, h1, h2, h3⟩
  have hb := h ha
  by_cases e : p < lo
  · have := hb.1 p h1 e; omega
  · by_cases e2 : p = lo
    · subst e2; simpa using h3
    · have := ha lo p h0 (by omega) h2
      have := hb.2 lo (Nat.le_refl _) hl
      omega
theorem book_out {N : Nat → Int} {f0 f1 : Nat} {x : Int} (h : Book N f0 f1 x f1 f1) : Finds N f0 f1 x false := by
  intro ha ⟨p, h1, h2, h3⟩
  have := (h ha).1 p h1 h2
  omega

set_option maxHeartbeats 1000000 in
theorem hasEdge_some (bF oF lF cF bN oN lN cN : Nat) (N : Nat → Int) (u f0 f1 : Nat) (x : Int) (w : World)
    (hu : u + 1 < lF) (hlF : lF ≤ 9223372036854775807) (h0 : w.cell? ⟨bF, oF + u, none⟩ = some (.int .i64 f0)) (h1 : w.cell? ⟨bF, oF + (u + 1), none⟩ = some (.int .i64 f1))
    (h01 : f0 < f1) (h1N : f1 ≤ lN) (hlN : lN ≤ 4611686018427387904) (hN : ∀ i, i < lN → w.cell? ⟨bN, oN + i, none⟩ = some (.int .i64 (N i))) :
    Calls Try.prog 22 #[.slice (some ⟨bF, oF, none⟩) lF cF, .slice (some ⟨bN, oN, none⟩) lN cN, .int .i64 u, .int .i64 x] w (EdgePost N f0 f1 x w) := by
  have HN : Hid (∀ i, i < lN → w.cell? ⟨bN, oN + i, none⟩ = some (.int .i64 (N i))) := hN
  clear hN
  go_enter Try.func22, Try.ntmps22
  go_wp2
  go_loop [9, 10] (fun s t => ∃ lo hi : Nat, s = .int .i64 lo ∧ t = .int .i64 hi ∧ f0 ≤ lo ∧ lo ≤ hi ∧ hi ≤ f1 ∧ Hid (Book N f0 f1 x lo hi)) (fun s t => (intOf t - intOf s).toNat)
  case atStart => exact ⟨f0, f1, rfl, rfl, Nat.le_refl _, Nat.le_of_lt h01, Nat.le_refl _, fun _ => ⟨fun p a b => by omega, fun p a b => by omega⟩⟩
  case round =>
    obtain ⟨lo, hi, rfl, rfl, hl, hlh, hh, B⟩ := hrel
    by_cases hlt : lo < hi
    · have hc := HN.out (lo + (hi - lo) / 2) (by omega)
      by_cases hx : N (lo + (hi - lo) / 2) < x
      · go_wp2
        go_round
        case rel => exact ⟨lo + (hi - lo) / 2 + 1, hi, by go_num, rfl, by omega, by omega, hh, book_lo B.out (by omega) hx⟩
        case measure => simp [intOf]; omega
      · go_wp2
        go_round
        case rel => exact ⟨lo, lo + (hi - lo) / 2, rfl, by go_num, hl, by omega, by omega, book_hi B.out (by omega) (by omega)⟩
        case measure => simp [intOf]; omega
    · obtain rfl : lo = hi := by omega
      by_cases he : lo < f1
      · have hc := HN.out lo (by omega)
        go_wp2
        go_ret
        exact ⟨_, rfl, rfl, book_end B.out hl he, fun _ => h01⟩
      · obtain rfl : lo = f1 := by omega
        go_wp2
        go_ret
        exact ⟨_, rfl, rfl, book_out B.out, fun _ => h01⟩
end Go.Proofs.Qxb6615739a
