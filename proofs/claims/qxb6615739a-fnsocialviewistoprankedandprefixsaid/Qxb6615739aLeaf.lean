import Derived.Test.Qxb6615739aKit
import Derived.Lib.Mul64
import Derived.Laws.Bits64b
namespace Go.Proofs.Qxb6615739a
open Go.RowKit
set_option linter.unusedSimpArgs false
set_option linter.unusedVariables false

/-- cmp.Compare on integers. -/
def cmp3 (x y : Int) : Int := if x < y then -1 else if y < x then 1 else 0

set_option maxHeartbeats 400000 in
theorem cmpU64_any (x y : Int) (w : World) :
    Calls Try.prog 62 #[.int .u64 x, .int .u64 y] w fun e w' => e = .returned (.int .i64 (cmp3 x y)) ∧ w' = w := by
  unfold cmp3
  have e1 : (x != x) = false := by simp
  have e2 : (y != y) = false := by simp
  by_cases h1 : x < y
  · go_enter Try.func62, Try.ntmps62
    go_wp2
    go_ret
    exact ⟨by simp [h1], rfl⟩
  · by_cases h2 : y < x
    · go_enter Try.func62, Try.ntmps62
      go_wp2
      go_ret
      exact ⟨by simp [h1, h2], rfl⟩
    · go_enter Try.func62, Try.ntmps62
      go_wp2
      go_ret
      exact ⟨by simp [h1, h2], rfl⟩

set_option maxHeartbeats 400000 in
theorem cmpInt_any (x y : Int) (w : World) :
    Calls Try.prog 63 #[.int .i64 x, .int .i64 y] w fun e w' => e = .returned (.int .i64 (cmp3 x y)) ∧ w' = w := by
  unfold cmp3
  have e1 : (x != x) = false := by simp
  have e2 : (y != y) = false := by simp
  by_cases h1 : x < y
  · go_enter Try.func63, Try.ntmps63
    go_wp2
    go_ret
    exact ⟨by simp [h1], rfl⟩
  · by_cases h2 : y < x
    · go_enter Try.func63, Try.ntmps63
      go_wp2
      go_ret
      exact ⟨by simp [h1, h2], rfl⟩
    · go_enter Try.func63, Try.ntmps63
      go_wp2
      go_ret
      exact ⟨by simp [h1, h2], rfl⟩

set_option maxHeartbeats 400000 in
theorem newFriendship_any (c d : Int) (w : World) :
    Calls Try.prog 48 #[.int .u64 c, .int .u64 d] w fun e w' => e = .returned (.agg #[.int .u64 c, .int .u64 (if c = 0 then 1 else d)]) ∧ Gr w w' := by
  by_cases h : c = 0
  · subst h
    go_enter Try.func48, Try.ntmps48
    go_wp2
    refine bodyPost_ret (v := .agg #[.int .u64 0, .int .u64 1]) (by simp [results, Try.results48, go_sem]) rfl ⟨by simp, ?_⟩
    exact (Gr.refl _).alloc _
  · have hc : (c == 0) = false := by simp [h]
    go_enter Try.func48, Try.ntmps48
    go_wp2
    refine bodyPost_ret (v := .agg #[.int .u64 c, .int .u64 d]) (by simp [results, Try.results48, go_sem]) rfl ⟨by simp [h], ?_⟩
    exact (Gr.refl _).alloc _

namespace M64
theorem maskN (a : Nat) (ha : a < 18446744073709551616) : bits .and .u64 (a : Int) 4294967295 = ((a % 4294967296 : Nat) : Int) := by
  have h := bits_and_u64_nat a 4294967295 ha (by omega)
  have e : a &&& 4294967295 = a % 4294967296 := Nat.and_two_pow_sub_one_eq_mod a 32
  rw [e] at h
  exact h
theorem divN (a : Nat) : (a : Int) / 4294967296 = ((a / 4294967296 : Nat) : Int) := by omega
theorem mulN (a b : Nat) : (a : Int) * (b : Int) = ((a * b : Nat) : Int) := (Int.natCast_mul a b).symm
theorem addN (a b : Nat) : (a : Int) + (b : Int) = ((a + b : Nat) : Int) := (Int.natCast_add a b).symm
theorem wrapN (a : Nat) (ha : a < 18446744073709551616) : IntKind.u64.wrap (a : Int) = (a : Int) := by rw [IntKind.wrap_u64]; omega
theorem wrapM (a : Nat) : IntKind.u64.wrap (a : Int) = ((a % 18446744073709551616 : Nat) : Int) := by rw [IntKind.wrap_u64]; omega
end M64

set_option maxHeartbeats 1000000 in
/-- math/bits.Mul64: the library's text, as the shelf walks it. -/
theorem mul64_any (x y : Nat) (hx : x < 18446744073709551616) (hy : y < 18446744073709551616) (w : World) :
    Calls Try.prog 43 #[.int .u64 x, .int .u64 y] w fun e w' => e = .returned (.tuple #[.int .u64 ((x * y / 18446744073709551616 : Nat) : Int), .int .u64 ((x * y % 18446744073709551616 : Nat) : Int)]) ∧ w' = w := by
  obtain ⟨bd, bt, bw, hhi⟩ := Lib.mul64_hi x y hx hy
  have ba := Lib.half_mul_le (a := x / 4294967296) (b := y / 4294967296) (by omega) (by omega)
  have bb := Lib.half_mul_le (a := x / 4294967296) (b := y % 4294967296) (by omega) (by omega)
  have bc := Lib.half_mul_le (a := x % 4294967296) (b := y / 4294967296) (by omega) (by omega)
  have ba' : x / 4294967296 * (y / 4294967296) < 18446744073709551616 := by omega
  have bb' : x / 4294967296 * (y % 4294967296) < 18446744073709551616 := by omega
  have bc' : x % 4294967296 * (y / 4294967296) < 18446744073709551616 := by omega
  have bh1 : x / 4294967296 * (y / 4294967296) + (x / 4294967296 * (y % 4294967296) + x % 4294967296 * (y % 4294967296) / 4294967296) / 4294967296 < 18446744073709551616 := by omega
  have bh : x / 4294967296 * (y / 4294967296) + (x / 4294967296 * (y % 4294967296) + x % 4294967296 * (y % 4294967296) / 4294967296) / 4294967296 + ((x / 4294967296 * (y % 4294967296) + x % 4294967296 * (y % 4294967296) / 4294967296) % 4294967296 + x % 4294967296 * (y / 4294967296)) / 4294967296 < 18446744073709551616 := by omega
  go_enter Try.func43, Try.ntmps43
  go_wp2
  simp only [M64.maskN x hx, M64.maskN y hy, M64.divN, M64.mulN, M64.addN, M64.wrapN _ bd, M64.wrapN _ bb', M64.wrapN _ bt, M64.maskN _ bt, M64.wrapN _ bc', M64.wrapN _ bw, M64.wrapN _ ba', M64.wrapN _ bh1, M64.wrapN _ bh, M64.wrapM (x * y)]
  rw [hhi]
  go_ret2
  exact ⟨rfl, rfl⟩

/-- What Compare answers of two friendships (c1, d1), (c2, d2). -/
def fcmp (c1 d1 c2 d2 : Nat) : Int := cmp3 ((c1 * c1 * d2 : Nat) : Int) ((c2 * c2 * d1 : Nat) : Int)

theorem cmp3_hi (a b : Nat) (h : cmp3 ((a / 18446744073709551616 : Nat) : Int) ((b / 18446744073709551616 : Nat) : Int) ≠ 0) : cmp3 ((a / 18446744073709551616 : Nat) : Int) ((b / 18446744073709551616 : Nat) : Int) = cmp3 a b := by
  unfold cmp3 at *
  split at h
  · rw [if_pos (by omega), if_pos (by omega)]
  · split at h
    · rw [if_neg (by omega), if_pos (by omega), if_neg (by omega), if_pos (by omega)]
    · simp at h

theorem cmp3_lo (a b : Nat) (h : cmp3 ((a / 18446744073709551616 : Nat) : Int) ((b / 18446744073709551616 : Nat) : Int) = 0) : cmp3 ((a % 18446744073709551616 : Nat) : Int) ((b % 18446744073709551616 : Nat) : Int) = cmp3 a b := by
  have e : a / 18446744073709551616 = b / 18446744073709551616 := by
    unfold cmp3 at h
    split at h
    · simp at h
    · split at h
      · simp at h
      · omega
  unfold cmp3
  have e1 := Nat.div_add_mod a 18446744073709551616
  have e2 := Nat.div_add_mod b 18446744073709551616
  rw [← e] at e2
  by_cases h1 : a % 18446744073709551616 < b % 18446744073709551616
  · rw [if_pos (by omega), if_pos (by omega)]
  · by_cases h2 : b % 18446744073709551616 < a % 18446744073709551616
    · rw [if_neg (by omega), if_pos (by omega), if_neg (by omega), if_pos (by omega)]
    · rw [if_neg (by omega), if_neg (by omega), if_neg (by omega), if_neg (by omega)]

theorem sq_lt (c : Nat) (h : c < 4294967296) : c * c < 18446744073709551616 := by
  have := Nat.mul_le_mul (show c ≤ 4294967295 by omega) (show c ≤ 4294967295 by omega)
  omega

/-- .. the two halves behind letters. -/
theorem mul64_ex (x y : Nat) (X Y : Int) (eX : X = x) (eY : Y = y) (hx : x < 18446744073709551616) (hy : y < 18446744073709551616) (w : World) :
    Calls Try.prog 43 #[.int .u64 X, .int .u64 Y] w fun e w' => ∃ hi lo : Int, e = .returned (.tuple #[.int .u64 hi, .int .u64 lo]) ∧ w' = w ∧ Hid (hi = ((x * y / 18446744073709551616 : Nat) : Int) ∧ lo = ((x * y % 18446744073709551616 : Nat) : Int)) := by
  subst eX; subst eY
  exact (mul64_any x y hx hy w).mono fun e w' ⟨he, hw⟩ => ⟨_, _, he, hw, rfl, rfl⟩

set_option maxHeartbeats 1000000 in
theorem compare_any (c1 d1 c2 d2 : Nat) (h1 : c1 < 4294967296) (h2 : c2 < 4294967296) (k1 : d1 < 18446744073709551616) (k2 : d2 < 18446744073709551616) (w : World) :
    Calls Try.prog 44 #[.agg #[.int .u64 c1, .int .u64 d1], .agg #[.int .u64 c2, .int .u64 d2]] w fun e w' => e = .returned (.int .i64 (fcmp c1 d1 c2 d2)) ∧ Gr w w' := by
  have s1 := sq_lt c1 h1
  have s2 := sq_lt c2 h2
  go_enter Try.func44, Try.ntmps44
  go_wp2_with fail
  refine (mul64_ex (c1 * c1) d2 _ _ (M64.mulN c1 c1) rfl s1 k2 _).mono ?_
  rintro e w' ⟨hi1, lo1, rfl, rfl, H1⟩
  go_wp2_with fail
  refine (mul64_ex (c2 * c2) d1 _ _ (M64.mulN c2 c2) rfl s2 k1 _).mono ?_
  rintro e w' ⟨hi2, lo2, rfl, rfl, H2⟩
  go_wp2_with fail
  refine (cmpU64_any _ _ _).mono ?_
  rintro e w' ⟨rfl, rfl⟩
  generalize ht : cmp3 hi1 hi2 = t
  have HT : Hid (cmp3 hi1 hi2 = t) := ht
  clear ht
  by_cases hz : t = 0
  · have hb : (t != 0) = false := by simp [hz]
    have HZ : Hid (t = 0) := hz
    clear hz
    go_wp2_with fail
    refine (cmpU64_any _ _ _).mono ?_
    rintro e w' ⟨rfl, rfl⟩
    have hfin : cmp3 lo1 lo2 = fcmp c1 d1 c2 d2 := by
      have := HT.out.trans HZ.out
      rw [H1.out.1, H2.out.1] at this
      rw [H1.out.2, H2.out.2, cmp3_lo _ _ this]
      rfl
    rw [hfin]
    clear hfin
    go_wp2
    go_ret
    exact ⟨rfl, ((Gr.refl _).alloc _).alloc _⟩
  · have hb : (t != 0) = true := by simp [hz]
    have HZ : Hid (t ≠ 0) := hz
    clear hz
    go_wp2
    go_ret
    refine ⟨?_, ((Gr.refl _).alloc _).alloc _⟩
    have hfin : t = fcmp c1 d1 c2 d2 := by
      have h3 := HT.out
      have h4 := HZ.out
      rw [H1.out.1, H2.out.1] at h3
      rw [← h3] at h4 ⊢
      rw [cmp3_hi _ _ h4]
      rfl
    rw [hfin]
    rfl

/-- A friend: its node, its count of common neighbours, its product of degrees. -/
abbrev Fr := Int × Nat × Nat
def Fr.cells (x : Fr) : List Value := [.int .i64 x.1, .int .u64 x.2.1, .int .u64 x.2.2]
/-- The numbers of a friend within what Compare can multiply. -/
def Fr.ok (x : Fr) : Prop := x.2.1 < 4294967296 ∧ x.2.2 < 18446744073709551616

/-- What 'closer' answers. -/
def clo (x y : Fr) : Int := if fcmp y.2.1 y.2.2 x.2.1 x.2.2 = 0 then cmp3 x.1 y.1 else fcmp y.2.1 y.2.2 x.2.1 x.2.2

set_option maxHeartbeats 1000000 in
theorem closer_any (x y : Fr) (hx : Fr.ok x) (hy : Fr.ok y) (w : World) :
    Calls Try.prog 46 #[.agg (Fr.cells x).toArray, .agg (Fr.cells y).toArray] w fun e w' => e = .returned (.int .i64 (clo x y)) ∧ Gr w w' := by
  obtain ⟨xn, xc, xd⟩ := x
  obtain ⟨yn, yc, yd⟩ := y
  obtain ⟨hx1, hx2⟩ := hx
  obtain ⟨hy1, hy2⟩ := hy
  simp only at hx1 hx2 hy1 hy2
  simp only [Fr.cells, clo]
  generalize ht : fcmp yc yd xc xd = t
  have HT : Hid (fcmp yc yd xc xd = t) := ht
  clear ht
  go_enter Try.func46, Try.ntmps46
  go_wp2_with fail
  refine (compare_any yc yd xc xd hy1 hx1 hy2 hx2 _).mono ?_
  rintro e w' ⟨rfl, hg⟩
  rw [HT.out]
  have g1 : Gr w w' := (((Gr.refl w).alloc _).alloc _).trans hg
  have hz := hg.size
  have c1 := fun o => hg.cell (b := w.heap.size) (o := o) (by simp; omega)
  have c2 := fun o => hg.cell (b := w.heap.size + 1) (o := o) (by simp)
  clear hg
  simp at hz
  by_cases hz : t = 0
  · have hb : (t != 0) = false := by simp [hz]
    have HZ : Hid (t = 0) := hz
    clear hz
    go_wp2_with fail
    refine (cmpInt_any _ _ _).mono ?_
    rintro e w' ⟨rfl, rfl⟩
    go_wp2
    go_ret
    exact ⟨by simp [HZ.out], g1⟩
  · have hb : (t != 0) = true := by simp [hz]
    have HZ : Hid (t ≠ 0) := hz
    clear hz
    go_wp2
    go_ret
    exact ⟨by simp [HZ.out], g1⟩
end Go.Proofs.Qxb6615739a
