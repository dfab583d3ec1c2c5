import Derived.Test.Qxb6615739aPrep
import Derived.Deep.AppendLies
import Derived.Deep.RegionLaw
namespace Go.Proofs.Qxb6615739a
open Go.RowKit
set_option linter.unusedSimpArgs false
set_option linter.unusedVariables false

set_option maxHeartbeats 400000 in
/-- closerThan, its four products named. -/
theorem closerThan_raw (p cp dp q cq dq a l b r : Int) (w : World) (h1 : IntKind.u64.wrap (cp * cp) = a) (h2 : IntKind.u64.wrap (a * dq) = l) (h3 : IntKind.u64.wrap (cq * cq) = b) (h4 : IntKind.u64.wrap (b * dp) = r) :
    Calls Try.prog 20 #[.int .i64 p, .int .u64 cp, .int .u64 dp, .int .i64 q, .int .u64 cq, .int .u64 dq] w fun e w' => e = .returned (.bool (if l = r then decide (p < q) else decide (r < l))) ∧ w' = w := by
  by_cases h : l = r
  · rw [if_pos h]
    have e : (l != r) = false := by simp [h]
    clear h
    go_enter Try.func20, Try.ntmps20
    go_wp2
    go_ret
    exact ⟨rfl, rfl⟩
  · rw [if_neg h]
    have e : (l != r) = true := by simp [h]
    clear h
    go_enter Try.func20, Try.ntmps20
    go_wp2
    go_ret
    exact ⟨rfl, rfl⟩

/-- A friend with small numbers. -/
def Small (x : Fr) : Prop := x.2.1 ≤ 4096 ∧ x.2.2 ≤ 16777216
theorem small_mul {x y : Fr} (hx : Small x) (hy : Small y) : x.2.1 * x.2.1 ≤ 16777216 ∧ x.2.1 * x.2.1 * y.2.2 ≤ 281474976710656 := by
  have h1 := Nat.mul_le_mul hx.1 hx.1
  have h2 := Nat.mul_le_mul h1 hy.2
  omega

theorem closerThan_any (x y : Fr) (hx : Small x) (hy : Small y) (w : World) :
    Calls Try.prog 20 #[.int .i64 x.1, .int .u64 x.2.1, .int .u64 x.2.2, .int .i64 y.1, .int .u64 y.2.1, .int .u64 y.2.2] w fun e w' => e = .returned (.bool (decide (clo x y < 0))) ∧ w' = w := by
  have b1 := small_mul hx hy
  have b2 := small_mul hy hx
  have h := closerThan_raw x.1 x.2.1 x.2.2 y.1 y.2.1 y.2.2 ((x.2.1 * x.2.1 : Nat) : Int) ((x.2.1 * x.2.1 * y.2.2 : Nat) : Int) ((y.2.1 * y.2.1 : Nat) : Int) ((y.2.1 * y.2.1 * x.2.2 : Nat) : Int) w
    (by rw [M64.mulN, M64.wrapN _ (by omega)]) (by rw [M64.mulN, M64.wrapN _ (by omega)]) (by rw [M64.mulN, M64.wrapN _ (by omega)]) (by rw [M64.mulN, M64.wrapN _ (by omega)])
  refine h.mono ?_
  rintro e w' ⟨rfl, rfl⟩
  refine ⟨?_, rfl⟩
  congr 2
  have cn := @clo_neg x y
  generalize x.2.1 * x.2.1 * y.2.2 = l at *
  generalize hr : y.2.1 * y.2.1 * x.2.2 = r at *
  split
  · rename_i h
    refine decide_eq_decide.2 ?_
    rw [cn]
    omega
  · rename_i h
    refine decide_eq_decide.2 ?_
    rw [cn]
    omega

/-! The candidates with their products as they stand. No Go here. -/
def norm (x : Fr) : Fr := (x.1, x.2.1, if x.2.1 = 0 then 1 else x.2.2)
def fr0 (F : Nat → Nat) (N : Nat → Int) (u p : Nat) : Fr := (N (F u + p), com F N u (N (F u + p)).toNat, deg F u * deg F (N (F u + p)).toNat)
def cand0 (F : Nat → Nat) (N : Nat → Int) (ac : Int → Bool) (u t : Nat) : List Fr := ((List.range t).map (fr0 F N u)).filter (fun x => ac x.1)
theorem cand0_norm (F : Nat → Nat) (N : Nat → Int) (ac : Int → Bool) (u t : Nat) : cands F N ac u t = (cand0 F N ac u t).map norm := by
  unfold cands cand0
  rw [List.filter_map, List.filter_map, List.map_map]
  rfl
theorem cand0_yes {F : Nat → Nat} {N : Nat → Int} {ac : Int → Bool} {u t : Nat} (h : ac (N (F u + t)) = true) : cand0 F N ac u (t + 1) = cand0 F N ac u t ++ [fr0 F N u t] := by
  unfold cand0
  rw [List.range_succ, List.map_append, List.filter_append]
  congr 1
  simp only [List.map_cons, List.map_nil, List.filter_cons, List.filter_nil, fr0, h, if_true]
theorem cand0_no {F : Nat → Nat} {N : Nat → Int} {ac : Int → Bool} {u t : Nat} (h : ac (N (F u + t)) = false) : cand0 F N ac u (t + 1) = cand0 F N ac u t := by
  unfold cand0
  rw [List.range_succ, List.map_append, List.filter_append]
  simp only [List.map_cons, List.map_nil, List.filter_cons, List.filter_nil, fr0, h]
  simp
theorem cand0_mem {F : Nat → Nat} {N : Nat → Int} {ac : Int → Bool} {u t : Nat} {y : Fr} (h : y ∈ cand0 F N ac u t) : ∃ p, p < t ∧ y = fr0 F N u p := by
  obtain ⟨h1, h2⟩ := List.mem_filter.1 h
  obtain ⟨p, hp, rfl⟩ := List.mem_map.1 h1
  exact ⟨p, List.mem_range.1 hp, rfl⟩
theorem cand0_length (F : Nat → Nat) (N : Nat → Int) (ac : Int → Bool) (u t : Nat) : (cand0 F N ac u t).length ≤ t := by
  unfold cand0
  refine Nat.le_trans (List.length_filter_le _ _) ?_
  simp

theorem clo_norm {x y : Fr} (hx : Pos x) (hy : Pos y) : clo (norm x) (norm y) < 0 ↔ clo x y < 0 := by
  rw [clo_neg, clo_neg]
  unfold norm Pos at *
  obtain ⟨xn, xc, xd⟩ := x
  obtain ⟨yn, yc, yd⟩ := y
  simp only at *
  by_cases h1 : xc = 0
  · subst h1
    by_cases h2 : yc = 0
    · subst h2; simp
    · have p1 : 0 < yc * yc := Nat.mul_pos (Nat.pos_of_ne_zero h2) (Nat.pos_of_ne_zero h2)
      have p2 : 0 < yc * yc * xd := Nat.mul_pos p1 hx
      simp [h2]
      omega
  · by_cases h2 : yc = 0
    · subst h2
      have p1 : 0 < xc * xc := Nat.mul_pos (Nat.pos_of_ne_zero h1) (Nat.pos_of_ne_zero h1)
      have p2 : 0 < xc * xc * yd := Nat.mul_pos p1 hy
      simp [h1]
      omega
    · simp [h1, h2]

theorem nth_get {L : List Fr} {k : Nat} (h : k < L.length) : nth L k = L[k] := by simp [nth, h]
theorem split_nth {L : List Fr} {k : Nat} (h : k < L.length) : L = L.take k ++ (nth L k :: L.drop (k + 1)) := by
  rw [nth_get h, ← List.drop_eq_getElem_cons h, List.take_append_drop]

/-- How many stand ahead of the k-th. -/
theorem ahead_of {S : List Fr} (h : Sorted S) {k : Nat} (hk : k < S.length) : (S.filter (fun z => decide (clo z (nth S k) < 0))).length = k := by
  generalize hx : nth S k = x
  have e := split_nth hk
  rw [hx] at e
  have h' : Sorted S := h
  rw [e, Sorted, List.pairwise_append, List.pairwise_cons] at h'
  obtain ⟨_, ⟨h2, _⟩, h3⟩ := h'
  rw [e, List.filter_append, List.filter_cons_of_neg (by simpa using (Int.not_lt.1 (clo_irrefl x))), List.length_append]
  rw [List.filter_eq_self.2 (fun z hz => by simpa using h3 z hz x List.mem_cons_self)]
  rw [List.filter_eq_nil_iff.2 (fun z hz => by simpa using (Int.not_lt.1 (clo_asymm (h2 z hz))))]
  rw [List.length_take]
  simp
  omega

theorem filter_map_len {L : List Fr} {p q : Fr → Bool} : (∀ z ∈ L, p (norm z) = q z) → ((L.map norm).filter p).length = (L.filter q).length := by
  induction L with
  | nil => intro _; rfl
  | cons a r ih =>
    intro h
    have ha := h a List.mem_cons_self
    have hr := ih (fun z hz => h z (List.mem_cons_of_mem _ hz))
    rw [List.map_cons]
    cases hq : q a
    · rw [List.filter_cons_of_neg (by rw [ha, hq]; simp), List.filter_cons_of_neg (by rw [hq]; simp), hr]
    · rw [List.filter_cons_of_pos (by rw [ha, hq]), List.filter_cons_of_pos hq, List.length_cons, List.length_cons, hr]

/-- THE RANK: the place in the sorted list is the number of those that stand ahead. -/
theorem rank_law {C : List Fr} (hu : Up (C.map norm)) (hp : ∀ z ∈ C, Pos z) {x : Nat} (hx : x < C.length) :
    upto C (fun z => decide (clo z (nth C x) < 0)) C.length < C.length ∧ nth (srt (C.map norm)) (upto C (fun z => decide (clo z (nth C x) < 0)) C.length) = norm (nth C x) := by
  have hm := nth_mem hx
  have hin : norm (nth C x) ∈ srt (C.map norm) := mem_srt.2 (List.mem_map_of_mem hm)
  obtain ⟨k, hk, ek⟩ := List.getElem_of_mem hin
  have hk' : k < C.length := by rw [srt_length, List.length_map] at hk; exact hk
  have e1 : nth (srt (C.map norm)) k = norm (nth C x) := by rw [nth_get hk, ek]
  have a := ahead_of (srt_sorted hu) hk
  rw [e1, filter_srt _ hu, srt_length, filter_map_len (q := fun z => decide (clo z (nth C x) < 0)) (fun z hz => by simp only [clo_norm (hp z hz) (hp _ hm)])] at a
  rw [upto_all, a]
  exact ⟨hk', e1⟩

theorem inRow_succ {U : Nat → Int} {t x : Nat} (h : U t = x) : (fun i : Nat => if i = x then true else inRow U t (i : Int)) = fun i : Nat => inRow U (t + 1) (i : Int) := by
  funext i
  unfold inRow
  rw [List.range_succ, List.any_append]
  by_cases e : i = x
  · simp [e, h]
  · simp [e, h]
    omega
theorem cnt_yes {U : Nat → Int} {lu : Nat} {V : Nat → Int} {b : Nat} (h : inRow U lu (V b) = true) : cnt U lu V (b + 1) = cnt U lu V b + 1 := by simp [cnt, h]
theorem cnt_no {U : Nat → Int} {lu : Nat} {V : Nat → Int} {b : Nat} (h : inRow U lu (V b) = false) : cnt U lu V (b + 1) = cnt U lu V b := by simp [cnt, h]

theorem nth_take {L : List Fr} {k r : Nat} (h : r < k) : nth (L.take k) r = nth L r := by
  unfold nth
  rw [List.getD_eq_getElem?_getD, List.getD_eq_getElem?_getD, List.getElem?_take, if_pos h]
theorem Cells.congr {w : World} {a : Option Addr} {n : Nat} {f g : Nat → Value} (h : Cells w a n f) (e : ∀ i, i < n → f i = g i) : Cells w a n g := by
  rcases h with h | ⟨b, o, h1, h2, h3⟩
  · exact .inl h
  · exact .inr ⟨b, o, h1, h2, fun i hi => (h3 i hi).trans (by rw [e i hi])⟩
theorem Cells.at {w : World} {a : Option Addr} {n : Nat} {f : Nat → Value} (h : Cells w a n f) {i : Nat} (hi : i < n) : ∃ b o, a = some ⟨b, o, none⟩ ∧ b < w.heap.size ∧ ∀ j, j < n → w.cell? ⟨b, o + j, none⟩ = some (f j) := by
  rcases h with h | h
  · omega
  · exact h

/-- An append on v, beside two other slices. -/
theorem mid2 {w wb w1 : World} {base e1 e2 m1 m2 : Nat} {u1 u2 v v' : Value} {xs1 xs2 : List Value} (h1 : wb.ownsRow base e1 1 u1 m1 xs1) (h2 : wb.ownsRow base e2 1 u2 m2 xs2) (a1 : Apart u1 v) (a2 : Apart u2 v)
    (g : wb.grownBy w1 v.ownBlock) (b : v'.ownBlock = v.ownBlock ∨ v'.ownBlock = some wb.heap.size) (hbel : Below base w wb) (hle : base ≤ wb.heap.size) (hv : ∀ k, v.ownBlock = some k → base ≤ k) :
    Hid (w1.ownsRow base e1 1 u1 m1 xs1) ∧ Hid (Apart u1 v') ∧ Hid (w1.ownsRow base e2 1 u2 m2 xs2) ∧ Hid (Apart u2 v') ∧ Hid (Below base w w1) ∧ base ≤ w1.heap.size :=
  ⟨(other h1 a1 g b).1, (other h1 a1 g b).2, (other h2 a2 g b).1, (other h2 a2 g b).2, hbel.grown g hle (fun k hk => hv k hk), Nat.le_trans hle g.size⟩

/-- The three slices that the law gathers. -/
structure Tri3 (base : Nat) (w wr : World) (L : List Fr) (vn vc vd : Value) : Prop where
  n : wr.ownsRow base 3 1 vn L.length (ns L)
  c : wr.ownsRow base 22 1 vc L.length (cs L)
  d : wr.ownsRow base 22 1 vd L.length (ds L)
  nc : Apart vn vc
  nd : Apart vn vd
  cd : Apart vc vd
  bel : Below base w wr
  le : base ≤ wr.heap.size
theorem Tri3.forms {base : Nat} {w wr : World} {L : List Fr} {vn vc vd : Value} (h : Tri3 base w wr L vn vc vd) :
    (∃ a c, vn = .slice a L.length c ∧ Cells wr a L.length (fun i => .int .i64 (nth L i).1)) ∧ (∃ a c, vc = .slice a L.length c ∧ Cells wr a L.length (fun i => .int .u64 (nth L i).2.1)) ∧ (∃ a c, vd = .slice a L.length c ∧ Cells wr a L.length (fun i => .int .u64 (nth L i).2.2)) :=
  ⟨own_slice h.n _ (fun i hi => ns_at L i hi), own_slice h.c _ (fun i hi => cs_at L i hi), own_slice h.d _ (fun i hi => ds_at L i hi)⟩
end Go.Proofs.Qxb6615739a
