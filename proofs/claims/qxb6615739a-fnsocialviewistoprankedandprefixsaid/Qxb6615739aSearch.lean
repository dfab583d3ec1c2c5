import Derived.Test.Qxb6615739aView
namespace Go.Proofs.Qxb6615739a
open Go.RowKit Go.Sort
set_option linter.unusedSimpArgs false
set_option linter.unusedVariables false

/-- Row g of friends: D j in the cells from j * 3 on. -/
def Row (w : World) (g n : Nat) (D : Nat → Fr) : Prop :=
  g < w.heap.size ∧ ∀ j, j < n → w.cell? ⟨g, j * 3, none⟩ = some (.int .i64 (D j).1) ∧ w.cell? ⟨g, j * 3 + 1, none⟩ = some (.int .u64 (D j).2.1) ∧ w.cell? ⟨g, j * 3 + 2, none⟩ = some (.int .u64 (D j).2.2)

theorem Row.gr {w w' : World} {g n : Nat} {D : Nat → Fr} (h : Row w g n D) (r : Gr w w') : Row w' g n D :=
  ⟨Nat.lt_of_lt_of_le h.1 r.size, fun j hj => ⟨(r.cell h.1).trans (h.2 j hj).1, (r.cell h.1).trans (h.2 j hj).2.1, (r.cell h.1).trans (h.2 j hj).2.2⟩⟩

/-- The second answer: is the target itself there? -/
def found (n : Nat) (D : Nat → Fr) (t : Fr) (k : Nat) : Bool := decide (k < n) && (clo (D k) t == 0)

theorem mixed : Try.prog.follows .mixedOrders = true := by kernel_rfl

theorem Gr.grown {w wr : World} (h : Gr w wr) (n : Nat) (os : Array Obj) : Gr w (Sort.grow (wr.drewN n) os) := (h.drewN n).grow os

set_option maxHeartbeats 1000000 in
set_option maxRecDepth 100000 in
theorem bsearch_some (g n cap : Nat) (D : Nat → Fr) (t : Fr) (w : World) (hn : n ≤ 4096) (hR : Row w g n D) (ok : ∀ j, j < n → Fr.ok (D j)) (okt : Fr.ok t)
    (k : Nat) (hk : k ≤ n) (hk1 : ∀ j, j < k → clo (D j) t < 0) (hk2 : ∀ j, k ≤ j → j < n → 0 ≤ clo (D j) t) :
    Calls Try.prog 45 #[.slice (some ⟨g, 0, none⟩) n cap, .agg (Fr.cells t).toArray, .func (.func 46) #[] #[]] w fun e w' => e = .returned (.tuple #[.int .i64 k, .bool (found n D t k)]) ∧ Gr w w' := by
  have HR : Hid _ := hR
  have OK : Hid _ := ok
  have OKT : Hid _ := okt
  have K1 : Hid _ := hk1
  have K2 : Hid _ := hk2
  have mx := mixed
  clear hR ok okt hk1 hk2
  obtain ⟨tn, tc, td⟩ := t
  simp only [Fr.cells]
  generalize hfd : found n D (tn, tc, td) k = fd
  have FD : Hid (found n D (tn, tc, td) k = fd) := hfd
  clear hfd
  go_enter Try.func45, Try.ntmps45
  go_wp2
  go_loopw [9, 10] (fun s9 s10 wr => ∃ lo hi : Nat, s9 = .int .i64 lo ∧ s10 = .int .i64 hi ∧ lo ≤ k ∧ k ≤ hi ∧ hi ≤ n ∧ Hid (Gr (w.alloc (.cells #[.int .i64 tn, .int .u64 tc, .int .u64 td] 66)) wr)) (fun s9 s10 _ => (intOf s10 - intOf s9).toNat)
  case atStart => exact ⟨0, n, rfl, rfl, Nat.zero_le _, hk, Nat.le_refl _, Gr.refl _⟩
  case round =>
    obtain ⟨lo, hi, rfl, rfl, h1, h2, h3, G⟩ := hrel
    have gw : Gr w wr := ((Gr.refl w).alloc _).trans G.out
    by_cases hlt : lo < hi
    · have em : (((lo : Int) + (hi : Int)) / 2).toNat = (lo + hi) / 2 := by omega
      have cs := fun nn os => (Row.gr (Row.gr HR.out gw) ((Gr.refl wr).grown nn os)).2 ((lo + hi) / 2) (by omega)
      have okm := OK.out ((lo + hi) / 2) (by omega)
      have y1 : clo (D ((lo + hi) / 2)) (tn, tc, td) < 0 → (lo + hi) / 2 < k := fun h => Nat.lt_of_not_le fun h' => by have := K2.out _ h' (by omega); omega
      have y2 : ¬ clo (D ((lo + hi) / 2)) (tn, tc, td) < 0 → k ≤ (lo + hi) / 2 := fun h => Nat.le_of_not_lt fun h' => h (K1.out _ h')
      generalize hD : D ((lo + hi) / 2) = y at cs okm y1 y2
      obtain ⟨yn, yc, yd⟩ := y
      have c1 : ∀ nn os, (grow (wr.drewN nn) os).cell? ⟨g, (((lo : Int) + (hi : Int)) / 2).toNat * 3, none⟩ = some (.int .i64 yn) := fun nn os => by rw [em]; exact (cs nn os).1
      have c2 : ∀ nn os, (grow (wr.drewN nn) os).cell? ⟨g, (((lo : Int) + (hi : Int)) / 2).toNat * 3 + 1, none⟩ = some (.int .u64 yc) := fun nn os => by rw [em]; exact (cs nn os).2.1
      have c3 : ∀ nn os, (grow (wr.drewN nn) os).cell? ⟨g, (((lo : Int) + (hi : Int)) / 2).toNat * 3 + 2, none⟩ = some (.int .u64 yd) := fun nn os => by rw [em]; exact (cs nn os).2.2
      clear cs hD em
      have t1 : ∀ nn os, (grow (wr.drewN nn) os).cell? ⟨w.heap.size, 0, none⟩ = some (.int .i64 tn) := fun nn os => by rw [((Gr.refl wr).grown nn os).cell (by have := G.out.size; simp at this; omega), G.out.cell (by simp)]; simp
      have t2 : ∀ nn os, (grow (wr.drewN nn) os).cell? ⟨w.heap.size, 1, none⟩ = some (.int .u64 tc) := fun nn os => by rw [((Gr.refl wr).grown nn os).cell (by have := G.out.size; simp at this; omega), G.out.cell (by simp)]; simp
      have t3 : ∀ nn os, (grow (wr.drewN nn) os).cell? ⟨w.heap.size, 2, none⟩ = some (.int .u64 td) := fun nn os => by rw [((Gr.refl wr).grown nn os).cell (by have := G.out.size; simp at this; omega), G.out.cell (by simp)]; simp
      have OKM : Hid _ := okm
      have Y1 : Hid _ := y1
      have Y2 : Hid _ := y2
      clear okm gw y1 y2
      have i1 : ((lo : Int) + (hi : Int)) / 2 < (n : Int) := by omega
      have i2 : (0 : Int) ≤ ((lo : Int) + (hi : Int)) / 2 := by omega
      by_cases hc : clo (yn, yc, yd) (tn, tc, td) < 0
      · go_wp2
        go_quiet_grown ((go_at_call 46; exact Calls.grown_of (Gr.calls (closer_any (yn, yc, yd) (tn, tc, td) OKM.out OKT.out _))))
        go_wp2
        have := Y1.out hc
        go_roundw
        case rel => exact ⟨(lo + hi) / 2 + 1, hi, by go_num, rfl, by omega, h2, h3, G.out.grown nq osq⟩
        case measure => simp [intOf]; omega
      · go_wp2
        go_quiet_grown ((go_at_call 46; exact Calls.grown_of (Gr.calls (closer_any (yn, yc, yd) (tn, tc, td) OKM.out OKT.out _))))
        go_wp2
        have := Y2.out hc
        go_roundw
        case rel => exact ⟨lo, (lo + hi) / 2, rfl, by go_num, h1, by omega, by omega, G.out.grown nq osq⟩
        case measure => simp [intOf]; omega
    · obtain rfl : lo = k := by omega
      obtain rfl : hi = lo := by omega
      by_cases hkn : hi < n
      · have cs := fun nn os => (Row.gr (Row.gr HR.out gw) ((Gr.refl wr).grown nn os)).2 hi hkn
        have okm := OK.out hi hkn
        have hfd := FD.out
        unfold found at hfd
        rw [decide_eq_true hkn, Bool.true_and] at hfd
        generalize hD : D hi = y at cs okm hfd
        obtain ⟨yn, yc, yd⟩ := y
        have FE : Hid _ := hfd
        clear hfd
        have c1 : ∀ nn os, (grow (wr.drewN nn) os).cell? ⟨g, hi * 3, none⟩ = some (.int .i64 yn) := fun nn os => (cs nn os).1
        have c2 : ∀ nn os, (grow (wr.drewN nn) os).cell? ⟨g, hi * 3 + 1, none⟩ = some (.int .u64 yc) := fun nn os => (cs nn os).2.1
        have c3 : ∀ nn os, (grow (wr.drewN nn) os).cell? ⟨g, hi * 3 + 2, none⟩ = some (.int .u64 yd) := fun nn os => (cs nn os).2.2
        clear cs hD
        have t1 : ∀ nn os, (grow (wr.drewN nn) os).cell? ⟨w.heap.size, 0, none⟩ = some (.int .i64 tn) := fun nn os => by rw [((Gr.refl wr).grown nn os).cell (by have := G.out.size; simp at this; omega), G.out.cell (by simp)]; simp
        have t2 : ∀ nn os, (grow (wr.drewN nn) os).cell? ⟨w.heap.size, 1, none⟩ = some (.int .u64 tc) := fun nn os => by rw [((Gr.refl wr).grown nn os).cell (by have := G.out.size; simp at this; omega), G.out.cell (by simp)]; simp
        have t3 : ∀ nn os, (grow (wr.drewN nn) os).cell? ⟨w.heap.size, 2, none⟩ = some (.int .u64 td) := fun nn os => by rw [((Gr.refl wr).grown nn os).cell (by have := G.out.size; simp at this; omega), G.out.cell (by simp)]; simp
        have OKM : Hid _ := okm
        have GW : Hid _ := gw
        clear okm gw
        have i1 : (hi : Int) < (n : Int) := by omega
        have i2 : (0 : Int) ≤ (hi : Int) := by omega
        have hd : decide ((hi : Int) < (hi : Int)) = false := decide_eq_false (by omega)
        have hd2 : decide ((hi : Int) < (n : Int)) = true := decide_eq_true (by omega)
        go_wp2
        go_quiet_grown ((go_at_call 46; exact Calls.grown_of (Gr.calls (closer_any (yn, yc, yd) (tn, tc, td) OKM.out OKT.out _))))
        go_wp2
        go_ret2
        exact ⟨by rw [← FE.out]; rfl, GW.out.grown nq osq⟩
      · have hd : decide ((hi : Int) < (hi : Int)) = false := decide_eq_false (by omega)
        have hd2 : decide ((hi : Int) < (n : Int)) = false := decide_eq_false (by omega)
        have GW : Hid _ := gw
        clear gw
        go_wp2
        go_quiet (fail)
        go_wp2
        go_ret2
        have : fd = false := by
          rw [← FD.out]
          unfold found
          rw [decide_eq_false hkn, Bool.false_and]
        exact ⟨by rw [this]; rfl, GW.out.drewN nq⟩

set_option maxHeartbeats 1000000 in
theorem bsearch_nil (D : Nat → Fr) (t : Fr) (w : World) :
    Calls Try.prog 45 #[.slice none 0 0, .agg (Fr.cells t).toArray, .func (.func 46) #[] #[]] w fun e w' => e = .returned (.tuple #[.int .i64 (0 : Nat), .bool (found 0 D t 0)]) ∧ Gr w w' := by
  have hf : found 0 D t 0 = false := by simp [found]
  rw [hf]
  clear hf
  obtain ⟨tn, tc, td⟩ := t
  simp only [Fr.cells]
  go_enter Try.func45, Try.ntmps45
  go_wp2
  refine wp_loop_rounds 1 ?_
  rw [rounds_succ]
  have hd2 : decide ((0 : Int) < 0) = false := by decide
  go_wp2
  go_quiet (fail)
  go_wp2
  go_ret2
  exact ⟨rfl, ((Gr.refl _).alloc _).drewN nq⟩
end Go.Proofs.Qxb6615739a
