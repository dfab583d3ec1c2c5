import Derived.Test.Qxb6615739aGraph
namespace Go.Proofs.Qxb6615739a
open Go.RowKit
set_option linter.unusedSimpArgs false
set_option linter.unusedVariables false

/-- What graphFits has looked at when it says true (as far as the laws ask). -/
def Fits (n lF lN : Nat) (F N : Nat → Int) : Prop :=
  lF = n + 1 ∧ F 0 = 0 ∧ F n = lN ∧ (∀ u, u < n → F u ≤ F (u + 1)) ∧
  (∀ u : Nat, u < n → ∀ p : Nat, F u ≤ p → (p : Int) < F (u + 1) → 0 ≤ N p ∧ N p < n ∧ N p ≠ u ∧ (F u < p → N (p - 1) < N p)) ∧
  (∀ u : Nat, u < n → ∀ p : Nat, F u ≤ p → (p : Int) < F (u + 1) → F (N p).toNat < F ((N p).toNat + 1))
def FitsPost (n lF lN : Nat) (F N : Nat → Int) (w : World) (e : Ending) (w' : World) : Prop :=
  ∃ r, e = .returned (.bool r) ∧ (∃ m, w' = w.drewN m) ∧ (r = true → Fits n lF lN F N)

set_option maxHeartbeats 1000000 in
theorem graphFits_short (aI : Option Addr) (n cI : Nat) (I : Nat → Int) (aF : Option Addr) (lF cF : Nat) (F : Nat → Int) (aN : Option Addr) (lN cN : Nat) (N : Nat → Int) (w : World)
    (hI : IsInts w .u64 aI n cI I) (hn : n ≤ 4096) (hlF : lF ≤ 4097) (hne : ((lF : Int) != (n : Int) + 1) = true) :
    Calls Try.prog 15 #[.slice aI n cI, .slice aF lF cF, .slice aN lN cN] w (FitsPost n lF lN F N w) := by
  go_enter Try.func15, Try.ntmps15
  go_wp2
  go_loopw [8] (fun s wr => ∃ j m : Nat, s = .int .i64 ((j : Int) + 1) ∧ j ≤ n ∧ wr = w.drewN m) (fun s _ => (n + 1 - intOf s).toNat)
  case atStart => exact ⟨0, 0, rfl, Nat.zero_le _, rfl⟩
  case round =>
    obtain ⟨j, m, rfl, hj, rfl⟩ := hrel
    by_cases hlt : j + 1 < n
    · rcases hI.2.2 with h0 | ⟨b, o, rfl, hb, hc⟩
      · omega
      have c0 := hc j (by omega)
      have c1 := hc (j + 1) (by omega)
      have i0 : (0 : Int) ≤ (j : Int) := by omega
      have i1 : (j : Int) + 1 < (n : Int) := by omega
      have i2 : (j : Int) < (n : Int) := by omega
      clear hc hI
      go_wp2
      go_quiet (fail)
      go_wp2
      · go_ret
        exact ⟨false, rfl, ⟨m + nq, by simp⟩, fun h => by cases h⟩
      · go_roundw
        case rel => exact ⟨j + 1, m + nq, by go_num, by omega, by simp⟩
        case measure => simp [intOf]; omega
    · go_wp2
      go_ret
      exact ⟨false, rfl, ⟨_, rfl⟩, fun h => by cases h⟩

/-- The last loop's callee, at slices. -/
theorem hasEdge_any (bF oF lF cF : Nat) (F : Nat → Int) (aN : Option Addr) (lN cN : Nat) (N : Nat → Int) (u f0 f1 : Nat) (U x : Int) (w : World)
    (hF : ∀ i, i < lF → w.cell? ⟨bF, oF + i, none⟩ = some (.int .i64 (F i))) (hlF : lF ≤ 9223372036854775807) (hN : IsInts w .i64 aN lN cN N) (hlN : lN ≤ 4611686018427387904)
    (eU : U = u) (hu : u + 1 < lF) (e0 : F u = f0) (e1 : F (u + 1) = f1) (h01 : f0 ≤ f1) (h1N : f1 ≤ lN) :
    Calls Try.prog 22 #[.slice (some ⟨bF, oF, none⟩) lF cF, .slice aN lN cN, .int .i64 U, .int .i64 x] w (EdgePost N f0 f1 x w) := by
  subst eU
  have c0 := hF u (by omega)
  have c1 := hF (u + 1) (by omega)
  rw [e0] at c0
  rw [e1] at c1
  by_cases h : f0 < f1
  · rcases hN.2.2 with h0 | ⟨b, o, rfl, hb, hc⟩
    · omega
    · exact hasEdge_some bF oF lF cF b o lN cN N u f0 f1 x w hu hlF c0 c1 h h1N hlN hc
  · obtain rfl : f0 = f1 := by omega
    exact hasEdge_none bF oF lF cF aN lN cN N u f0 x w hu hlF c0 c1

/-- What the third loop has looked at: node u's neighbours. -/
def RowOk (n : Nat) (F N : Nat → Int) (u : Nat) : Prop :=
  ∀ p : Nat, F u ≤ p → (p : Int) < F (u + 1) → 0 ≤ N p ∧ N p < n ∧ N p ≠ u ∧ (F u < p → N (p - 1) < N p)

theorem mono_from {n : Nat} {F : Nat → Int} (h : ∀ u, u < n → F u ≤ F (u + 1)) : ∀ d u, u + d ≤ n → F u ≤ F (u + d)
  | 0, u, _ => Int.le_refl _
  | d + 1, u, hu => Int.le_trans (mono_from h d u (by omega)) (h (u + d) (by omega))

theorem bounds {n lN : Nat} {F : Nat → Int} (h0 : F 0 = 0) (hn : F n = lN) (h : ∀ u, u < n → F u ≤ F (u + 1)) (u : Nat) (hu : u ≤ n) : 0 ≤ F u ∧ F u ≤ lN := by
  have h1 := mono_from h u 0 (by omega)
  have h2 := mono_from h (n - u) u (by omega)
  rw [Nat.zero_add, h0] at h1
  rw [show u + (n - u) = n by omega, hn] at h2
  exact ⟨h1, h2⟩

set_option maxHeartbeats 4000000 in
set_option maxRecDepth 100000 in
theorem graphFits_full (aI : Option Addr) (n cI : Nat) (I : Nat → Int) (bF oF cF : Nat) (F : Nat → Int) (aN : Option Addr) (lN cN : Nat) (N : Nat → Int) (w : World)
    (hI : IsInts w .u64 aI n cI I) (hn : n ≤ 4096) (hF : ∀ i, i < n + 1 → w.cell? ⟨bF, oF + i, none⟩ = some (.int .i64 (F i))) (hbF : bF < w.heap.size) (hN : IsInts w .i64 aN lN cN N) (hlN : lN ≤ 4096) :
    Calls Try.prog 15 #[.slice aI n cI, .slice (some ⟨bF, oF, none⟩) (n + 1) cF, .slice aN lN cN] w (FitsPost n (n + 1) lN F N w) := by
  have HF : Hid (∀ i, i < n + 1 → w.cell? ⟨bF, oF + i, none⟩ = some (.int .i64 (F i))) := hF
  have HI : Hid (IsInts w .u64 aI n cI I) := hI
  have HN : Hid (IsInts w .i64 aN lN cN N) := hN
  have f0 := hF 0 (by omega)
  have fn := hF n (by omega)
  simp only [Nat.add_zero] at f0
  clear hF hI hN
  go_enter Try.func15, Try.ntmps15
  go_wp2
  go_loopw [8] (fun s wr => ∃ j m : Nat, s = .int .i64 ((j : Int) + 1) ∧ j ≤ n ∧ wr = w.drewN m) (fun s _ => (n + 1 - intOf s).toNat)
  case atStart => exact ⟨0, 0, rfl, Nat.zero_le _, rfl⟩
  case round =>
    obtain ⟨j, m, rfl, hj, rfl⟩ := hrel
    by_cases hlt : j + 1 < n
    · rcases HI.out.2.2 with h0 | ⟨b, o, rfl, hb, hc⟩
      · omega
      have c0 := hc j (by omega)
      have c1 := hc (j + 1) (by omega)
      have i0 : (0 : Int) ≤ (j : Int) := by omega
      have i1 : (j : Int) + 1 < (n : Int) := by omega
      have i2 : (j : Int) < (n : Int) := by omega
      clear hc HI f0 fn
      go_wp2
      go_quiet (fail)
      go_wp2
      · go_ret
        exact ⟨false, rfl, ⟨m + nq, by simp⟩, fun h => by cases h⟩
      · go_roundw
        case rel => exact ⟨j + 1, m + nq, by go_num, by omega, by simp⟩
        case measure => simp [intOf]; omega
    · have hd : decide ((j : Int) + 1 < (n : Int)) = false := decide_eq_false (by omega)
      have hne : ((n : Int) + 1 != (n : Int) + 1) = false := by simp
      clear HI
      by_cases z0 : F 0 = 0
      case neg =>
        have zb : (F 0 != 0) = true := by simp [z0]
        clear z0
        go_wp2
        go_ret
        exact ⟨false, rfl, ⟨m, rfl⟩, fun h => by cases h⟩
      have zb : (F 0 != 0) = false := by simp [z0]
      have Z0 : Hid (F 0 = 0) := z0
      clear z0
      by_cases zn : F n = lN
      case neg =>
        have yb : (F n != (lN : Int)) = true := by simp [zn]
        clear zn
        go_wp2
        go_ret
        exact ⟨false, rfl, ⟨m, rfl⟩, fun h => by cases h⟩
      have yb : (F n != (lN : Int)) = false := by simp [zn]
      have ZN : Hid (F n = lN) := zn
      clear zn
      go_wp2
      clear hd hne zb yb f0 fn
      go_loopw [9] (fun s wr => ∃ u m : Nat, s = .int .i64 u ∧ u ≤ n ∧ wr = w.drewN m ∧ Hid (∀ v, v < u → F v ≤ F (v + 1))) (fun s _ => (n - intOf s).toNat)
      case atStart => exact ⟨0, m, rfl, Nat.zero_le _, rfl, fun v hv => absurd hv (Nat.not_lt_zero _)⟩
      case round =>
        clear m
        obtain ⟨u, m, rfl, hu, rfl, HU⟩ := hrel
        by_cases hlt : u < n
        · have c0 := HF.out u (by omega)
          have c1 := HF.out (u + 1) (by omega)
          have i0 : (0 : Int) ≤ (u : Int) := by omega
          have i1 : (u : Int) + 1 < (n : Int) + 1 := by omega
          have i2 : (u : Int) < (n : Int) + 1 := by omega
          go_wp2
          go_quiet (fail)
          go_wp2
          · go_ret
            exact ⟨false, rfl, ⟨m + nq, by simp⟩, fun h => by cases h⟩
          · have hle : F u ≤ F (u + 1) := by omega
            go_roundw
            case rel => exact ⟨u + 1, m + nq, by go_num, by omega, by simp, fun v hv => if e : v = u then by rw [e]; exact hle else HU.out v (by omega)⟩
            case measure => simp [intOf]; omega
        · obtain rfl : u = n := by omega
          have hd : decide ((u : Int) < (u : Int)) = false := decide_eq_false (by omega)
          go_wp2
          clear hd
          go_loopw [10] (fun s wr => ∃ v m : Nat, s = .int .i64 v ∧ v ≤ u ∧ wr = w.drewN m ∧ Hid (∀ x, x < v → RowOk u F N x)) (fun s _ => (u - intOf s).toNat)
          case atStart => exact ⟨0, m, rfl, Nat.zero_le _, rfl, fun v hv => absurd hv (Nat.not_lt_zero _)⟩
          case round =>
            clear m
            obtain ⟨v, m, rfl, hv, rfl, HV⟩ := hrel
            by_cases hlt : v < u
            · have c0 := HF.out v (by omega)
              have c1 := HF.out (v + 1) (by omega)
              have b0 := bounds Z0.out ZN.out HU.out v (by omega)
              have b1 := bounds Z0.out ZN.out HU.out (v + 1) (by omega)
              have b2 := HU.out v (by omega)
              go_wp2
              go_loopw [11] (fun s wr => ∃ p m : Nat, s = .int .i64 p ∧ F v ≤ p ∧ p ≤ F (v + 1) ∧ wr = w.drewN m ∧ Hid (∀ q : Nat, F v ≤ q → q < p → 0 ≤ N q ∧ N q < u ∧ N q ≠ v ∧ (F v < q → N (q - 1) < N q))) (fun s _ => (F (v + 1) - intOf s).toNat)
              case atStart => exact ⟨(F v).toNat, m, by rw [Int.toNat_of_nonneg b0.1], by omega, by omega, rfl, fun q h1 h2 => by omega⟩
              case round =>
                clear m
                obtain ⟨p, m, rfl, hp0, hp1, rfl, HP⟩ := hrel
                by_cases hlp : (p : Int) < F (v + 1)
                · rcases HN.out.2.2 with h0 | ⟨b, o, rfl, hb, hc⟩
                  · omega
                  have c2 := hc p (by omega)
                  have i1 : (p : Int) < (lN : Int) := by omega
                  have c3 := fun h : F v < p => hc (p - 1) (by omega)
                  clear hc HN
                  by_cases q1 : N p < 0
                  · go_wp2
                    go_ret
                    exact ⟨false, rfl, ⟨m, rfl⟩, fun h => by cases h⟩
                  by_cases q2 : (u : Int) ≤ N p
                  · go_wp2
                    go_ret
                    exact ⟨false, rfl, ⟨m, rfl⟩, fun h => by cases h⟩
                  by_cases q3 : N p = v
                  · have q3b : (N p == (v : Int)) = true := by simp [q3]
                    clear q3
                    go_wp2
                    go_ret
                    exact ⟨false, rfl, ⟨m, rfl⟩, fun h => by cases h⟩
                  have q3b : (N p == (v : Int)) = false := by simp [q3]
                  by_cases q4 : F v < p
                  · have c4 := c3 q4
                    have i4 : (1 : Int) ≤ (p : Int) := by omega
                    clear c3
                    by_cases q5 : N p ≤ N (p - 1)
                    · go_wp2
                      go_ret
                      exact ⟨false, rfl, ⟨m, rfl⟩, fun h => by cases h⟩
                    · have q5' : N (p - 1) < N p := by omega
                      go_wp2
                      go_roundw
                      case rel =>
                        refine ⟨p + 1, m, by go_num, by omega, by omega, rfl, fun q h1 h2 => ?_⟩
                        by_cases e : q = p
                        · subst e; exact ⟨by omega, by omega, q3, fun _ => q5'⟩
                        · exact HP.out q h1 (by omega)
                      case measure => simp [intOf]; omega
                  · clear c3
                    go_wp2
                    go_roundw
                    case rel =>
                      refine ⟨p + 1, m, by go_num, by omega, by omega, rfl, fun q h1 h2 => ?_⟩
                      by_cases e : q = p
                      · subst e; exact ⟨by omega, by omega, q3, fun h => absurd h q4⟩
                      · exact HP.out q h1 (by omega)
                    case measure => simp [intOf]; omega
                · go_wp2
                  go_roundw
                  case rel =>
                    refine ⟨v + 1, m, by go_num, by omega, rfl, fun x hx => ?_⟩
                    by_cases e : x = v
                    · subst e
                      intro q h1 h2
                      exact HP.out q h1 (by omega)
                    · exact HV.out x (by omega)
                  case measure => simp [intOf]; omega
            · obtain rfl : v = u := by omega
              have hd : decide ((v : Int) < (v : Int)) = false := decide_eq_false (by omega)
              go_wp2
              clear hd
              go_loopw [13] (fun s wr => ∃ t m : Nat, s = .int .i64 t ∧ t ≤ v ∧ wr = w.drewN m ∧ Hid (∀ u : Nat, u < t → ∀ p : Nat, F u ≤ p → (p : Int) < F (u + 1) → F (N p).toNat < F ((N p).toNat + 1))) (fun s _ => (v - intOf s).toNat)
              case atStart => exact ⟨0, m, rfl, Nat.zero_le _, rfl, fun u hu => absurd hu (Nat.not_lt_zero _)⟩
              case round =>
                clear m
                obtain ⟨t, m, rfl, ht, rfl, HT⟩ := hrel
                by_cases hlt : t < v
                · have c0 := HF.out t (by omega)
                  have c1 := HF.out (t + 1) (by omega)
                  have b0 := bounds Z0.out ZN.out HU.out t (by omega)
                  have b1 := bounds Z0.out ZN.out HU.out (t + 1) (by omega)
                  have b2 := HU.out t (by omega)
                  go_wp2
                  go_loopw [14] (fun s wr => ∃ p m : Nat, s = .int .i64 p ∧ F t ≤ p ∧ p ≤ F (t + 1) ∧ wr = w.drewN m ∧ Hid (∀ q : Nat, F t ≤ q → (q : Int) < (p : Int) → F (N q).toNat < F ((N q).toNat + 1))) (fun s _ => (F (t + 1) - intOf s).toNat)
                  case atStart => exact ⟨(F t).toNat, m, by rw [Int.toNat_of_nonneg b0.1], by omega, by omega, rfl, fun q h1 h2 => by omega⟩
                  case round =>
                    clear m
                    obtain ⟨p, m, rfl, hp0, hp1, rfl, HQ⟩ := hrel
                    by_cases hlp : (p : Int) < F (t + 1)
                    · rcases HN.out.2.2 with h0 | ⟨b, o, rfl, hb, hc⟩
                      · omega
                      have c2 := hc p (by omega)
                      have i1 : (p : Int) < (lN : Int) := by omega
                      have ro := HV.out t (by omega) p hp0 hlp
                      have r0 := ro.1
                      have r1 := ro.2.1
                      have eU : Hid (N p = ((N p).toNat : Int)) := (Int.toNat_of_nonneg r0).symm
                      have d0 := bounds Z0.out ZN.out HU.out (N p).toNat (by omega)
                      have d1 := bounds Z0.out ZN.out HU.out ((N p).toNat + 1) (by omega)
                      have d2 := HU.out (N p).toNat (by omega)
                      have hcall := hasEdge_any bF oF (v + 1) cF F (some ⟨b, o, none⟩) lN cN N (N p).toNat (F (N p).toNat).toNat (F ((N p).toNat + 1)).toNat (N p) (t : Int) (w.drewN m)
                        (fun i hi => HF.out i hi) (by omega) (HN.out.gr ((Gr.refl _).drewN m)) (by omega) eU.out (by omega) (Int.toNat_of_nonneg d0.1).symm (Int.toNat_of_nonneg d1.1).symm (by omega) (by omega)
                      have HC : Hid _ := hcall
                      have SY : Hid ((F (N p).toNat).toNat < (F ((N p).toNat + 1)).toNat → F (N p).toNat < F ((N p).toNat + 1)) := fun h => by omega
                      clear hcall hc ro eU d0 d1 d2
                      go_wp2_with fail
                      refine Calls.mono HC.out ?_
                      clear HC HN
                      rintro e w' ⟨r, rfl, rfl, _, hsy⟩
                      have HS : Hid _ := hsy
                      clear hsy
                      cases r
                      · go_wp2
                        go_ret
                        exact ⟨false, rfl, ⟨m, rfl⟩, fun h => by cases h⟩
                      · go_wp2
                        go_roundw
                        case rel =>
                          refine ⟨p + 1, m, by go_num, by omega, by omega, rfl, fun q h1 h2 => ?_⟩
                          by_cases e : q = p
                          · subst e; exact SY.out (HS.out trivial)
                          · exact HQ.out q h1 (by omega)
                        case measure => simp [intOf]; omega
                    · go_wp2
                      go_roundw
                      case rel =>
                        refine ⟨t + 1, m, by go_num, by omega, rfl, fun x hx => ?_⟩
                        by_cases e : x = t
                        · subst e; exact fun q h1 h2 => HQ.out q h1 (by omega)
                        · exact HT.out x (by omega)
                      case measure => simp [intOf]; omega
                · go_wp2
                  go_ret
                  obtain rfl : t = v := by omega
                  exact ⟨true, rfl, ⟨m, rfl⟩, fun _ => ⟨rfl, Z0.out, ZN.out, HU.out, HV.out, HT.out⟩⟩

theorem graphFits_any (aI : Option Addr) (n cI : Nat) (I : Nat → Int) (aF : Option Addr) (lF cF : Nat) (F : Nat → Int) (aN : Option Addr) (lN cN : Nat) (N : Nat → Int) (w : World)
    (hI : IsInts w .u64 aI n cI I) (hn : n ≤ 4096) (hF : IsInts w .i64 aF lF cF F) (hlF : lF ≤ 4097) (hN : IsInts w .i64 aN lN cN N) (hlN : lN ≤ 4096) :
    Calls Try.prog 15 #[.slice aI n cI, .slice aF lF cF, .slice aN lN cN] w (FitsPost n lF lN F N w) := by
  by_cases e : lF = n + 1
  · subst e
    rcases hF.2.2 with h0 | ⟨b, o, rfl, hb, hc⟩
    · omega
    · exact graphFits_full aI n cI I b o cF F aN lN cN N w hI hn hc hb hN hlN
  · exact graphFits_short aI n cI I aF lF cF F aN lN cN N w hI hn hlF (by simp; omega)
end Go.Proofs.Qxb6615739a
