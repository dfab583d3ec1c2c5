import Derived.Test.Qxb6615739aPrep
namespace Go.Proofs.Qxb6615739a
open Go.RowKit
set_option linter.unusedSimpArgs false
set_option linter.unusedVariables false

theorem fits_adj {n lF lN : Nat} {F N : Nat → Int} (h : Fits n lF lN F N) : Adj n (fun v => (F v).toNat) N := by
  intro u hu
  obtain ⟨_, h0, hn, hup, hrow, _⟩ := h
  have hb := fun v hv => bounds h0 hn hup v hv
  have e1 := (hb u (by omega)).1
  have e2 := (hb (u + 1) (by omega)).1
  have hr := hrow u hu
  refine ⟨?_, fun i hi => ?_⟩
  · have step : ∀ i, i + 1 < (F (u + 1)).toNat - (F u).toNat → N ((F u).toNat + i) < N ((F u).toNat + (i + 1)) := fun i hi => by
      have := (hr ((F u).toNat + (i + 1)) (by omega) (by omega)).2.2.2 (by omega)
      rwa [show (F u).toNat + (i + 1) - 1 = (F u).toNat + i by omega] at this
    have many : ∀ d i, i + d + 1 < (F (u + 1)).toNat - (F u).toNat → N ((F u).toNat + i) < N ((F u).toNat + (i + d + 1)) := by
      intro d
      induction d with
      | zero => intro i hi; exact step i hi
      | succ d ih => intro i hi; exact Int.lt_trans (ih i (by omega)) (step (i + d + 1) (by omega))
    intro i j hij hj
    simp only at hj ⊢
    have := many (j - i - 1) i (by omega)
    rwa [show i + (j - i - 1) + 1 = j by omega] at this
  · unfold deg at hi
    simp only at hi ⊢
    have := hr ((F u).toNat + i) (by omega) (by omega)
    exact ⟨this.1, this.2.1⟩

def LawPost (w : World) (e : Ending) (w' : World) : Prop := e = .returned (.bool true) ∧ Below w.heap.size w w'

set_option maxHeartbeats 4000000 in
set_option maxRecDepth 100000 in
theorem filter_walk (aI : Option Addr) (n cI : Nat) (I : Nat → Int) (aF : Option Addr) (lF cF : Nat) (F0 : Nat → Int) (aN : Option Addr) (lN cN : Nat) (N : Nat → Int) (ui size : Int) (aA : Option Addr) (lA cA : Nat) (A : Nat → Bool) (w : World)
    (hI : IsInts w .u64 aI n cI I) (hF : IsInts w .i64 aF lF cF F0) (hN : IsInts w .i64 aN lN cN N) (hA : lA ≤ cA ∧ cA ≤ 9223372036854775807 ∧ Cells w aA lA (fun i => .bool (A i))) (hNn : aN = none → lN = 0 ∧ cN = 0) (hAn : aA = none → lA = 0)
    (hs : size ≤ 9223372036854775807) :
    Calls Try.prog 6 #[.slice aI n cI, .slice aF lF cF, .slice aN lN cN, .int .i64 ui, .int .i64 size, .slice aA lA cA] w (LawPost w) := by
  have b0 : n ≤ 9223372036854775807 := Nat.le_trans hI.1 hI.2.1
  have b1 : lF ≤ 9223372036854775807 := Nat.le_trans hF.1 hF.2.1
  have b2 : lN ≤ 9223372036854775807 := Nat.le_trans hN.1 hN.2.1
  have b5 : lA ≤ 9223372036854775807 := Nat.le_trans hA.1 hA.2.1
  have HI : Hid _ := hI
  have HF : Hid _ := hF
  have HN : Hid _ := hN
  have HA : Hid _ := hA
  have HNn : Hid _ := hNn
  have HAn : Hid _ := hAn
  clear hI hF hN hA hNn hAn
  have mx := mixed
  go_enter Try.func6, Try.ntmps6
  go_wp2_with fail
  refine (zzBytes21_any aI n cI aF lF cF aN lN cN ui size aA lA cA w b0 b1 b2 b5).mono ?_
  rintro e w' ⟨r, rfl, rfl⟩
  cases r
  · go_wp2
    go_ret
    exact ⟨rfl, Below.refl _ _⟩
  by_cases k0 : n ≤ 4096
  case neg =>
    go_wp2
    go_ret
    exact ⟨rfl, Below.refl _ _⟩
  by_cases k1 : lF ≤ 4097
  case neg =>
    go_wp2
    go_ret
    exact ⟨rfl, Below.refl _ _⟩
  by_cases k2 : lN ≤ 4096
  case neg =>
    go_wp2
    go_ret
    exact ⟨rfl, Below.refl _ _⟩
  by_cases k5 : lA ≤ 4096
  case neg =>
    go_wp2
    go_ret
    exact ⟨rfl, Below.refl _ _⟩
  go_wp2_with fail
  refine (graphFits_any aI n cI I aF lF cF F0 aN lN cN N _ HI.out k0 HF.out k1 HN.out k2).mono ?_
  rintro e w1 ⟨r, rfl, ⟨m1, rfl⟩, hfit⟩
  cases r
  · go_wp2
    go_ret
    exact ⟨rfl, ((Gr.refl _).drewN m1).bel⟩
  have FIT : Hid (Fits n lF lN F0 N) := hfit rfl
  clear hfit
  have B1 : Hid (Below w.heap.size w (w.drewN m1)) := ((Gr.refl w).drewN m1).bel
  generalize w.drewN m1 = w1 at *
  have CI : Hid (Cells w1 aI n (fun i => .int .u64 (I i))) := Cells.bel HI.out.2.2 B1.out
  have CF : Hid (Cells w1 aF lF (fun i => .int .i64 (F0 i))) := Cells.bel HF.out.2.2 B1.out
  have CN : Hid (Cells w1 aN lN (fun i => .int .i64 (N i))) := Cells.bel HN.out.2.2 B1.out
  have CA : Hid (Cells w1 aA lA (fun i => .bool (A i))) := Cells.bel HA.out.2.2 B1.out
  have HcN := HN.out.1
  have HcA := HA.out.1
  have HcA2 := HA.out.2.1
  clear HI HF HN HA
  go_upto_if 64 with fail
  have mkU : ∀ W : World, (Instr.makeSlice 35 (.int .i64 (n : Int)) (.int .i64 (n : Int))).run Try.prog W = .ok (.slice (some ⟨W.heap.size, 0, none⟩) n n) (W.alloc (.cells (madeCells #[.int .u64 0] n) 22)) := run_make_row' (P := Try.prog) 35 22 (.int .u64 0) 8 Try.underlying35 info22 rfl .i64 .i64 n (by omega) (by omega)
  go_cut [0, 13] from 64 to 71 (fun s0 _ wc => ∃ (a : Option Addr) (c : Nat), s0 = .slice a n c ∧ Hid (Below w1.heap.size w1 wc))
  case first =>
    cases ha : aI.isSome
    · go_wp2
      go_meet
      case rel => exact ⟨aI, cI, rfl, Below.refl _ _⟩
    · obtain ⟨W2, hcp, G2, _⟩ := copy_run' (P := Try.prog) w1 35 22 3 (.int .u64 0) aI n cI (fun i => .int .u64 (I i)) Try.underlying35 (by kernel_rfl) CI.out (fun _ => rfl) ha
      have G2 : Hid _ := G2
      go_wp2
      go_meet
      case rel => exact ⟨_, _, rfl, G2.out.bel⟩
  case rest =>
    obtain ⟨a0', c0', rfl, G1⟩ := hcut
    clear mkU CI
    obtain rfl : lF = n + 1 := FIT.out.1
    obtain ⟨bF, oF, rfl⟩ : ∃ b o, aF = some ⟨b, o, none⟩ := by
      rcases CF.out with h | ⟨b, o, h, _⟩
      · omega
      · exact ⟨b, o, h⟩
    have CF : Hid (Cells wc (some ⟨bF, oF, none⟩) (n + 1) (fun i => .int .i64 (F0 i))) := Cells.bel CF.out G1.out
    have CN : Hid (Cells wc aN lN (fun i => .int .i64 (N i))) := Cells.bel CN.out G1.out
    have CA : Hid (Cells wc aA lA (fun i => .bool (A i))) := Cells.bel CA.out G1.out
    have B2 : Hid (Below w.heap.size w wc) := B1.out.trans (G1.out.mono B1.out.size)
    clear B1 G1
    have mkF : ∀ W : World, (Instr.makeSlice 23 (.int .i64 ((n : Int) + 1)) (.int .i64 ((n : Int) + 1))).run Try.prog W = .ok (.slice (some ⟨W.heap.size, 0, none⟩) (n + 1) (n + 1)) (W.alloc (.cells (madeCells #[.int .i64 0] (n + 1)) 3)) := fun W => by
      have := run_make_row' (P := Try.prog) 23 3 (.int .i64 0) 8 Try.underlying23 info3 rfl .i64 .i64 (n + 1) (by omega) (by omega) W
      rwa [show ((n + 1 : Nat) : Int) = (n : Int) + 1 from rfl] at this
    obtain ⟨W2, hcp, G2, hW2, c2⟩ := copy_run (P := Try.prog) wc 23 3 3 (.int .i64 0) ⟨bF, oF, none⟩ (n + 1) cF (fun i => .int .i64 (F0 i)) Try.underlying23 (by kernel_rfl) CF.out (fun _ => rfl)
    have B3 : Hid (Below w.heap.size w W2) := B2.out.trans (G2.bel.mono B2.out.size)
    have CF2 : Hid (∀ i, i < n + 1 → W2.cell? ⟨wc.heap.size, i, none⟩ = some (.int .i64 (F0 i))) := c2
    have CN : Hid (Cells W2 aN lN (fun i => .int .i64 (N i))) := Cells.bel CN.out G2.bel
    have CA : Hid (Cells W2 aA lA (fun i => .bool (A i))) := Cells.bel CA.out G2.bel
    clear c2 G2 CF B2
    go_upto_if 82 with fail
    clear hcp mkF
    generalize wc.heap.size = f2 at *
    have mkN : ∀ W : World, (Instr.makeSlice 23 (.int .i64 (lN : Int)) (.int .i64 (lN : Int))).run Try.prog W = .ok (.slice (some ⟨W.heap.size, 0, none⟩) lN lN) (W.alloc (.cells (madeCells #[.int .i64 0] lN) 3)) := run_make_row' (P := Try.prog) 23 3 (.int .i64 0) 8 Try.underlying23 info3 rfl .i64 .i64 lN (by omega) (by omega)
    go_cut [2, 15] from 82 to 89 (fun s2 _ wd => ∃ (a : Option Addr) (c : Nat), s2 = .slice a lN c ∧ lN ≤ c ∧ c ≤ 9223372036854775807 ∧ Hid (Below W2.heap.size W2 wd) ∧ Hid ((a = none ∧ lN = 0 ∧ c = 0) ∨ ∃ b, a = some ⟨b, 0, none⟩ ∧ b < wd.heap.size ∧ ∀ i, i < lN → wd.cell? ⟨b, 0 + i, none⟩ = some (.int .i64 (N i))))
    case first =>
      cases ha : aN.isSome
      · have hnone : Hid (aN = none) := by
          show _ = _
          cases haN : aN with
          | none => rfl
          | some _ => rw [haN] at ha; cases ha
        go_wp2
        go_meet
        case rel => exact ⟨aN, cN, rfl, HcN, by have := (HNn.out hnone.out).2; omega, Below.refl _ _, .inl ⟨hnone.out, HNn.out hnone.out⟩⟩
      · obtain ⟨W3, hcp, G3, hW3, c3⟩ := copy_run' (P := Try.prog) W2 23 3 3 (.int .i64 0) aN lN cN (fun i => .int .i64 (N i)) Try.underlying23 (by kernel_rfl) CN.out (fun _ => rfl) ha
        have G3 : Hid _ := G3
        have C3 : Hid _ := c3
        clear c3
        go_wp2
        go_meet
        case rel => exact ⟨_, _, rfl, Nat.le_refl _, by omega, G3.out.bel, .inr ⟨_, rfl, hW3, fun i hi => by rw [Nat.zero_add]; exact C3.out i hi⟩⟩
    case rest =>
      obtain ⟨aN', cN', rfl, hcN1, hcN2, G4, DN⟩ := hcut
      generalize wc = wd at *
      clear mkN
      have B5 : Hid (Below w.heap.size w wd) := B3.out.trans (G4.out.mono B3.out.size)
      have CF5 : Hid (∀ i, i < n + 1 → wd.cell? ⟨f2, 0 + i, none⟩ = some (.int .i64 (F0 i))) := fun i hi => by
        rw [Nat.zero_add]; exact (G4.out.cell (p := ⟨f2, i, none⟩) hW2).trans (CF2.out i hi)
      have CA5 : Hid (Cells wd aA lA (fun i => .bool (A i))) := Cells.bel CA.out G4.out
      have hf5 : f2 < wd.heap.size := Nat.lt_of_lt_of_le hW2 G4.out.size
      clear B3 CF2 CA G4
      go_upto_if 91 with fail
      have mkA : ∀ W : World, (Instr.makeSlice 33 (.int .i64 (lA : Int)) (.int .i64 (lA : Int))).run Try.prog W = .ok (.slice (some ⟨W.heap.size, 0, none⟩) lA lA) (W.alloc (.cells (madeCells #[.bool false] lA) 4)) := run_make_row' (P := Try.prog) 33 4 (.bool false) 1 Try.underlying33 info4 rfl .i64 .i64 lA (by omega) (by omega)
      go_cut [5, 16] from 91 to 98 (fun s5 _ we => ∃ (a : Option Addr) (c : Nat), s5 = .slice a lA c ∧ Hid (Below wd.heap.size wd we) ∧ Hid (IsMask we a lA c A))
      case first =>
        cases ha : aA.isSome
        · have hnone : Hid (aA = none) := by
            show _ = _
            cases haN : aA with
            | none => rfl
            | some _ => rw [haN] at ha; cases ha
          have b7 : Hid (cA ≤ 9223372036854775807) := HcA2
          go_wp2
          go_meet
          case rel => exact ⟨aA, cA, rfl, Below.refl _ _, HcA, b7.out, .inl ⟨hnone.out, HAn.out hnone.out⟩⟩
        · obtain ⟨W6, hcp, G6, hW6, c6⟩ := copy_run' (P := Try.prog) wd 33 4 3 (.bool false) aA lA cA (fun i => .bool (A i)) Try.underlying33 (by kernel_rfl) CA5.out (fun _ => rfl) ha
          have G6 : Hid _ := G6
          have C6 : Hid _ := c6
          clear c6
          go_wp2
          go_meet
          case rel => exact ⟨_, _, rfl, G6.out.bel, Nat.le_refl _, by omega, .inr ⟨_, rfl, hW6, C6.out⟩⟩
      case rest =>
        obtain ⟨aA', cA', rfl, G6, MA⟩ := hcut
        generalize wc = we at *
        have B6 : Hid (Below w.heap.size w we) := B5.out.trans (G6.out.mono B5.out.size)
        have CF6 : Hid (∀ i, i < n + 1 → we.cell? ⟨f2, 0 + i, none⟩ = some (.int .i64 (F0 i))) := fun i hi => (G6.out.cell (p := ⟨f2, 0 + i, none⟩) hf5).trans (CF5.out i hi)
        have hf6 : f2 < we.heap.size := Nat.lt_of_lt_of_le hf5 G6.out.size
        have DN6 : Hid ((aN' = none ∧ lN = 0 ∧ cN' = 0) ∨ ∃ b, aN' = some ⟨b, 0, none⟩ ∧ b < we.heap.size ∧ ∀ i, i < lN → we.cell? ⟨b, 0 + i, none⟩ = some (.int .i64 (N i))) := by
          rcases DN.out with h | ⟨b, h1, h2, h3⟩
          · exact .inl h
          · exact .inr ⟨b, h1, Nat.lt_of_lt_of_le h2 G6.out.size, fun i hi => (G6.out.cell (p := ⟨b, 0 + i, none⟩) h2).trans (h3 i hi)⟩
        clear mkA CA5 CF5 B5 DN G6
        by_cases q0 : ui < 0
        · go_wp2
          go_ret
          exact ⟨rfl, B6.out⟩
        by_cases q1 : (n : Int) ≤ ui
        · go_wp2
          go_ret
          exact ⟨rfl, B6.out⟩
        by_cases q2 : size < 0
        · go_wp2
          go_ret
          exact ⟨rfl, B6.out⟩
        obtain ⟨u, rfl⟩ := Int.eq_ofNat_of_zero_le (show 0 ≤ ui by omega)
        obtain ⟨s, rfl⟩ := Int.eq_ofNat_of_zero_le (show 0 ≤ size by omega)
        have hu : u < n := by omega
        have hb := fun v hv => bounds FIT.out.2.1 FIT.out.2.2.1 FIT.out.2.2.2.1 v hv
        obtain ⟨F, EF⟩ : ∃ F : Nat → Nat, ∀ v, F v = (F0 v).toNat := ⟨_, fun _ => rfl⟩
        have FN : Hid (∀ v, v ≤ n → F0 v = (F v : Int)) := fun v hv => by rw [EF]; exact (Int.toNat_of_nonneg (hb v hv).1).symm
        have UP : Hid (∀ v, v < n → F v ≤ F (v + 1)) := fun v hv => by rw [EF, EF]; have := FIT.out.2.2.2.1 v hv; omega
        have TOP : Hid (∀ v, v < n + 1 → F v ≤ lN) := fun v hv => by rw [EF]; have := (hb v (by omega)).2; omega
        have ADJ : Hid (Adj n F N) := by
          have := fits_adj FIT.out
          rwa [← show F = fun v => (F0 v).toNat from funext EF] at this
        clear hb EF
        have CF7 : Hid (∀ i, i < n + 1 → we.cell? ⟨f2, 0 + i, none⟩ = some (.int .i64 (F i : Int))) := fun i hi => by rw [← FN.out i (by omega)]; exact CF6.out i hi
        clear CF6 FN
        have cu := CF7.out u (by omega)
        have cu1 := CF7.out (u + 1) (by omega)
        rw [Nat.zero_add] at cu cu1
        have hup := UP.out u hu
        have htop := TOP.out (u + 1) (by omega)
        have j1 : (u : Int) < (n : Int) + 1 := by omega
        have j2 : (u : Int) + 1 < (n : Int) + 1 := by omega
        have j3 : (0 : Int) ≤ (u : Int) := by omega
        have j4 : IntKind.i64.wrap ((u : Int) + 1) = (u : Int) + 1 := by rw [IntKind.wrap_i64]; omega
        have j5 : ((u : Int) + 1).toNat = u + 1 := by omega
        have j6 : IntKind.i64.wrap ((F (u + 1) : Int) - (F u : Int)) = ((F (u + 1) - F u : Nat) : Int) := by rw [IntKind.wrap_i64]; omega
        have mkB : ∀ W : World, (Instr.makeSlice 33 (.int .i64 (n : Int)) (.int .i64 (n : Int))).run Try.prog W = .ok (.slice (some ⟨W.heap.size, 0, none⟩) n n) (W.alloc (.cells (madeCells #[.bool false] n) 4)) := run_make_row' (P := Try.prog) 33 4 (.bool false) 1 Try.underlying33 info4 rfl .i64 .i64 n (by omega) (by omega)
        go_wp2
        go_quiet (fail)
        go_wp2
        have hdg : F (u + 1) - F u ≤ 4096 := by omega
        have EDG : Hid (deg F u = F (u + 1) - F u) := rfl
        generalize F (u + 1) - F u = dg at *
        have NB : Hid (Bools ((we.drewN nq).alloc (.cells (madeCells #[.bool false] n) 4)) we.heap.size n (fun _ => false)) := Bools.new (we.drewN nq) n
        have BB : Hid (Below we.heap.size we ((we.drewN nq).alloc (.cells (madeCells #[.bool false] n) 4))) := (((Gr.refl we).drewN nq).alloc _).bel
        generalize (we.drewN nq).alloc (.cells (madeCells #[.bool false] n) 4) = wa at *
        clear cu cu1 j4 j5 j6
        go_loopw [20] (fun s20 wr => ∃ k : Nat, s20 = .int .i64 k ∧ k ≤ n ∧ Hid (Bools wr we.heap.size n (fun i => decide (i < k))) ∧ Hid (Below we.heap.size we wr)) (fun s20 _ => ((n : Int) - intOf s20).toNat)
        case atStart => exact ⟨0, rfl, Nat.zero_le _, (show Bools _ _ _ _ by have := NB.out; simpa using this), BB⟩
        case round =>
          obtain ⟨k, rfl, hk, BK, BR⟩ := hrel
          by_cases hlt : k < n
          · have bc := BK.out.2.1 k hlt
            have bf := BK.out.2.2 k
            go_wp2
            go_roundw
            case rel =>
              refine ⟨k + 1, by go_num, by omega, ?_, BR.out.setCell (Nat.le_refl _) _⟩
              have h := BK.out.set k hlt true
              have e : (fun i => if i = k then true else decide (i < k)) = (fun i => decide (i < k + 1)) := by
                funext i
                by_cases e1 : i = k
                · simp [e1]
                · by_cases e2 : i < k
                  · simp [e1, e2]; omega
                  · simp [e1, e2]; omega
              rw [e] at h
              exact h
            case measure => simp [intOf]; omega
          · obtain rfl : n = k := by omega
            have hd : decide ((n : Int) < (n : Int)) = false := decide_eq_false (by omega)
            have MK : Hid (Bools wr we.heap.size n (fun i => decide (i < n))) := BK
            have hzr : we.heap.size ≤ wr.heap.size := BR.out.size
            go_wp2_with fail
            refine (newGraph_any (.bool true) (.bool true) (.bool true) a0' n c0' (some ⟨f2, 0, none⟩) (n + 1) (n + 1) aN' lN cN' wr).mono ?_
            rintro e w2 ⟨rfl, hw2⟩
            have GR : Hid (Graph w2 wr.heap.size f2 0 n (n + 1) F aN' lN cN' N) := by
              rw [hw2]
              exact graph_new BR.out hf6 k0 k2 ⟨hcN1, hcN2⟩ CF7.out UP.out TOP.out DN6.out
            have B2 : Hid (Below wr.heap.size wr w2) := by rw [hw2]; exact (Below.refl _ _).alloc (Nat.le_refl _) _
            clear hw2
            have M2 : Hid (IsMask w2 (some ⟨we.heap.size, 0, none⟩) n n (fun i => decide (i < n))) := IsMask.bel (MK.out.mask (by omega)) B2.out
            have MA2 : Hid (IsMask w2 aA' lA cA' A) := IsMask.bel (IsMask.bel MA.out BR.out) B2.out
            have BW : Hid (Below w.heap.size w w2) := (B6.out.trans (BR.out.mono B6.out.size)).trans (B2.out.mono (Nat.le_trans B6.out.size hzr))
            generalize wr.heap.size = g2 at *
            generalize we.heap.size = ab at *
            go_wp2_with fail
            have hcall := zzsocial_any GR.out ADJ.out u hu dg (by omega) (some ⟨ab, 0, none⟩) n n (fun i => decide (i < n)) M2.out
            have ef := full_eq ADJ.out hu
            rw [EDG.out] at ef hcall
            rw [ef] at hcall
            refine Calls.mono hcall ?_
            clear hcall ef
            rintro e w3 ⟨sv1, v1, rfl, V1, hsv1, B3⟩
            have V1 : Hid _ := V1
            have B3 : Hid _ := B3
            have GR3 : Hid _ := GR.out.bel B3.out
            have MA3 : Hid (IsMask w3 aA' lA cA' A) := IsMask.bel MA2.out B3.out
            have BW3 : Hid (Below w.heap.size w w3) := BW.out.trans (B3.out.mono BW.out.size)
            clear GR M2 MA2 BW
            go_wp2_with fail
            have hcall := zzsocial_any GR3.out ADJ.out u hu s (by omega) aA' lA cA' A MA3.out
            rw [part_eq ADJ.out hu] at hcall
            refine Calls.mono hcall ?_
            clear hcall
            rintro e w4 ⟨sv2, v2, rfl, V2, hsv2, B4⟩
            have V2 : Hid _ := V2
            have V14 : Hid _ := V1.out.bel B4
            have BW4 : Hid (Below w.heap.size w w4) := BW3.out.trans (B4.mono BW3.out.size)
            have GR4 : Hid _ := GR3.out.bel B4
            have MA4 : Hid (IsMask w4 aA' lA cA' A) := IsMask.bel MA3.out B4
            clear V1 B3 B4 GR3 MA3 BW3
            go_wp2_with fail
            have UPB : Hid (Up (base F N u)) := base_up ADJ.out hu
            have HLF : Hid ((srt (base F N u)).length = dg) := by show _ = _; rw [srt_length, base_length]; exact EDG.out
            have MEM : Hid (∀ p, p < dg → ∃ r, r < dg ∧ nth (srt (base F N u)) p = fr F N u r) := fun p hp => by
              obtain ⟨r, hr, e⟩ := base_mem (mem_srt.1 (nth_mem (L := srt (base F N u)) (by rw [HLF.out]; exact hp)))
              exact ⟨r, by rw [← EDG.out]; exact hr, e⟩
            have NDS : Hid ((srt (base F N u)).Pairwise (fun a b => a.1 ≠ b.1)) := srt_nodes UPB.out
            have hcall := friends_any V14.out (by rw [HLF.out]; exact hdg)
            refine Calls.mono hcall ?_
            clear hcall
            generalize srt (base F N u) = Lf at *
            rintro e w5 ⟨vn1, vc1, vd1, rfl, T1⟩
            obtain ⟨f1, f2', f3⟩ := T1.forms
            have B5 : Hid (Below w4.heap.size w4 w5) := T1.bel
            rw [HLF.out] at f1 f2' f3
            obtain ⟨a1, c1, rfl, C1⟩ := f1
            obtain ⟨a2, c2, rfl, C2⟩ := f2'
            obtain ⟨a3, c3, rfl, C3⟩ := f3
            have C1 : Hid _ := C1
            have C2 : Hid _ := C2
            have C3 : Hid _ := C3
            clear T1
            have V25 : Hid _ := V2.out.bel B5.out
            clear V2 V14
            go_wp2_with fail
            have hlp : ((Lf.filter (fun x => acc A lA x.1)).take s).length ≤ 4096 := by
              rw [List.length_take]
              have := List.length_filter_le (fun x : Fr => acc A lA x.1) Lf
              rw [HLF.out] at this
              omega
            have hcall := friends_any V25.out hlp
            refine Calls.mono hcall ?_
            clear hcall
            have ELP : Hid (∃ lp, ((Lf.filter (fun x => acc A lA x.1)).take s).length = lp) := ⟨_, rfl⟩
            obtain ⟨lp, elp⟩ := ELP.out
            rintro e w6 ⟨vn2, vc2, vd2, rfl, T2⟩
            obtain ⟨g1, g2', g3⟩ := T2.forms
            have B6' : Hid (Below w5.heap.size w5 w6) := T2.bel
            rw [elp] at g1 g2' g3 hlp
            obtain ⟨a4, c4, rfl, D1⟩ := g1
            obtain ⟨a5, c5, rfl, D2⟩ := g2'
            obtain ⟨a6, c6, rfl, D3⟩ := g3
            have ELP : Hid (((Lf.filter (fun x => acc A lA x.1)).take s).length = lp) := elp
            have D1 : Hid _ := D1
            have D2 : Hid _ := D2
            have D3 : Hid _ := D3
            clear T2 elp V25
            have C1 : Hid (Cells w6 a1 dg (fun i => .int .i64 (nth Lf i).1)) := Cells.bel C1.out B6'.out
            have C2 : Hid (Cells w6 a2 dg (fun i => .int .u64 (nth Lf i).2.1)) := Cells.bel C2.out B6'.out
            have C3 : Hid (Cells w6 a3 dg (fun i => .int .u64 (nth Lf i).2.2)) := Cells.bel C3.out B6'.out
            have GR6 : Hid _ := (GR4.out.bel B5.out).bel B6'.out
            have MA6 : Hid (IsMask w6 aA' lA cA' A) := IsMask.bel (IsMask.bel MA4.out B5.out) B6'.out
            have BW6 : Hid (Below w.heap.size w w6) := (BW4.out.trans (B5.out.mono BW4.out.size)).trans (B6'.out.mono (Nat.le_trans BW4.out.size B5.out.size))
            clear GR4 MA4 BW4 B5 B6'
            have z1 : ((dg : Int) != (dg : Int)) = false := by simp
            go_wp2
            clear z1
            have NB2 : Hid (Bools (w6.alloc (.cells (madeCells #[.bool false] n) 4)) w6.heap.size n (seenF Lf 0)) := Bools.new w6 n
            have BB2 : Hid (Below w6.heap.size w6 (w6.alloc (.cells (madeCells #[.bool false] n) 4))) := (Below.refl _ _).alloc (Nat.le_refl _) _
            generalize w6.alloc (.cells (madeCells #[.bool false] n) 4) = w7 at *
            have hmaskB := mkB
            clear hmaskB mkB
            have EDGE : Hid (∀ W, Graph W g2 f2 0 n (n + 1) F aN' lN cN' N → ∀ x : Int, (∃ r, r < dg ∧ N (F u + r) = x) → Calls Try.prog 22 #[.slice (some ⟨f2, 0, none⟩) (n + 1) (n + 1), .slice aN' lN cN', .int .i64 u, .int .i64 x] W fun e w' => e = .returned (.bool true) ∧ W = w') := fun W hW x hx => by
              have hI : IsInts W .i64 aN' lN cN' N := ⟨hW.hc.1, hW.hc.2, by
                rcases hW.hN with h | ⟨b, o, h1, h2, h3⟩
                · exact .inl h.2.1
                · exact .inr ⟨b, o, h1, h2, h3⟩⟩
              have hc := hasEdge_any f2 0 (n + 1) (n + 1) (fun i => (F i : Int)) aN' lN cN' N u (F u) (F (u + 1)) u x W hW.hF (by omega) hI (by omega) rfl (by omega) rfl rfl hup htop
              refine hc.mono ?_
              rintro e w' ⟨r, rfl, rfl, hr⟩
              obtain ⟨p, hp, hpx⟩ := hx
              have hdgu : F (u + 1) - F u = dg := EDG.out
              have : r = true := hr.1 (fun p q h1 h2 h3 => by
                have := (ADJ.out u hu).1 (p - F u) (q - F u) (by omega) (by omega)
                simpa [show F u + (p - F u) = p by omega, show F u + (q - F u) = q by omega] using this) ⟨F u + p, by omega, by omega, hpx⟩
              exact ⟨by rw [this], rfl⟩
            have XN : Hid (∀ p, p < dg → ∃ xv : Nat, (nth Lf p).1 = xv ∧ xv < n ∧ ∃ r, r < dg ∧ N (F u + r) = (xv : Int)) := fun p hp => by
              obtain ⟨r, hr, e⟩ := MEM.out p hp
              have h1 := (ADJ.out u hu).2 r (by rw [EDG.out]; exact hr)
              have e1 : (nth Lf p).1 = N (F u + r) := by rw [e]; rfl
              refine ⟨(N (F u + r)).toNat, by rw [e1]; omega, by omega, r, hr, by omega⟩
            have hz6 : f2 < w6.heap.size := GR6.out.bl
            go_loopw [33] (fun s33 wr => ∃ p : Nat, s33 = .int .i64 p ∧ p ≤ dg ∧ Hid (Bools wr w6.heap.size n (seenF Lf p)) ∧ Hid (Below w6.heap.size w6 wr)) (fun s33 _ => ((dg : Int) - intOf s33).toNat)
            case atStart => exact ⟨0, rfl, Nat.zero_le _, NB2, BB2⟩
            case round =>
              obtain ⟨p, rfl, hp, BK2, BR2⟩ := hrel
              by_cases hlt : p < dg
              · obtain ⟨b1', o1', rfl, hb1', hc1'⟩ : ∃ b o, a1 = some ⟨b, o, none⟩ ∧ b < w6.heap.size ∧ ∀ i, i < dg → w6.cell? ⟨b, o + i, none⟩ = some (.int .i64 (nth Lf i).1) := by
                  rcases C1.out with h | h
                  · omega
                  · exact h
                obtain ⟨xv, hxv, hxn, hxr⟩ := XN.out p hlt
                have cx : wr.cell? ⟨b1', o1' + p, none⟩ = some (.int .i64 (xv : Int)) := by
                  rw [BR2.out.cell (p := ⟨b1', o1' + p, none⟩) hb1', hc1' p hlt, hxv]
                have sx : wr.cell? ⟨w6.heap.size, xv, none⟩ = some (.bool false) := by
                  rw [BK2.out.2.1 xv hxn, seenF_new NDS.out (by rw [HLF.out]; exact hlt) hxv]
                have sf := BK2.out.2.2 xv
                have HX : Hid _ := hxv
                have ED : Hid (∀ W, Graph W g2 f2 0 n (n + 1) F aN' lN cN' N → Calls Try.prog 22 #[.slice (some ⟨f2, 0, none⟩) (n + 1) (n + 1), .slice aN' lN cN', .int .i64 u, .int .i64 (xv : Int)] W fun e w' => e = .returned (.bool true) ∧ W = w') := fun W hW => EDGE.out W hW xv hxr
                have y1 : decide ((xv : Int) < 0) = false := decide_eq_false (by omega)
                have y2 : decide ((n : Int) ≤ (xv : Int)) = false := decide_eq_false (by omega)
                clear hxv hxr hc1'
                go_wp2_with fail
                refine (ED.out _ (GR6.out.bel BR2.out)).mono ?_
                rintro e w' ⟨rfl, rfl⟩
                go_wp2
                go_roundw
                case rel =>
                  refine ⟨p + 1, by go_num, by omega, ?_, BR2.out.setCell (Nat.le_refl _) _⟩
                  have h := BK2.out.set xv hxn true
                  rw [seenF_succ Lf p xv HX.out] at h
                  exact h
                case measure => simp [intOf]; omega
              · obtain rfl : dg = p := by omega
                have hd : decide ((dg : Int) < (dg : Int)) = false := decide_eq_false (by omega)
                go_wp2
                clear hd
                have C18 : Hid (Cells wr a1 dg (fun i => .int .i64 (nth Lf i).1)) := Cells.bel C1.out BR2.out
                have C28 : Hid (Cells wr a2 dg (fun i => .int .u64 (nth Lf i).2.1)) := Cells.bel C2.out BR2.out
                have C38 : Hid (Cells wr a3 dg (fun i => .int .u64 (nth Lf i).2.2)) := Cells.bel C3.out BR2.out
                have D18 : Hid (Cells wr a4 lp (fun i => .int .i64 (nth ((Lf.filter (fun x => acc A lA x.1)).take s) i).1)) := Cells.bel D1.out BR2.out
                have D28 : Hid (Cells wr a5 lp (fun i => .int .u64 (nth ((Lf.filter (fun x => acc A lA x.1)).take s) i).2.1)) := Cells.bel D2.out BR2.out
                have D38 : Hid (Cells wr a6 lp (fun i => .int .u64 (nth ((Lf.filter (fun x => acc A lA x.1)).take s) i).2.2)) := Cells.bel D3.out BR2.out
                have MA8 : Hid (IsMask wr aA' lA cA' A) := IsMask.bel MA6.out BR2.out
                have BW8 : Hid (Below w.heap.size w wr) := BW6.out.trans (BR2.out.mono BW6.out.size)
                clear C1 C2 C3 D1 D2 D3 MA6 BW6 BR2 BK2 GR6 EDGE XN NB2 BB2
                have z2 : ((s : Int) == (s : Int)) = true := by simp
                go_loopw [35, 36] (fun s35 s36 w9 => ∃ (p r m : Nat), s36 = .int .i64 p ∧ p ≤ dg ∧ s35 = .int .i64 r ∧ r ≤ s ∧ w9 = wr.drewN m ∧ Hid (upto Lf (fun x => acc A lA x.1) p = r)) (fun _ s36 _ => ((dg : Int) - intOf s36).toNat)
                case atStart => exact ⟨0, 0, 0, rfl, Nat.zero_le _, rfl, Nat.zero_le _, rfl, by show _ = _; simp [upto]⟩
                case round =>
                  obtain ⟨p, r, m, rfl, hp, rfl, hrs, rfl, HU⟩ := hrel
                  by_cases hlt : p < dg
                  case neg =>
                    obtain rfl : dg = p := by omega
                    have hd : decide ((dg : Int) < (dg : Int)) = false := decide_eq_false (by omega)
                    have elp : lp = r := by
                      have hr := HU.out
                      rw [← HLF.out] at hr
                      rw [← ELP.out, upto_end (by rw [hr]; exact hrs), hr]
                    subst elp
                    have z3 : ((lp : Int) == (lp : Int)) = true := by simp
                    go_wp2
                    go_ret
                    exact ⟨rfl, (((Gr.refl wr).drewN m).bel.mono BW8.out.size |> BW8.out.trans)⟩
                  obtain ⟨b1', o1', rfl, hb1', hc1'⟩ : ∃ b o, a1 = some ⟨b, o, none⟩ ∧ b < wr.heap.size ∧ ∀ i, i < dg → wr.cell? ⟨b, o + i, none⟩ = some (.int .i64 (nth Lf i).1) := by
                    rcases C18.out with h | h
                    · omega
                    · exact h
                  have cx := hc1' p hlt
                  have ACC : Hid (Calls Try.prog 19 #[.slice aA' lA cA', .int .i64 (nth Lf p).1] (wr.drewN m) fun e w' => e = .returned (.bool (acc A lA (nth Lf p).1)) ∧ w' = wr.drewN m) := accepted_any aA' lA cA' A _ _ (IsMask.bel MA8.out ((Gr.refl wr).drewN m).bel)
                  have hpl : p < Lf.length := by rw [HLF.out]; exact hlt
                  have UNO : Hid (acc A lA (nth Lf p).1 = false → upto Lf (fun x => acc A lA x.1) (p + 1) = r) := fun h => (upto_no hpl h).trans HU.out
                  have UYES : Hid (acc A lA (nth Lf p).1 = true → upto Lf (fun x => acc A lA x.1) (p + 1) = r + 1) := fun h => by rw [upto_yes hpl h, HU.out]
                  have UNTH : Hid (acc A lA (nth Lf p).1 = true → r < s → r < lp ∧ nth ((Lf.filter (fun x => acc A lA x.1)).take s) r = nth Lf p) := fun h h2 => by
                    have := upto_nth (q := fun x => acc A lA x.1) (s := s) hpl h (by rw [HU.out]; exact h2)
                    rw [HU.out, ELP.out] at this
                    exact this
                  have UBRK : Hid (r = s → lp = s) := fun h => by
                    rw [← ELP.out]; exact upto_brk (p := p) (by rw [HU.out]; exact h)
                  clear hc1' hpl
                  generalize acc A lA (nth Lf p).1 = q at ACC UNO UYES UNTH
                  have c28 := C28.out
                  have c38 := C38.out
                  obtain ⟨b2', o2', rfl, hb2', hc2'⟩ : ∃ b o, a2 = some ⟨b, o, none⟩ ∧ b < wr.heap.size ∧ ∀ i, i < dg → wr.cell? ⟨b, o + i, none⟩ = some (.int .u64 (nth Lf i).2.1) := by
                    rcases c28 with h | h
                    · omega
                    · exact h
                  obtain ⟨b3', o3', rfl, hb3', hc3'⟩ : ∃ b o, a3 = some ⟨b, o, none⟩ ∧ b < wr.heap.size ∧ ∀ i, i < dg → wr.cell? ⟨b, o + i, none⟩ = some (.int .u64 (nth Lf i).2.2) := by
                    rcases c38 with h | h
                    · omega
                    · exact h
                  have cx2 := hc2' p hlt
                  have cx3 := hc3' p hlt
                  clear hc2' hc3' c28 c38
                  generalize hx : nth Lf p = x at *
                  obtain ⟨xn, xc, xd⟩ := x
                  simp only at cx cx2 cx3
                  clear hx
                  go_wp2_with fail
                  refine Calls.mono ACC.out ?_
                  clear ACC
                  rintro e w' ⟨rfl, rfl⟩
                  cases q
                  · have UN : Hid _ := UNO.out rfl
                    clear UNO UYES UNTH UBRK
                    go_wp2
                    go_roundw
                    case rel => exact ⟨p + 1, r, m, by go_num, by omega, rfl, hrs, rfl, UN.out⟩
                    case measure => simp [intOf]; omega
                  · by_cases hrs' : r = s
                    · have z4 : ((r : Int) == (s : Int)) = true := by simp [hrs']
                      have elp := UBRK.out hrs'
                      have HRS : Hid _ := hrs'
                      have z5 : ((lp : Int) == (r : Int)) = true := by simp; omega
                      clear hrs' elp
                      go_wp2
                      go_ret
                      exact ⟨rfl, (((Gr.refl wr).drewN m).bel.mono BW8.out.size |> BW8.out.trans)⟩
                    · have z4 : ((r : Int) == (s : Int)) = false := by simp; omega
                      obtain ⟨hrl, hnth⟩ := UNTH.out rfl (by omega)
                      have UY : Hid _ := UYES.out rfl
                      have hrs2 : r + 1 ≤ s := by omega
                      obtain ⟨b4', o4', rfl, hb4', hc4'⟩ : ∃ b o, a4 = some ⟨b, o, none⟩ ∧ b < wr.heap.size ∧ ∀ i, i < lp → wr.cell? ⟨b, o + i, none⟩ = some (.int .i64 (nth ((Lf.filter (fun x => acc A lA x.1)).take s) i).1) := by
                        rcases D18.out with h | h
                        · omega
                        · exact h
                      obtain ⟨b5', o5', rfl, hb5', hc5'⟩ : ∃ b o, a5 = some ⟨b, o, none⟩ ∧ b < wr.heap.size ∧ ∀ i, i < lp → wr.cell? ⟨b, o + i, none⟩ = some (.int .u64 (nth ((Lf.filter (fun x => acc A lA x.1)).take s) i).2.1) := by
                        rcases D28.out with h | h
                        · omega
                        · exact h
                      obtain ⟨b6', o6', rfl, hb6', hc6'⟩ : ∃ b o, a6 = some ⟨b, o, none⟩ ∧ b < wr.heap.size ∧ ∀ i, i < lp → wr.cell? ⟨b, o + i, none⟩ = some (.int .u64 (nth ((Lf.filter (fun x => acc A lA x.1)).take s) i).2.2) := by
                        rcases D38.out with h | h
                        · omega
                        · exact h
                      have d1 := hc4' r hrl
                      have d2 := hc5' r hrl
                      have d3 := hc6' r hrl
                      rw [hnth] at d1 d2 d3
                      simp only at d1 d2 d3
                      clear hc4' hc5' hc6' hnth UNO UYES UNTH UBRK hrs'
                      have n1 : (xn != xn) = false := by simp
                      have n2 : ((xc : Int) != (xc : Int)) = false := by simp
                      have n3 : ((xd : Int) != (xd : Int)) = false := by simp
                      have k1' : (r : Int) < (lp : Int) := by omega
                      have k2' : (p : Int) < (dg : Int) := by omega
                      have k3' : (0 : Int) ≤ (r : Int) := by omega
                      have k4' : (0 : Int) ≤ (p : Int) := by omega
                      go_wp2
                      go_quiet (fail)
                      go_wp2
                      go_roundw
                      case rel => exact ⟨p + 1, r + 1, m + nq, by go_num, by omega, by go_num, hrs2, by simp, UY.out⟩
                      case measure => simp [intOf]; omega
end Go.Proofs.Qxb6615739a
