import Derived.Test.Qxb6615739aRank
import Derived.Test.Qxb6615739aFilter
namespace Go.Proofs.Qxb6615739a
open Go.RowKit
set_option linter.unusedSimpArgs false
set_option linter.unusedVariables false

set_option maxHeartbeats 4000000 in
set_option maxRecDepth 100000 in
theorem top_walk (aI : Option Addr) (n cI : Nat) (I : Nat → Int) (aF : Option Addr) (lF cF : Nat) (F0 : Nat → Int) (aN : Option Addr) (lN cN : Nat) (N : Nat → Int) (ui ai bi : Int) (aA : Option Addr) (lA cA : Nat) (A : Nat → Bool) (w : World)
    (hI : IsInts w .u64 aI n cI I) (hF : IsInts w .i64 aF lF cF F0) (hN : IsInts w .i64 aN lN cN N) (hA : lA ≤ cA ∧ cA ≤ 9223372036854775807 ∧ Cells w aA lA (fun i => .bool (A i))) (hNn : aN = none → lN = 0 ∧ cN = 0) (hAn : aA = none → lA = 0)
    (hsa : ai ≤ 9223372036854775807) (hsb : bi ≤ 9223372036854775807) :
    Calls Try.prog 5 #[.slice aI n cI, .slice aF lF cF, .slice aN lN cN, .int .i64 ui, .int .i64 ai, .int .i64 bi, .slice aA lA cA] w (LawPost w) := by
  have b0 : n ≤ 9223372036854775807 := Nat.le_trans hI.1 hI.2.1
  have b1 : lF ≤ 9223372036854775807 := Nat.le_trans hF.1 hF.2.1
  have b2 : lN ≤ 9223372036854775807 := Nat.le_trans hN.1 hN.2.1
  have b5 : lA ≤ 9223372036854775807 := Nat.le_trans hA.1 hA.2.1
  have HI : Hid _ := hI
  have HF : Hid _ := hF
  have HN : Hid _ := hN
  have HA : Hid _ := hA
  have HNn : Hid _ := hNn
  have HAn : Hid _ := hAn
  clear hI hF hN hA hNn hAn
  go_enter Try.func5, Try.ntmps5
  go_wp2_with fail
  refine (zzBytes14_any aI n cI aF lF cF aN lN cN ui ai bi aA lA cA w b0 b1 b2 b5).mono ?_
  rintro e w' ⟨r, rfl, rfl⟩
  cases r
  · go_wp2
    go_ret
    exact ⟨rfl, Below.refl _ _⟩
  by_cases k0 : n ≤ 4096
  case neg =>
    go_wp2
    go_ret
    exact ⟨rfl, Below.refl _ _⟩
  by_cases k1 : lF ≤ 4097
  case neg =>
    go_wp2
    go_ret
    exact ⟨rfl, Below.refl _ _⟩
  by_cases k2 : lN ≤ 4096
  case neg =>
    go_wp2
    go_ret
    exact ⟨rfl, Below.refl _ _⟩
  by_cases k5 : lA ≤ 4096
  case neg =>
    go_wp2
    go_ret
    exact ⟨rfl, Below.refl _ _⟩
  go_wp2_with fail
  refine (graphFits_any aI n cI I aF lF cF F0 aN lN cN N _ HI.out k0 HF.out k1 HN.out k2).mono ?_
  rintro e w1 ⟨r, rfl, ⟨m1, rfl⟩, hfit⟩
  cases r
  · go_wp2
    go_ret
    exact ⟨rfl, ((Gr.refl _).drewN m1).bel⟩
  have FIT : Hid (Fits n lF lN F0 N) := hfit rfl
  clear hfit
  have B1 : Hid (Below w.heap.size w (w.drewN m1)) := ((Gr.refl w).drewN m1).bel
  generalize w.drewN m1 = w1 at *
  have CI : Hid (Cells w1 aI n (fun i => .int .u64 (I i))) := Cells.bel HI.out.2.2 B1.out
  have CF : Hid (Cells w1 aF lF (fun i => .int .i64 (F0 i))) := Cells.bel HF.out.2.2 B1.out
  have CN : Hid (Cells w1 aN lN (fun i => .int .i64 (N i))) := Cells.bel HN.out.2.2 B1.out
  have CA : Hid (Cells w1 aA lA (fun i => .bool (A i))) := Cells.bel HA.out.2.2 B1.out
  have HcN := HN.out.1
  have HcA := HA.out.1
  have HcA2 := HA.out.2.1
  clear HI HF HN HA
  go_upto_if 76 with fail
  have mkU : ∀ W : World, (Instr.makeSlice 35 (.int .i64 (n : Int)) (.int .i64 (n : Int))).run Try.prog W = .ok (.slice (some ⟨W.heap.size, 0, none⟩) n n) (W.alloc (.cells (madeCells #[.int .u64 0] n) 22)) := run_make_row' (P := Try.prog) 35 22 (.int .u64 0) 8 Try.underlying35 info22 rfl .i64 .i64 n (by omega) (by omega)
  go_cut [0, 15] from 76 to 83 (fun s0 _ wc => ∃ (a : Option Addr) (c : Nat), s0 = .slice a n c ∧ Hid (Below w1.heap.size w1 wc))
  case first =>
    cases ha : aI.isSome
    · go_wp2
      go_meet
      case rel => exact ⟨aI, cI, rfl, Below.refl _ _⟩
    · obtain ⟨W2, hcp, G2, _⟩ := copy_run' (P := Try.prog) w1 35 22 3 (.int .u64 0) aI n cI (fun i => .int .u64 (I i)) Try.underlying35 (by kernel_rfl) CI.out (fun _ => rfl) ha
      have G2 : Hid _ := G2
      go_wp2
      go_meet
      case rel => exact ⟨_, _, rfl, G2.out.bel⟩
  case rest =>
    obtain ⟨a0', c0', rfl, G1⟩ := hcut
    clear mkU CI
    obtain rfl : lF = n + 1 := FIT.out.1
    obtain ⟨bF, oF, rfl⟩ : ∃ b o, aF = some ⟨b, o, none⟩ := by
      rcases CF.out with h | ⟨b, o, h, _⟩
      · omega
      · exact ⟨b, o, h⟩
    have CF : Hid (Cells wc (some ⟨bF, oF, none⟩) (n + 1) (fun i => .int .i64 (F0 i))) := Cells.bel CF.out G1.out
    have CN : Hid (Cells wc aN lN (fun i => .int .i64 (N i))) := Cells.bel CN.out G1.out
    have CA : Hid (Cells wc aA lA (fun i => .bool (A i))) := Cells.bel CA.out G1.out
    have B2 : Hid (Below w.heap.size w wc) := B1.out.trans (G1.out.mono B1.out.size)
    clear B1 G1
    have mkF : ∀ W : World, (Instr.makeSlice 23 (.int .i64 ((n : Int) + 1)) (.int .i64 ((n : Int) + 1))).run Try.prog W = .ok (.slice (some ⟨W.heap.size, 0, none⟩) (n + 1) (n + 1)) (W.alloc (.cells (madeCells #[.int .i64 0] (n + 1)) 3)) := fun W => by
      have := run_make_row' (P := Try.prog) 23 3 (.int .i64 0) 8 Try.underlying23 info3 rfl .i64 .i64 (n + 1) (by omega) (by omega) W
      rwa [show ((n + 1 : Nat) : Int) = (n : Int) + 1 from rfl] at this
    obtain ⟨W2, hcp, G2, hW2, c2⟩ := copy_run (P := Try.prog) wc 23 3 3 (.int .i64 0) ⟨bF, oF, none⟩ (n + 1) cF (fun i => .int .i64 (F0 i)) Try.underlying23 (by kernel_rfl) CF.out (fun _ => rfl)
    have B3 : Hid (Below w.heap.size w W2) := B2.out.trans (G2.bel.mono B2.out.size)
    have CF2 : Hid (∀ i, i < n + 1 → W2.cell? ⟨wc.heap.size, i, none⟩ = some (.int .i64 (F0 i))) := c2
    have CN : Hid (Cells W2 aN lN (fun i => .int .i64 (N i))) := Cells.bel CN.out G2.bel
    have CA : Hid (Cells W2 aA lA (fun i => .bool (A i))) := Cells.bel CA.out G2.bel
    clear c2 G2 CF B2
    go_upto_if 94 with fail
    clear hcp mkF
    generalize wc.heap.size = f2 at *
    have mkN : ∀ W : World, (Instr.makeSlice 23 (.int .i64 (lN : Int)) (.int .i64 (lN : Int))).run Try.prog W = .ok (.slice (some ⟨W.heap.size, 0, none⟩) lN lN) (W.alloc (.cells (madeCells #[.int .i64 0] lN) 3)) := run_make_row' (P := Try.prog) 23 3 (.int .i64 0) 8 Try.underlying23 info3 rfl .i64 .i64 lN (by omega) (by omega)
    go_cut [2, 17] from 94 to 101 (fun s2 _ wd => ∃ (a : Option Addr) (c : Nat), s2 = .slice a lN c ∧ lN ≤ c ∧ c ≤ 9223372036854775807 ∧ Hid (Below W2.heap.size W2 wd) ∧ Hid ((a = none ∧ lN = 0 ∧ c = 0) ∨ ∃ b, a = some ⟨b, 0, none⟩ ∧ b < wd.heap.size ∧ ∀ i, i < lN → wd.cell? ⟨b, 0 + i, none⟩ = some (.int .i64 (N i))))
    case first =>
      cases ha : aN.isSome
      · have hnone : Hid (aN = none) := by
          show _ = _
          cases haN : aN with
          | none => rfl
          | some _ => rw [haN] at ha; cases ha
        go_wp2
        go_meet
        case rel => exact ⟨aN, cN, rfl, HcN, by have := (HNn.out hnone.out).2; omega, Below.refl _ _, .inl ⟨hnone.out, HNn.out hnone.out⟩⟩
      · obtain ⟨W3, hcp, G3, hW3, c3⟩ := copy_run' (P := Try.prog) W2 23 3 3 (.int .i64 0) aN lN cN (fun i => .int .i64 (N i)) Try.underlying23 (by kernel_rfl) CN.out (fun _ => rfl) ha
        have G3 : Hid _ := G3
        have C3 : Hid _ := c3
        clear c3
        go_wp2
        go_meet
        case rel => exact ⟨_, _, rfl, Nat.le_refl _, by omega, G3.out.bel, .inr ⟨_, rfl, hW3, fun i hi => by rw [Nat.zero_add]; exact C3.out i hi⟩⟩
    case rest =>
      obtain ⟨aN', cN', rfl, hcN1, hcN2, G4, DN⟩ := hcut
      generalize wc = wd at *
      clear mkN
      have B5 : Hid (Below w.heap.size w wd) := B3.out.trans (G4.out.mono B3.out.size)
      have CF5 : Hid (∀ i, i < n + 1 → wd.cell? ⟨f2, 0 + i, none⟩ = some (.int .i64 (F0 i))) := fun i hi => by
        rw [Nat.zero_add]; exact (G4.out.cell (p := ⟨f2, i, none⟩) hW2).trans (CF2.out i hi)
      have CA5 : Hid (Cells wd aA lA (fun i => .bool (A i))) := Cells.bel CA.out G4.out
      have hf5 : f2 < wd.heap.size := Nat.lt_of_lt_of_le hW2 G4.out.size
      clear B3 CF2 CA G4
      go_upto_if 103 with fail
      have mkA : ∀ W : World, (Instr.makeSlice 33 (.int .i64 (lA : Int)) (.int .i64 (lA : Int))).run Try.prog W = .ok (.slice (some ⟨W.heap.size, 0, none⟩) lA lA) (W.alloc (.cells (madeCells #[.bool false] lA) 4)) := run_make_row' (P := Try.prog) 33 4 (.bool false) 1 Try.underlying33 info4 rfl .i64 .i64 lA (by omega) (by omega)
      go_cut [6, 18] from 103 to 110 (fun s5 _ we => ∃ (a : Option Addr) (c : Nat), s5 = .slice a lA c ∧ Hid (Below wd.heap.size wd we) ∧ Hid (IsMask we a lA c A))
      case first =>
        cases ha : aA.isSome
        · have hnone : Hid (aA = none) := by
            show _ = _
            cases haN : aA with
            | none => rfl
            | some _ => rw [haN] at ha; cases ha
          have b7 : Hid (cA ≤ 9223372036854775807) := HcA2
          go_wp2
          go_meet
          case rel => exact ⟨aA, cA, rfl, Below.refl _ _, HcA, b7.out, .inl ⟨hnone.out, HAn.out hnone.out⟩⟩
        · obtain ⟨W6, hcp, G6, hW6, c6⟩ := copy_run' (P := Try.prog) wd 33 4 3 (.bool false) aA lA cA (fun i => .bool (A i)) Try.underlying33 (by kernel_rfl) CA5.out (fun _ => rfl) ha
          have G6 : Hid _ := G6
          have C6 : Hid _ := c6
          clear c6
          go_wp2
          go_meet
          case rel => exact ⟨_, _, rfl, G6.out.bel, Nat.le_refl _, by omega, .inr ⟨_, rfl, hW6, C6.out⟩⟩
      case rest =>
        obtain ⟨aA', cA', rfl, G6, MA⟩ := hcut
        generalize wc = we at *
        have B6 : Hid (Below w.heap.size w we) := B5.out.trans (G6.out.mono B5.out.size)
        have CF6 : Hid (∀ i, i < n + 1 → we.cell? ⟨f2, 0 + i, none⟩ = some (.int .i64 (F0 i))) := fun i hi => (G6.out.cell (p := ⟨f2, 0 + i, none⟩) hf5).trans (CF5.out i hi)
        have hf6 : f2 < we.heap.size := Nat.lt_of_lt_of_le hf5 G6.out.size
        have DN6 : Hid ((aN' = none ∧ lN = 0 ∧ cN' = 0) ∨ ∃ b, aN' = some ⟨b, 0, none⟩ ∧ b < we.heap.size ∧ ∀ i, i < lN → we.cell? ⟨b, 0 + i, none⟩ = some (.int .i64 (N i))) := by
          rcases DN.out with h | ⟨b, h1, h2, h3⟩
          · exact .inl h
          · exact .inr ⟨b, h1, Nat.lt_of_lt_of_le h2 G6.out.size, fun i hi => (G6.out.cell (p := ⟨b, 0 + i, none⟩) h2).trans (h3 i hi)⟩
        clear mkA CA5 CF5 B5 DN G6
        by_cases q0 : ui < 0
        · go_wp2
          go_ret
          exact ⟨rfl, B6.out⟩
        by_cases q1 : (n : Int) ≤ ui
        · go_wp2
          go_ret
          exact ⟨rfl, B6.out⟩
        by_cases q2 : ai < 0
        · go_wp2
          go_ret
          exact ⟨rfl, B6.out⟩
        by_cases q3 : bi < ai
        · go_wp2
          go_ret
          exact ⟨rfl, B6.out⟩
        obtain ⟨u, rfl⟩ := Int.eq_ofNat_of_zero_le (show 0 ≤ ui by omega)
        obtain ⟨sa, rfl⟩ := Int.eq_ofNat_of_zero_le (show 0 ≤ ai by omega)
        obtain ⟨sb, rfl⟩ := Int.eq_ofNat_of_zero_le (show 0 ≤ bi by omega)
        have hu : u < n := by omega
        have hb := fun v hv => bounds FIT.out.2.1 FIT.out.2.2.1 FIT.out.2.2.2.1 v hv
        obtain ⟨F, EF⟩ : ∃ F : Nat → Nat, ∀ v, F v = (F0 v).toNat := ⟨_, fun _ => rfl⟩
        have FN : Hid (∀ v, v ≤ n → F0 v = (F v : Int)) := fun v hv => by rw [EF]; exact (Int.toNat_of_nonneg (hb v hv).1).symm
        have UP : Hid (∀ v, v < n → F v ≤ F (v + 1)) := fun v hv => by rw [EF, EF]; have := FIT.out.2.2.2.1 v hv; omega
        have TOP : Hid (∀ v, v < n + 1 → F v ≤ lN) := fun v hv => by rw [EF]; have := (hb v (by omega)).2; omega
        have ADJ : Hid (Adj n F N) := by
          have := fits_adj FIT.out
          rwa [← show F = fun v => (F0 v).toNat from funext EF] at this
        have SYM : Hid (∀ p, F u ≤ p → p < F (u + 1) → F (N p).toNat < F ((N p).toNat + 1)) := fun p h1 h2 => by
          rw [EF] at h1 h2
          rw [EF, EF]
          have e0 := (hb u (by omega)).1
          have e1 := (hb (u + 1) (by omega)).1
          have := FIT.out.2.2.2.2.2 u hu p (by omega) (by omega)
          have hr := FIT.out.2.2.2.2.1 u hu p (by omega) (by omega)
          have e2 := (hb (N p).toNat (by omega)).1
          omega
        clear hb EF
        have CF7 : Hid (∀ i, i < n + 1 → we.cell? ⟨f2, 0 + i, none⟩ = some (.int .i64 (F i : Int))) := fun i hi => by rw [← FN.out i (by omega)]; exact CF6.out i hi
        clear CF6 FN
        have cu := CF7.out u (by omega)
        have cu1 := CF7.out (u + 1) (by omega)
        rw [Nat.zero_add] at cu cu1
        have hup := UP.out u hu
        have htop := TOP.out (u + 1) (by omega)
        have j1 : (u : Int) < (n : Int) + 1 := by omega
        have j2 : (u : Int) + 1 < (n : Int) + 1 := by omega
        have j3 : (0 : Int) ≤ (u : Int) := by omega
        have j4 : IntKind.i64.wrap ((u : Int) + 1) = (u : Int) + 1 := by rw [IntKind.wrap_i64]; omega
        have j5 : ((u : Int) + 1).toNat = u + 1 := by omega
        have j6 : IntKind.i64.wrap ((F (u + 1) : Int) - (F u : Int)) = ((F (u + 1) - F u : Nat) : Int) := by rw [IntKind.wrap_i64]; omega
        have mkB : ∀ W : World, (Instr.makeSlice 33 (.int .i64 (n : Int)) (.int .i64 (n : Int))).run Try.prog W = .ok (.slice (some ⟨W.heap.size, 0, none⟩) n n) (W.alloc (.cells (madeCells #[.bool false] n) 4)) := run_make_row' (P := Try.prog) 33 4 (.bool false) 1 Try.underlying33 info4 rfl .i64 .i64 n (by omega) (by omega)
        have hdg0 : F (u + 1) - F u ≤ 4096 := by omega
        obtain ⟨dg, EDG0⟩ : ∃ dg, F (u + 1) - F u = dg := ⟨_, rfl⟩
        rw [EDG0] at j6 hdg0
        have EDG : Hid (deg F u = dg) := EDG0
        have hf1 : Hid (F (u + 1) = F u + dg) := by show _ = _; omega
        clear EDG0
        have j7 : IntKind.u64.wrap (dg : Int) = (dg : Int) := M64.wrapN _ (by omega)
        have DEG : Hid (∀ v, v < n → deg F v ≤ 4096) := fun v hv => by have := TOP.out (v + 1) (by omega); unfold deg; omega
        obtain ⟨C, EC⟩ : ∃ C, cand0 F N (acc A lA) u dg = C := ⟨_, rfl⟩
        obtain ⟨S, ES⟩ : ∃ S, srt (cands F N (acc A lA) u (deg F u)) = S := ⟨_, rfl⟩
        have SM : Hid (∀ z ∈ C, Small z ∧ Pos z) := fun z hz => by
          rw [← EC] at hz
          obtain ⟨p, hp, rfl⟩ := cand0_mem hz
          have h1 := (ADJ.out u hu).2 p (by rw [EDG.out]; exact hp)
          have h2 := DEG.out u hu
          have h3 := DEG.out (N (F u + p)).toNat (by omega)
          have h5 := hf1.out
          have h4 := SYM.out (F u + p) (by omega) (by omega)
          exact ⟨⟨Nat.le_trans (com_le F N u _) h3, Nat.mul_le_mul h2 h3⟩, Nat.mul_pos (by rw [EDG.out]; omega) (by unfold deg; omega)⟩
        have hS : S = srt (C.map norm) := by rw [← ES, cand0_norm, EDG.out, EC]
        have UPC : Up (C.map norm) := by
          have := cands_up ADJ.out (acc A lA) hu (Nat.le_refl (deg F u))
          rwa [cand0_norm, EDG.out, EC] at this
        have rk : ∀ x, x < C.length → upto C (fun z => decide (clo z (nth C x) < 0)) C.length < C.length ∧ nth S (upto C (fun z => decide (clo z (nth C x) < 0)) C.length) = norm (nth C x) := fun x hx => by
          rw [hS]; exact rank_law UPC (fun z hz => (SM.out z hz).2) hx
        have hSl : S.length = C.length := by rw [hS, srt_length, List.length_map]
        have hCl : C.length ≤ dg := by rw [← EC]; exact cand0_length _ _ _ _ _
        clear hS UPC
        obtain ⟨tot, etot⟩ : ∃ t, C.length = t := ⟨_, rfl⟩
        rw [etot] at hSl hCl rk
        have RK : Hid _ := rk
        have ET : Hid (C.length = tot) := etot
        have EC : Hid (cand0 F N (acc A lA) u dg = C) := EC
        clear rk etot
        obtain ⟨lb, elb⟩ : ∃ t, (S.take sb).length = t := ⟨_, rfl⟩
        obtain ⟨la, ela⟩ : ∃ t, (S.take sa).length = t := ⟨_, rfl⟩
        have ELB : Hid ((S.take sb).length = lb) := elb
        have ELA : Hid ((S.take sa).length = la) := ela
        rw [List.length_take, hSl] at elb ela
        have LB : Hid (min sb tot = lb) := elb
        have LA : Hid (min sa tot = la) := ela
        have hlb4 : lb ≤ 4096 := by omega
        have hla4 : la ≤ 4096 := by omega
        have hlat : la ≤ lb := by omega
        have hlbt : lb ≤ tot := by omega
        clear elb ela hSl
        go_wp2_with fail
        refine (newGraph_any (.bool true) (.bool true) (.bool true) a0' n c0' (some ⟨f2, 0, none⟩) (n + 1) (n + 1) aN' lN cN' we).mono ?_
        rintro e w2 ⟨rfl, hw2⟩
        have GR : Hid (Graph w2 we.heap.size f2 0 n (n + 1) F aN' lN cN' N) := by
          rw [hw2]
          exact graph_new (Below.refl _ _) hf6 k0 k2 ⟨hcN1, hcN2⟩ CF7.out UP.out TOP.out DN6.out
        have B2 : Hid (Below we.heap.size we w2) := by rw [hw2]; exact (Below.refl _ _).alloc (Nat.le_refl _) _
        clear hw2
        have MA2 : Hid (IsMask w2 aA' lA cA' A) := IsMask.bel MA.out B2.out
        have BW : Hid (Below w.heap.size w w2) := B6.out.trans (B2.out.mono B6.out.size)
        clear B2 MA CF7 DN6 B6 hf6 cu cu1
        generalize we.heap.size = g2 at *
        go_wp2_with fail
        have hcall := zzsocial_any GR.out ADJ.out u hu sb (by omega) aA' lA cA' A MA2.out
        rw [ES] at hcall
        refine Calls.mono hcall ?_
        clear hcall
        rintro e w3 ⟨sv1, v1, rfl, V1, hsv1, B3⟩
        have V1 : Hid _ := V1
        have GR3 : Hid _ := GR.out.bel B3
        have MA3 : Hid (IsMask w3 aA' lA cA' A) := IsMask.bel MA2.out B3
        have BW3 : Hid (Below w.heap.size w w3) := BW.out.trans (B3.mono BW.out.size)
        clear GR MA2 BW B3 hsv1
        go_wp2_with fail
        have hcall := zzsocial_any GR3.out ADJ.out u hu sa (by omega) aA' lA cA' A MA3.out
        rw [ES] at hcall
        refine Calls.mono hcall ?_
        clear hcall ES
        rintro e w4 ⟨sv2, v2, rfl, V2, hsv2, B4⟩
        have V2 : Hid _ := V2
        have V14 : Hid _ := V1.out.bel B4
        have BW4 : Hid (Below w.heap.size w w4) := BW3.out.trans (B4.mono BW3.out.size)
        have GR4 : Hid _ := GR3.out.bel B4
        have MA4 : Hid (IsMask w4 aA' lA cA' A) := IsMask.bel MA3.out B4
        clear V1 B4 GR3 MA3 BW3 hsv2
        go_wp2_with fail
        have hcall := friends_any V14.out (by rw [ELB.out]; exact hlb4)
        refine Calls.mono hcall ?_
        clear hcall
        rintro e w5 ⟨vn1, vc1, vd1, rfl, T1⟩
        obtain ⟨f1, f2', f3⟩ := T1.forms
        have B5 : Hid (Below w4.heap.size w4 w5) := T1.bel
        rw [ELB.out] at f1 f2' f3
        obtain ⟨a1, c1, rfl, C1⟩ := f1
        obtain ⟨a2, c2, rfl, C2⟩ := f2'
        obtain ⟨a3, c3, rfl, C3⟩ := f3
        have C1 : Hid _ := C1
        have C2 : Hid _ := C2
        have C3 : Hid _ := C3
        clear T1
        have V25 : Hid _ := V2.out.bel B5.out
        clear V2 V14
        go_wp2_with fail
        have hcall := friends_any V25.out (by rw [ELA.out]; exact hla4)
        refine Calls.mono hcall ?_
        clear hcall
        rintro e w6 ⟨vn2, vc2, vd2, rfl, T2⟩
        obtain ⟨g1, g2', g3⟩ := T2.forms
        have B6' : Hid (Below w5.heap.size w5 w6) := T2.bel
        rw [ELA.out] at g1 g2' g3
        obtain ⟨a4, c4, rfl, D1⟩ := g1
        obtain ⟨a5, c5, rfl, D2⟩ := g2'
        obtain ⟨a6, c6, rfl, D3⟩ := g3
        have hlbs : lb ≤ sb := by have := LB.out; omega
        have hlas : la ≤ sa := by have := LA.out; omega
        have D1 : Hid (Cells w6 a4 la (fun i => .int .i64 (nth S i).1)) := D1.congr fun i hi => by rw [nth_take (by omega)]
        have D2 : Hid (Cells w6 a5 la (fun i => .int .u64 (nth S i).2.1)) := D2.congr fun i hi => by rw [nth_take (by omega)]
        have D3 : Hid (Cells w6 a6 la (fun i => .int .u64 (nth S i).2.2)) := D3.congr fun i hi => by rw [nth_take (by omega)]
        have C1 : Hid (Cells w6 a1 lb (fun i => .int .i64 (nth S i).1)) := (Cells.bel C1.out B6'.out).congr fun i hi => by rw [nth_take (by omega)]
        have C2 : Hid (Cells w6 a2 lb (fun i => .int .u64 (nth S i).2.1)) := (Cells.bel C2.out B6'.out).congr fun i hi => by rw [nth_take (by omega)]
        have C3 : Hid (Cells w6 a3 lb (fun i => .int .u64 (nth S i).2.2)) := (Cells.bel C3.out B6'.out).congr fun i hi => by rw [nth_take (by omega)]
        have GR6 : Hid _ := (GR4.out.bel B5.out).bel B6'.out
        have MA6 : Hid (IsMask w6 aA' lA cA' A) := IsMask.bel (IsMask.bel MA4.out B5.out) B6'.out
        have BW6 : Hid (Below w.heap.size w w6) := (BW4.out.trans (B5.out.mono BW4.out.size)).trans (B6'.out.mono (Nat.le_trans BW4.out.size B5.out.size))
        clear GR4 MA4 BW4 B5 B6' T2 V25 ELA ELB
        have cw6 : w6.cell? ⟨f2, u, none⟩ = some (.int .i64 (F u : Int)) := by have := GR6.out.hF u (by omega); rwa [Nat.zero_add] at this
        have cu6 : ∀ o : Obj, (w6.alloc o).cell? ⟨f2, u, none⟩ = some (.int .i64 (F u : Int)) := fun o => (((Below.refl w6.heap.size w6).alloc (Nat.le_refl _) o).cell (p := ⟨f2, u, none⟩) GR6.out.bl).trans cw6
        go_wp2
        clear cu6 cw6 mkB
        have NB2 : Hid (Bools (w6.alloc (.cells (madeCells #[.bool false] n) 4)) w6.heap.size n (fun i : Nat => inRow (fun r => N (F u + r)) 0 (i : Int))) := Bools.new w6 n
        have BB2 : Hid (Below w6.heap.size w6 (w6.alloc (.cells (madeCells #[.bool false] n) 4))) := (Below.refl _ _).alloc (Nat.le_refl _) _
        generalize w6.alloc (.cells (madeCells #[.bool false] n) 4) = w7 at *
        go_loopw [32] (fun s32 wr => ∃ p : Nat, s32 = .int .i64 (p : Int) ∧ F u ≤ p ∧ p ≤ F (u + 1) ∧ Hid (Bools wr w6.heap.size n (fun i : Nat => inRow (fun r => N (F u + r)) (p - F u) (i : Int))) ∧ Hid (Below w6.heap.size w6 wr)) (fun s32 _ => ((F (u + 1) : Int) - intOf s32).toNat)
        case atStart => exact ⟨F u, rfl, Nat.le_refl _, hup, (by rw [Nat.sub_self]; exact NB2), BB2⟩
        case round =>
          obtain ⟨p, rfl, hp0, hp1, BK, BR⟩ := hrel
          have GRr : Hid _ := GR6.out.bel BR.out
          have cv1 : wr.cell? ⟨f2, u + 1, none⟩ = some (.int .i64 (F (u + 1) : Int)) := by have := GRr.out.hF (u + 1) (by omega); rwa [Nat.zero_add] at this
          by_cases hlt : p < F (u + 1)
          case pos =>
            obtain ⟨bN, oN, rfl, hbN, hcN⟩ : ∃ b o, aN' = some ⟨b, o, none⟩ ∧ b < wr.heap.size ∧ ∀ i, i < lN → wr.cell? ⟨b, o + i, none⟩ = some (.int .i64 (N i)) := by
              rcases GRr.out.hN with h | h
              · omega
              · exact h
            have cx := hcN p (by omega)
            have hN0 := (ADJ.out u hu).2 (p - F u) (by rw [EDG.out]; have := hf1.out; omega)
            rw [show F u + (p - F u) = p by omega] at hN0
            obtain ⟨xv, hxv⟩ := Int.eq_ofNat_of_zero_le hN0.1
            rw [hxv] at cx hN0
            have hxn : xv < n := by omega
            have sx := BK.out.2.1 xv hxn
            have sf := BK.out.2.2 xv
            have HX : Hid (N (F u + (p - F u)) = (xv : Int)) := by rw [show F u + (p - F u) = p by omega]; exact hxv
            have k1' : (p : Int) < (lN : Int) := by omega
            clear hcN hxv hN0
            as_aux_lemma =>
              go_wp2
              go_roundw
              case rel =>
                refine ⟨p + 1, by go_num, by omega, by omega, ?_, BR.out.setCell (Nat.le_refl _) _⟩
                have h := BK.out.set xv hxn true
                rw [inRow_succ (U := fun r => N (F u + r)) HX.out, show p - F u + 1 = p + 1 - F u by omega] at h
                exact h
              case measure => simp [intOf]; omega
          case neg =>
            obtain rfl : p = F (u + 1) := by omega
            have MKr : Hid (Bools wr w6.heap.size n (fun i : Nat => inRow (fun r => N (F u + r)) dg (i : Int))) := by
              have := BK.out
              rwa [show F (u + 1) - F u = dg by have := hf1.out; omega] at this
            have hd : decide ((F (u + 1) : Int) < (F (u + 1) : Int)) = false := decide_eq_false (by omega)
            have cv0 : wr.cell? ⟨f2, u, none⟩ = some (.int .i64 (F u : Int)) := by have := GRr.out.hF u (by omega); rwa [Nat.zero_add] at this
            clear BK
            go_wp2
            go_quiet (fail)
            go_wp2
            clear cv0 cv1 hd hp0 hp1 hlt NB2 BB2 j6 j7
            have BQ : Below wr.heap.size wr (wr.drewN nq) := ((Gr.refl wr).drewN nq).bel
            have hzr : w6.heap.size ≤ wr.heap.size := BR.out.size
            have BW8 : Hid (Below w.heap.size w (wr.drewN nq)) := (BW6.out.trans (BR.out.mono BW6.out.size)).trans (BQ.mono (Nat.le_trans BW6.out.size hzr))
            have GR8 : Hid (Graph (wr.drewN nq) g2 f2 0 n (n + 1) F aN' lN cN' N) := GRr.out.bel BQ
            have MA8 : Hid (IsMask (wr.drewN nq) aA' lA cA' A) := IsMask.bel (IsMask.bel MA6.out BR.out) BQ
            have MK8 : Hid (Bools (wr.drewN nq) w6.heap.size n (fun i : Nat => inRow (fun r => N (F u + r)) dg (i : Int))) := MKr.out.bel BQ
            have C1 : Hid (Cells (wr.drewN nq) a1 lb (fun i => .int .i64 (nth S i).1)) := Cells.bel (Cells.bel C1.out BR.out) BQ
            have C2 : Hid (Cells (wr.drewN nq) a2 lb (fun i => .int .u64 (nth S i).2.1)) := Cells.bel (Cells.bel C2.out BR.out) BQ
            have C3 : Hid (Cells (wr.drewN nq) a3 lb (fun i => .int .u64 (nth S i).2.2)) := Cells.bel (Cells.bel C3.out BR.out) BQ
            have D1 : Hid (Cells (wr.drewN nq) a4 la (fun i => .int .i64 (nth S i).1)) := Cells.bel (Cells.bel D1.out BR.out) BQ
            have D2 : Hid (Cells (wr.drewN nq) a5 la (fun i => .int .u64 (nth S i).2.1)) := Cells.bel (Cells.bel D2.out BR.out) BQ
            have D3 : Hid (Cells (wr.drewN nq) a6 la (fun i => .int .u64 (nth S i).2.2)) := Cells.bel (Cells.bel D3.out BR.out) BQ
            have hmb : w6.heap.size < (wr.drewN nq).heap.size := MK8.out.1
            have hf8 : f2 < (wr.drewN nq).heap.size := GR8.out.bl
            clear BQ MKr GRr BR MA6 BW6 GR6 hzr
            generalize wr.drewN nq = w8 at *
            generalize w6.heap.size = mb at *
            obtain ⟨i3, hi3, hz30, hz31, hz32⟩ := info_parts info3
            obtain ⟨i22, hi22, hz220, hz221, hz222⟩ := info_parts info22
            go_loopw [34, 35, 36, 37] (fun s34 s35 s36 s37 wr => ∃ p : Nat, s37 = .int .i64 (p : Int) ∧ F u ≤ p ∧ p ≤ F (u + 1) ∧ Hid (Tri3 w8.heap.size w8 wr (cand0 F N (acc A lA) u (p - F u)) s34 s35 s36)) (fun _ _ _ s37 _ => ((F (u + 1) : Int) - intOf s37).toNat)
            case atStart =>
              refine ⟨F u, rfl, Nat.le_refl _, hup, ?_⟩
              rw [Nat.sub_self]
              exact ⟨World.ownsRow_nil _ _ _ _, World.ownsRow_nil _ _ _ _, World.ownsRow_nil _ _ _ _, (fun g h => by cases h), (fun g h => by cases h), (fun g h => by cases h), Below.refl _ _, Nat.le_refl _⟩
            case round =>
              obtain ⟨p, rfl, hp0, hp1, T⟩ := hrel
              have GR9 : Hid (Graph wr g2 f2 0 n (n + 1) F aN' lN cN' N) := GR8.out.bel T.out.bel
              have MK9 : Hid (Bools wr mb n (fun i : Nat => inRow (fun r => N (F u + r)) dg (i : Int))) := MK8.out.bel T.out.bel
              have cv1 : wr.cell? ⟨f2, u + 1, none⟩ = some (.int .i64 (F (u + 1) : Int)) := by have := GR9.out.hF (u + 1) (by omega); rwa [Nat.zero_add] at this
              by_cases hlt : p < F (u + 1)
              case pos =>
                obtain ⟨bN, oN, rfl, hbN, hcN⟩ : ∃ b o, aN' = some ⟨b, o, none⟩ ∧ b < wr.heap.size ∧ ∀ i, i < lN → wr.cell? ⟨b, o + i, none⟩ = some (.int .i64 (N i)) := by
                  rcases GR9.out.hN with h | h
                  · omega
                  · exact h
                have cx := hcN p (by omega)
                have HcN2 : Hid _ := hcN
                have hN0 := (ADJ.out u hu).2 (p - F u) (by rw [EDG.out]; have := hf1.out; omega)
                rw [show F u + (p - F u) = p by omega] at hN0
                obtain ⟨xv, hxv⟩ := Int.eq_ofNat_of_zero_le hN0.1
                rw [hxv] at cx hN0
                have hxn : xv < n := by omega
                have hpd : p - F u < dg := by have := hf1.out; omega
                have HX : Hid (N (F u + (p - F u)) = (xv : Int)) := by rw [show F u + (p - F u) = p by omega]; exact hxv
                have k1' : (p : Int) < (lN : Int) := by omega
                have ACC : Hid (Calls Try.prog 19 #[.slice aA' lA cA', .int .i64 (xv : Int)] wr fun e w' => e = .returned (.bool (acc A lA (xv : Int))) ∧ wr = w') := (accepted_any aA' lA cA' A _ _ (IsMask.bel MA8.out T.out.bel)).mono fun e w' h => ⟨h.1, h.2.symm⟩
                have NO : Hid (acc A lA (xv : Int) = false → cand0 F N (acc A lA) u (p + 1 - F u) = cand0 F N (acc A lA) u (p - F u)) := fun h => by
                  rw [show p + 1 - F u = p - F u + 1 by omega]; exact cand0_no (by rw [HX.out]; exact h)
                have YES : Hid (acc A lA (xv : Int) = true → cand0 F N (acc A lA) u (p + 1 - F u) = cand0 F N (acc A lA) u (p - F u) ++ [((xv : Int), com F N u xv, dg * deg F xv)]) := fun h => by
                  rw [show p + 1 - F u = p - F u + 1 by omega, cand0_yes (by rw [HX.out]; exact h), fr0, HX.out, EDG.out]
                  rfl
                have hLl : (cand0 F N (acc A lA) u (p - F u)).length ≤ 4096 := by have := cand0_length F N (acc A lA) u (p - F u); omega
                clear hcN hxv hN0 HX
                generalize cand0 F N (acc A lA) u (p - F u) = L at *
                generalize acc A lA (xv : Int) = q at ACC NO YES
                go_wp2_with fail
                refine Calls.mono ACC.out ?_
                clear ACC
                rintro e w' ⟨rfl, rfl⟩
                cases q
                · have NN : Hid _ := NO.out rfl
                  clear NO YES
                  as_aux_lemma =>
                    go_wp2
                    go_roundw
                    case rel => exact ⟨p + 1, by go_num, by omega, by omega, by rw [NN.out]; exact T⟩
                    case measure => simp [intOf]; omega
                · have YY : Hid _ := YES.out rfl
                  clear NO YES
                  have cy0 : wr.cell? ⟨f2, xv, none⟩ = some (.int .i64 (F xv : Int)) := by have := GR9.out.hF xv (by omega); rwa [Nat.zero_add] at this
                  have cy1 : wr.cell? ⟨f2, xv + 1, none⟩ = some (.int .i64 (F (xv + 1) : Int)) := by have := GR9.out.hF (xv + 1) (by omega); rwa [Nat.zero_add] at this
                  have i1 : (xv : Int) < (n : Int) + 1 := by omega
                  have i2 : (xv : Int) + 1 < (n : Int) + 1 := by omega
                  have i4 : IntKind.i64.wrap ((xv : Int) + 1) = (xv : Int) + 1 := by rw [IntKind.wrap_i64]; omega
                  have i5 : ((xv : Int) + 1).toNat = xv + 1 := by omega
                  have hupx := UP.out xv hxn
                  have htopx := TOP.out (xv + 1) (by omega)
                  go_wp2
                  go_loop [39, 40] (fun s39 s40 => ∃ q c : Nat, s40 = .int .i64 (q : Int) ∧ F xv ≤ q ∧ q ≤ F (xv + 1) ∧ s39 = .int .u64 (c : Int) ∧ c ≤ 4096 ∧ Hid (cnt (fun r => N (F u + r)) dg (fun i => N (F xv + i)) (q - F xv) = c)) (fun _ s40 => ((F (xv + 1) : Int) - intOf s40).toNat)
                  case atStart => exact ⟨F xv, 0, rfl, Nat.le_refl _, hupx, rfl, Nat.zero_le _, by rw [Nat.sub_self]; rfl⟩
                  case round =>
                    obtain ⟨q, c, rfl, hq0, hq1, rfl, hc4, HC⟩ := hrel
                    by_cases hlq : q < F (xv + 1)
                    case pos =>
                      have cq := HcN2.out q (by omega)
                      have hN1 := (ADJ.out xv hxn).2 (q - F xv) (by unfold deg; omega)
                      rw [show F xv + (q - F xv) = q by omega] at hN1
                      obtain ⟨yv, hyv⟩ := Int.eq_ofNat_of_zero_le hN1.1
                      rw [hyv] at cq hN1
                      have hyn : yv < n := by omega
                      have sm : wr.cell? ⟨mb, yv, none⟩ = some (.bool (inRow (fun r => N (F u + r)) dg (yv : Int))) := MK9.out.2.1 yv hyn
                      have hVq : N (F xv + (q - F xv)) = (yv : Int) := by rw [show F xv + (q - F xv) = q by omega]; exact hyv
                      have CY : Hid (inRow (fun r => N (F u + r)) dg (yv : Int) = true → cnt (fun r => N (F u + r)) dg (fun i => N (F xv + i)) (q + 1 - F xv) = c + 1) := fun h => by
                        rw [show q + 1 - F xv = q - F xv + 1 by omega, cnt_yes (by rw [hVq]; exact h), HC.out]
                      have CN' : Hid (inRow (fun r => N (F u + r)) dg (yv : Int) = false → cnt (fun r => N (F u + r)) dg (fun i => N (F xv + i)) (q + 1 - F xv) = c) := fun h => by
                        rw [show q + 1 - F xv = q - F xv + 1 by omega, cnt_no (by rw [hVq]; exact h), HC.out]
                      have hcl : c + 1 ≤ 4096 := by have := cnt_le (fun r => N (F u + r)) dg (fun i => N (F xv + i)) (q - F xv); rw [HC.out] at this; omega
                      have k2' : (q : Int) < (lN : Int) := by omega
                      clear hVq hyv hN1
                      generalize inRow (fun r => N (F u + r)) dg (yv : Int) = bb at sm CY CN'
                      cases bb
                      · have CC : Hid _ := CN'.out rfl
                        clear CY CN'
                        as_aux_lemma =>
                          go_wp2
                          go_round
                          case rel => exact ⟨q + 1, c, by go_num, by omega, by omega, rfl, hc4, CC.out⟩
                          case measure => simp [intOf]; omega
                      · have CC : Hid _ := CY.out rfl
                        clear CY CN'
                        have e1 : IntKind.u64.wrap ((c : Int) + 1) = ((c + 1 : Nat) : Int) := by rw [IntKind.wrap_u64]; omega
                        as_aux_lemma =>
                          go_wp2
                          go_round
                          case rel => exact ⟨q + 1, c + 1, by go_num, by omega, by omega, by go_num, hcl, CC.out⟩
                          case measure => simp [intOf]; omega
                    case neg =>
                      obtain rfl : q = F (xv + 1) := by omega
                      have COM : Hid (com F N u xv = c) := by
                        show _ = _
                        unfold com
                        rw [← HC.out, show F (u + 1) - F u = dg by have := hf1.out; omega]
                      have hd : decide ((F (xv + 1) : Int) < (F (xv + 1) : Int)) = false := decide_eq_false (by omega)
                      obtain ⟨k, ek⟩ : ∃ k, L.length = k := ⟨_, rfl⟩
                      rw [ek] at hLl
                      have O34 : Hid (wr.ownsRow w8.heap.size 3 1 u34 k (ns L)) := by rw [← ek]; exact T.out.n
                      have O35 : Hid (wr.ownsRow w8.heap.size 22 1 u35 k (cs L)) := by rw [← ek]; exact T.out.c
                      have O36 : Hid (wr.ownsRow w8.heap.size 22 1 u36 k (ds L)) := by rw [← ek]; exact T.out.d
                      have EK : Hid (L.length = k) := ek
                      clear ek
                      have hle := T.out.le
                      have NC : Hid (Apart u35 u34) := T.out.nc.symm
                      have ND : Hid (Apart u36 u34) := T.out.nd.symm
                      have CD : Hid (Apart u35 u36) := T.out.cd
                      have K34 : Hid (∀ g, u34.ownBlock = some g → w8.heap.size ≤ g) := fun g hg => (O34.out.lt g hg).1
                      have K35 : Hid (∀ g, u35.ownBlock = some g → w8.heap.size ≤ g) := fun g hg => (O35.out.lt g hg).1
                      have K36 : Hid (∀ g, u36.ownBlock = some g → w8.heap.size ≤ g) := fun g hg => (O36.out.lt g hg).1
                      have CG : Hid (∀ W, Below w8.heap.size w8 W → W.cell? ⟨f2, xv, none⟩ = some (.int .i64 (F xv : Int)) ∧ W.cell? ⟨f2, xv + 1, none⟩ = some (.int .i64 (F (xv + 1) : Int))) := fun W hW => by
                        have h1 := (GR8.out.bel hW).hF xv (by omega)
                        have h2 := (GR8.out.bel hW).hF (xv + 1) (by omega)
                        rw [Nat.zero_add] at h1 h2
                        exact ⟨h1, h2⟩
                      go_wp2_with (first
                        | (at_builtin; refine wpList_append_own_at _ rfl (.tmp 236) (.tmp 238) 23 rfl w8.heap.size 3 i3 (.int .i64 0) 1 8 Try.underlying23 hi3 hz30 hz31 hz32 rfl (by decide) u34 k (ns L) rfl (O34.out.alloc _) ⟨wr.heap.size, 0, none⟩ 1 1 [.int .i64 (xv : Int)] rfl rfl (cell_one_new _ _ _) (one_mem _ rfl) (by unfold maxLen; omega) (by omega) (by simp; omega) ?_; intro v1 w1 o1 g1 _ b1; obtain ⟨m35, p35, m36, p36, bl1, z1⟩ := mid2 (O35.out.alloc _) (O36.out.alloc _) NC.out ND.out g1 b1 (T.out.bel.alloc hle _) (by simp; omega) K34.out; have o1 : Hid (w1.ownsRow w8.heap.size 3 1 v1 (k + 1) (ns L ++ [.int .i64 (xv : Int)])) := o1; clear g1 b1)
                        | (at_builtin; refine wpList_append_own_at _ rfl (.tmp 240) (.tmp 242) 35 rfl w8.heap.size 22 i22 (.int .u64 0) 1 8 Try.underlying35 hi22 hz220 hz221 hz222 rfl (by decide) u35 k (cs L) rfl (m35.out.alloc _) ⟨w1.heap.size, 0, none⟩ 1 1 [.int .u64 (c : Int)] rfl rfl (cell_one_new _ _ _) (one_mem _ rfl) (by unfold maxLen; omega) (by omega) (by simp; omega) ?_; intro v2 w2 o2 g2' _ b2; obtain ⟨m34, q34, m36', q36, bl2, z2⟩ := mid2 (o1.out.alloc _) (m36.out.alloc _) p35.out.symm CD.out.symm g2' b2 (bl1.out.alloc z1 _) (by simp; omega) K35.out; have o2 : Hid (w2.ownsRow w8.heap.size 22 1 v2 (k + 1) (cs L ++ [.int .u64 (c : Int)])) := o2; clear g2' b2))
                      obtain ⟨cz0, cz1⟩ := CG.out _ bl2.out
                      obtain ⟨dv, edv⟩ : ∃ dv, deg F xv = dv := ⟨_, rfl⟩
                      obtain ⟨dd, edd⟩ : ∃ dd, dg * dv = dd := ⟨_, rfl⟩
                      have hdv : dv ≤ 4096 := by rw [← edv]; exact DEG.out xv hxn
                      have z1' : IntKind.i64.wrap ((F (xv + 1) : Int) - (F xv : Int)) = (dv : Int) := by
                        rw [IntKind.wrap_i64]; unfold deg at edv; omega
                      have z2' : IntKind.u64.wrap (dv : Int) = (dv : Int) := M64.wrapN _ (by omega)
                      have z3' : IntKind.u64.wrap ((dg : Int) * (dv : Int)) = (dd : Int) := by
                        have := Nat.mul_le_mul hdg0 hdv
                        rw [M64.mulN, edd, M64.wrapN _ (by omega)]
                      have EDV : Hid (dg * deg F xv = dd) := by show _ = _; rw [edv, edd]
                      clear edv edd cy0 cy1
                      have i6 : (0 : Int) ≤ (xv : Int) + 1 := by omega
                      have i7 : (0 : Int) ≤ (xv : Int) := by omega
                      go_region_law (refine step_append_lies _ (by rfl) (.tmp 244) (.tmp 258) 35 (by rfl) w8.heap.size 22 i22 (.int .u64 0) 1 8 Try.underlying35 hi22 hz220 hz221 hz222 rfl (by decide) u36 k (ds L) (by rfl) ((m36'.out.drew).alloc _) ⟨w2.heap.size, 0, none⟩ 1 1 [.int .u64 (dd : Int)] (by rfl) (by rfl) (World.news_of_block (cs := #[.int .u64 (dd : Int)]) (t := 22) (fr := (0, 0)) (heap_alloc_new w2.drew _)) (one_mem _ rfl) (by omega) (by unfold maxLen; omega) (by omega) (by simp; omega) (w2.heap.size + 1) (by simp) ?_; intro gg cap w3 hown3 hgrow hat hlt3)
                      all_goals
                        have b3 : (Value.slice (some ⟨gg, 0, none⟩) (k + 1) cap).ownBlock = u36.ownBlock ∨ (Value.slice (some ⟨gg, 0, none⟩) (k + 1) cap).ownBlock = some (w2.drew.alloc (.cells #[.int .u64 (dd : Int)] 22)).heap.size := by
                          rcases hat with h | h
                          · left; rw [h]; rfl
                          · right; rw [h]; simp [Value.ownBlock]
                        obtain ⟨r34, s34', r35, s35', bl3, z3⟩ := mid2 ((m34.out.drew).alloc _) ((o2.out.drew).alloc _) p36.out.symm q36.out.symm hgrow b3 ((bl2.out.drew).alloc z2 _) (by simp; omega) K36.out
                        have hown3 : Hid (w3.ownsRow w8.heap.size 22 1 (.slice (some ⟨gg, 0, none⟩) (k + 1) cap) (k + 1) (ds L ++ [.int .u64 (dd : Int)])) := hown3
                        clear hgrow b3 hat cz0 cz1
                        as_aux_lemma =>
                          go_wp2
                          go_roundw
                          case rel =>
                            refine ⟨p + 1, by go_num, by omega, by omega, ?_⟩
                            rw [YY.out, COM.out, EDV.out]
                            have e0 : (L ++ [((xv : Int), c, dd)]).length = k + 1 := by rw [List.length_append, EK.out]; rfl
                            have e1 : ns (L ++ [((xv : Int), c, dd)]) = ns L ++ [.int .i64 (xv : Int)] := by simp [ns]
                            have e2 : cs (L ++ [((xv : Int), c, dd)]) = cs L ++ [.int .u64 (c : Int)] := by simp [cs]
                            have e3 : ds (L ++ [((xv : Int), c, dd)]) = ds L ++ [.int .u64 (dd : Int)] := by simp [ds]
                            exact ⟨by rw [e0, e1]; exact r34.out, by rw [e0, e2]; exact r35.out, by rw [e0, e3]; exact hown3.out, q34.out, s34'.out, s35'.out, bl3.out, z3⟩
                          case measure => simp [intOf]; omega
              case neg =>
                obtain rfl : p = F (u + 1) := by omega
                have hd : decide ((F (u + 1) : Int) < (F (u + 1) : Int)) = false := decide_eq_false (by omega)
                have T' : Hid (Tri3 w8.heap.size w8 wr C u34 u35 u36) := by
                  have := T.out
                  rwa [show F (u + 1) - F u = dg by have := hf1.out; omega, EC.out] at this
                obtain ⟨x1, x2, x3⟩ := T'.out.forms
                rw [ET.out] at x1 x2 x3
                have BT : Hid (Below w8.heap.size w8 wr) := T'.out.bel
                obtain ⟨a7, c7, rfl, E1⟩ := x1
                obtain ⟨a8, c8, rfl, E2⟩ := x2
                obtain ⟨a9, c9, rfl, E3⟩ := x3
                have E1 : Hid (Cells wr a7 tot (fun i => .int .i64 (nth C i).1)) := E1
                have E2 : Hid (Cells wr a8 tot (fun i => .int .u64 (nth C i).2.1)) := E2
                have E3 : Hid (Cells wr a9 tot (fun i => .int .u64 (nth C i).2.2)) := E3
                have C1 : Hid (Cells wr a1 lb (fun i => .int .i64 (nth S i).1)) := Cells.bel C1.out BT.out
                have C2 : Hid (Cells wr a2 lb (fun i => .int .u64 (nth S i).2.1)) := Cells.bel C2.out BT.out
                have C3 : Hid (Cells wr a3 lb (fun i => .int .u64 (nth S i).2.2)) := Cells.bel C3.out BT.out
                have D1 : Hid (Cells wr a4 la (fun i => .int .i64 (nth S i).1)) := Cells.bel D1.out BT.out
                have D2 : Hid (Cells wr a5 la (fun i => .int .u64 (nth S i).2.1)) := Cells.bel D2.out BT.out
                have D3 : Hid (Cells wr a6 la (fun i => .int .u64 (nth S i).2.2)) := Cells.bel D3.out BT.out
                have BW9 : Hid (Below w.heap.size w wr) := BW8.out.trans (BT.out.mono BW8.out.size)
                clear T T' BT BW8 GR8 GR9 MK8 MK9 MA8 hi3 hz30 hz31 hz32 hi22 hz220 hz221 hz222
                go_upto_if 265 with fail
                clear hd cv1
                go_cut [42] from 265 to 266 (fun s42 wc => s42 = .int .i64 (lb : Int) ∧ wr = wc)
                case first =>
                  by_cases hbt : sb < tot
                  · have hz : decide ((sb : Int) < (tot : Int)) = true := decide_eq_true (by omega)
                    have hl : lb = sb := by have := LB.out; omega
                    have HL : Hid _ := hl
                    clear hl
                    go_wp2
                    go_meet
                    case rel => exact ⟨by rw [HL.out], rfl⟩
                  · have hz : decide ((sb : Int) < (tot : Int)) = false := decide_eq_false (by omega)
                    have hl : lb = tot := by have := LB.out; omega
                    have HL : Hid _ := hl
                    clear hl
                    go_wp2
                    go_meet
                    case rel => exact ⟨by rw [HL.out], rfl⟩
                case rest =>
                  obtain ⟨rfl, rfl⟩ := hcut
                  have y1 : ((sb : Int) != (sb : Int)) = false := by simp
                  have y2 : ((lb : Int) != (lb : Int)) = false := by simp
                  go_wp2
                  clear y1 y2
                  generalize wr = w9 at *
                  go_loopw [43] (fun s43 wz => ∃ x m : Nat, s43 = .int .i64 (x : Int) ∧ x ≤ tot ∧ wz = w9.drewN m) (fun s43 _ => ((tot : Int) - intOf s43).toNat)
                  case atStart => exact ⟨0, 0, rfl, Nat.zero_le _, rfl⟩
                  case round =>
                    obtain ⟨x, m, rfl, hx, rfl⟩ := hrel
                    by_cases hlt : x < tot
                    case pos =>
                      have hxC : x < C.length := by rw [ET.out]; exact hlt
                      obtain ⟨b7, o7, rfl, _, h7⟩ := E1.out.at hlt
                      obtain ⟨b8, o8, rfl, _, h8⟩ := E2.out.at hlt
                      obtain ⟨b9, o9, rfl, _, h9⟩ := E3.out.at hlt
                      have H7 : Hid _ := h7
                      have H8 : Hid _ := h8
                      have H9 : Hid _ := h9
                      have x7 := h7 x hlt
                      have x8 := h8 x hlt
                      have x9 := h9 x hlt
                      have SX : Hid (Small (nth C x)) := (SM.out _ (nth_mem hxC)).1
                      have RX : Hid _ := RK.out x hlt
                      have IRX : Hid (∀ y, y = x → ¬ clo (nth C y) (nth C x) < 0) := fun y e => by rw [e]; exact clo_irrefl _
                      clear h7 h8 h9 hxC
                      generalize nth C x = X at x7 x8 x9 SX RX IRX
                      obtain ⟨xn, xc, xd⟩ := X
                      simp only at x7 x8 x9
                      go_wp2
                      go_loopw [44, 45] (fun s44 s45 wz => ∃ y r m : Nat, s45 = .int .i64 (y : Int) ∧ y ≤ tot ∧ s44 = .int .i64 (r : Int) ∧ r ≤ y ∧ wz = w9.drewN m ∧ Hid (upto C (fun z => decide (clo z (xn, xc, xd) < 0)) y = r)) (fun _ s45 _ => ((tot : Int) - intOf s45).toNat)
                      case atStart => exact ⟨0, 0, m, rfl, Nat.zero_le _, rfl, Nat.le_refl _, rfl, by show _ = _; simp [upto]⟩
                      case round =>
                        clear m
                        obtain ⟨y, r, m, rfl, hy, rfl, hry, rfl, HU⟩ := hrel
                        by_cases hly : y < tot
                        case pos =>
                          have hyC : y < C.length := by rw [ET.out]; exact hly
                          by_cases hyx : y = x
                          · have g1 : ((y : Int) != (x : Int)) = false := by simp [hyx]
                            have UN : Hid (upto C (fun z => decide (clo z (xn, xc, xd) < 0)) (y + 1) = r) := (upto_no hyC (decide_eq_false (by have := IRX.out y hyx; omega))).trans HU.out
                            clear hyx hyC
                            as_aux_lemma =>
                              go_wp2
                              go_quiet (fail)
                              go_wp2
                              go_roundw
                              case rel => exact ⟨y + 1, r, m + nq, by go_num, by omega, rfl, by omega, by simp, UN.out⟩
                              case measure => simp [intOf]; omega
                          · have g1 : ((y : Int) != (x : Int)) = true := by simp; omega
                            have y7 := H7.out y hly
                            have y8 := H8.out y hly
                            have y9 := H9.out y hly
                            have SY : Hid (Small (nth C y)) := (SM.out _ (nth_mem hyC)).1
                            have UNO : Hid (decide (clo (nth C y) (xn, xc, xd) < 0) = false → upto C (fun z => decide (clo z (xn, xc, xd) < 0)) (y + 1) = r) := fun h => (upto_no hyC h).trans HU.out
                            have UYES : Hid (decide (clo (nth C y) (xn, xc, xd) < 0) = true → upto C (fun z => decide (clo z (xn, xc, xd) < 0)) (y + 1) = r + 1) := fun h => by rw [upto_yes hyC h, HU.out]
                            clear hyx hyC
                            generalize nth C y = Y at y7 y8 y9 SY UNO UYES
                            obtain ⟨yn, yc, yd⟩ := Y
                            simp only at y7 y8 y9
                            have CT : Hid (∀ W, Calls Try.prog 20 #[.int .i64 yn, .int .u64 (yc : Int), .int .u64 (yd : Int), .int .i64 xn, .int .u64 (xc : Int), .int .u64 (xd : Int)] W fun e w' => e = .returned (.bool (decide (clo (yn, yc, yd) (xn, xc, xd) < 0))) ∧ w' = W) := fun W => closerThan_any (yn, yc, yd) (xn, xc, xd) SY.out SX.out W
                            generalize decide (clo (yn, yc, yd) (xn, xc, xd) < 0) = bb at CT UNO UYES
                            have k1' : (y : Int) < (tot : Int) := by omega
                            have k2' : (x : Int) < (tot : Int) := by omega
                            have k3' : (0 : Int) ≤ (y : Int) := by omega
                            have k4' : (0 : Int) ≤ (x : Int) := by omega
                            cases bb
                            · have UN : Hid _ := UNO.out rfl
                              clear UNO UYES
                              as_aux_lemma =>
                                go_wp2
                                go_quiet ((go_at_call 20; exact (CT.out _).mono fun _ _ h => ⟨h.1, _, h.2⟩))
                                go_wp2
                                go_roundw
                                case rel => exact ⟨y + 1, r, m + nq, by go_num, by omega, rfl, by omega, by simp, UN.out⟩
                                case measure => simp [intOf]; omega
                            · have UN : Hid _ := UYES.out rfl
                              clear UNO UYES
                              as_aux_lemma =>
                                go_wp2
                                go_quiet ((go_at_call 20; exact (CT.out _).mono fun _ _ h => ⟨h.1, _, h.2⟩))
                                go_wp2
                                go_roundw
                                case rel => exact ⟨y + 1, r + 1, m + nq, by go_num, by omega, by go_num, by omega, by simp, UN.out⟩
                                case measure => simp [intOf]; omega
                        case neg =>
                          obtain rfl : tot = y := by omega
                          have hd : decide ((tot : Int) < (tot : Int)) = false := decide_eq_false (by omega)
                          by_cases hr : r < lb
                          case neg =>
                            have hz : decide ((r : Int) < (lb : Int)) = false := decide_eq_false (by omega)
                            as_aux_lemma =>
                              go_wp2
                              go_roundw
                              case rel => exact ⟨x + 1, m, by go_num, by omega, rfl⟩
                              case measure => simp [intOf]; omega
                          case pos =>
                            have hz : decide ((r : Int) < (lb : Int)) = true := decide_eq_true (by omega)
                            have hnth : nth S r = norm (xn, xc, xd) := by
                              have := RX.out.2
                              rwa [HU.out] at this
                            obtain ⟨b1', o1', rfl, _, h1⟩ := C1.out.at hr
                            obtain ⟨b2', o2', rfl, _, h2⟩ := C2.out.at hr
                            obtain ⟨b3', o3', rfl, _, h3⟩ := C3.out.at hr
                            have e1 := h1 r hr
                            have e2 := h2 r hr
                            have e3 := h3 r hr
                            rw [hnth] at e1 e2 e3
                            simp only [norm] at e1 e2 e3
                            clear h1 h2 h3 hnth
                            have n1 : (xn != xn) = false := by simp
                            have n2 : ((xc : Int) != (xc : Int)) = false := by simp
                            have k1' : (r : Int) < (lb : Int) := by omega
                            have k2' : (x : Int) < (tot : Int) := by omega
                            have k3' : (0 : Int) ≤ (r : Int) := by omega
                            have k4' : (0 : Int) ≤ (x : Int) := by omega
                            by_cases hc : xc = 0
                            · subst hc
                              have q1' : ((0 : Nat) : Int) = 0 := rfl
                              have n3 : ((1 : Int) != 1) = false := by decide
                              rw [if_pos rfl] at e3
                              as_aux_lemma =>
                                go_wp2
                                go_quiet (fail)
                                go_wp2
                                go_roundw
                                case rel => exact ⟨x + 1, m + nq, by go_num, by omega, by simp⟩
                                case measure => simp [intOf]; omega
                            · rw [if_neg hc] at e3
                              have q1' : ((xc : Int) == 0) = false := by simp [hc]
                              have n3 : ((xd : Int) != (xd : Int)) = false := by simp
                              clear hc
                              as_aux_lemma =>
                                go_wp2
                                go_quiet (fail)
                                go_wp2
                                go_roundw
                                case rel => exact ⟨x + 1, m + nq, by go_num, by omega, by simp⟩
                                case measure => simp [intOf]; omega
                    case neg =>
                      obtain rfl : tot = x := by omega
                      have hd : decide ((tot : Int) < (tot : Int)) = false := decide_eq_false (by omega)
                      go_upto_if 373 with fail
                      clear hd
                      go_cut [47] from 373 to 374 (fun s47 wc => s47 = .int .i64 (la : Int) ∧ w9.drewN m = wc)
                      case first =>
                        by_cases hbt : sa < lb
                        · have hz : decide ((sa : Int) < (lb : Int)) = true := decide_eq_true (by omega)
                          have hl : la = sa := by have := LA.out; omega
                          have HL : Hid _ := hl
                          clear hl
                          go_wp2
                          go_meet
                          case rel => exact ⟨by rw [HL.out], rfl⟩
                        · have hz : decide ((sa : Int) < (lb : Int)) = false := decide_eq_false (by omega)
                          have hl : la = lb := by have := LA.out; have := LB.out; omega
                          have HL : Hid _ := hl
                          clear hl
                          go_wp2
                          go_meet
                          case rel => exact ⟨by rw [HL.out], rfl⟩
                      case rest =>
                        obtain ⟨rfl, rfl⟩ := hcut
                        have y1 : ((sa : Int) != (sa : Int)) = false := by simp
                        have y2 : ((la : Int) != (la : Int)) = false := by simp
                        go_wp2
                        clear y1 y2
                        go_loopw [48] (fun s48 wz => ∃ r m : Nat, s48 = .int .i64 (r : Int) ∧ r ≤ la ∧ wz = w9.drewN m) (fun s48 _ => ((la : Int) - intOf s48).toNat)
                        case atStart => exact ⟨0, m, rfl, Nat.zero_le _, rfl⟩
                        case round =>
                          clear m
                          obtain ⟨r, m, rfl, hr, rfl⟩ := hrel
                          by_cases hlt : r < la
                          case neg =>
                            obtain rfl : la = r := by omega
                            have hd : decide ((la : Int) < (la : Int)) = false := decide_eq_false (by omega)
                            go_wp2
                            go_ret
                            exact ⟨rfl, (((Gr.refl w9).drewN m).bel.mono BW9.out.size |> BW9.out.trans)⟩
                          case pos =>
                            obtain ⟨b1', o1', rfl, _, h1⟩ := C1.out.at (show r < lb by omega)
                            obtain ⟨b2', o2', rfl, _, h2⟩ := C2.out.at (show r < lb by omega)
                            obtain ⟨b3', o3', rfl, _, h3⟩ := C3.out.at (show r < lb by omega)
                            obtain ⟨b4', o4', rfl, _, h4⟩ := D1.out.at hlt
                            obtain ⟨b5', o5', rfl, _, h5⟩ := D2.out.at hlt
                            obtain ⟨b6', o6', rfl, _, h6⟩ := D3.out.at hlt
                            have e1 := h1 r (by omega)
                            have e2 := h2 r (by omega)
                            have e3 := h3 r (by omega)
                            have e4 := h4 r hlt
                            have e5 := h5 r hlt
                            have e6 := h6 r hlt
                            clear h1 h2 h3 h4 h5 h6
                            generalize nth S r = z at e1 e2 e3 e4 e5 e6
                            obtain ⟨zn, zc, zd⟩ := z
                            simp only at e1 e2 e3 e4 e5 e6
                            have n1 : (zn != zn) = false := by simp
                            have n2 : ((zc : Int) != (zc : Int)) = false := by simp
                            have n3 : ((zd : Int) != (zd : Int)) = false := by simp
                            have k1' : (r : Int) < (lb : Int) := by omega
                            have k2' : (r : Int) < (la : Int) := by omega
                            have k3' : (0 : Int) ≤ (r : Int) := by omega
                            as_aux_lemma =>
                              go_wp2
                              go_quiet (fail)
                              go_wp2
                              go_roundw
                              case rel => exact ⟨r + 1, m + nq, by go_num, by omega, by simp⟩
                              case measure => simp [intOf]; omega
end Go.Proofs.Qxb6615739a
