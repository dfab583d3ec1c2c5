import Derived.Test.Qxb6608766aLaw5
namespace Go.Proofs.Qxb6608766a
open Go.RowKit
set_option linter.unusedSimpArgs false
set_option linter.unusedVariables false

theorem find_ok {K X : Nat → Int} {n : Nat} {L : List Tr} (h : Lists K X n L) {t : Int} (ht : Met X n t) : (find L t).2 = true := by rw [find_met h ht]
theorem Lists.met {K X : Nat → Int} {n : Nat} {L : List Tr} (h : Lists K X n L) {k : Nat} {x o : Int} (hk : L[k]? = some (x, o)) : Met X n x := ((h.mem x o).1 (List.mem_of_getElem? hk)).1
theorem want_cases {K X : Nat → Int} {c m : Nat} {Lf Rt L : List Tr} (hl : Lists K X c Lf) (hr : Lists (fun i => K (c + i)) (fun i => X (c + i)) m Rt) (h : Lists K X (c + m) L) {k : Nat} {x o : Int} (hk : L[k]? = some (x, o)) :
    ((find Lf x).2 = true ∨ (find Rt x).2 = true) ∧ o = want (find Lf x) (find Rt x) := by
  have w := want_eq hl hr (h.met hk)
  refine ⟨?_, ?_⟩
  · have := w.1
    cases h1 : (find Lf x).2
    · rw [h1] at this; right; simpa using this
    · left; rfl
  · rw [w.2]; exact h.val hk
def LawPost (w : World) (e : Ending) (w' : World) : Prop := e = .returned (.bool true) ∧ Below w.heap.size w w'
set_option maxHeartbeats 4000000 in
set_option maxRecDepth 100000 in
theorem compose_walk (a : Option Addr) (n c : Nat) (X : Nat → Int) (ak : Option Addr) (l ck : Nat) (Z : Nat → Int) (ci : Int) (w : World) (hX : Cells w a n (fun i => .int .i64 (X i))) (hZ : Cells w ak l (fun i => .int .u8 (Z i))) (hn : n ≤ 9223372036854775807) (hl : l ≤ 9223372036854775807) (hwf : ∀ i, i < n → (Lit.int .i64 (X i)).wf = true) :
    Calls Try.prog 5 #[.slice a n c, .slice ak l ck, .int .i64 ci] w (LawPost w) := by
  have HX : Hid (Cells w a n (fun i => .int .i64 (X i))) := hX
  have HZ : Hid (Cells w ak l (fun i => .int .u8 (Z i))) := hZ
  have HW : Hid (∀ i, i < n → (Lit.int .i64 (X i)).wf = true) := hwf
  clear hX hZ hwf
  go_enter Try.func5, Try.ntmps5
  go_wp2_with fail
  refine (zzBytes15_any a n c ak l ck ci w hn hl).mono ?_
  rintro e w' ⟨r, rfl, rfl⟩
  cases r
  · go_wp2
    go_ret
    exact ⟨rfl, Below.refl _ _⟩
  by_cases k0 : n ≤ 4096
  case neg =>
    go_wp2
    go_ret
    exact ⟨rfl, Below.refl _ _⟩
  by_cases k1 : l ≤ 4096
  case neg =>
    go_wp2
    go_ret
    exact ⟨rfl, Below.refl _ _⟩
  by_cases q0 : ci < 0
  case pos =>
    go_wp2
    go_ret
    exact ⟨rfl, Below.refl _ _⟩
  by_cases q1 : (n : Int) < ci
  case pos =>
    go_wp2
    go_ret
    exact ⟨rfl, Below.refl _ _⟩
  obtain ⟨cut, rfl⟩ := Int.eq_ofNat_of_zero_le (show 0 ≤ ci by omega)
  have hcut : cut ≤ n := by omega
  go_wp2_with fail
  refine Calls.mono (buildOps_any a n c X ak l ck Z w HX.out HZ.out k0 k1) ?_
  rintro e w1 ⟨ob, rfl, hob, hOB, B1⟩
  have OB : Hid (OpsB w1 ob n (kd Z l) X) := hOB
  have B1 : Hid (Below w.heap.size w w1) := B1
  have hob1 : ob < w1.heap.size := hOB.1
  clear hOB
  go_wp2_with fail
  have hO1 : OpsIn w1 ob 0 n (kd Z l) X := by
    have := OB.out.opsIn 0 n (by omega)
    simpa using this
  have h1 := box_tx w1 ob 0 n n (kd Z l) X hob1 hO1 k0 HW.out
  refine Calls.mono h1 ?_
  clear h1 hO1
  rintro e w2 ⟨aW, cW, lW, LW, rfl, hlW, hlWn, hLW, hAW, hCW, _, bW⟩
  obtain ⟨bb, bb'⟩ := bel_box B1.out bW
  have B2 : Hid (Below w.heap.size w w2) := bb
  have OB2 : Hid (OpsB w2 ob n (kd Z l) X) := OB.out.bel bb'
  have hob2 : ob < w2.heap.size := OB2.out.1
  have EW : Hid (LW.length = lW) := hlW
  have LWh : Hid (Lists (kd Z l) X n LW) := hLW
  have AWh : Hid (AscT LW) := hAW
  have CW : Hid (TrC w2 (.slice aW lW cW) LW) := hCW
  clear hLW hAW hCW bW bb bb' B1 OB hlW
  go_wp2_with fail
  have hO2 : OpsIn w2 ob 0 cut (kd Z l) X := by
    have := OB2.out.opsIn 0 cut (by omega)
    simpa using this
  have h1 := box_tx w2 ob 0 cut n (kd Z l) X hob2 hO2 (by omega) (fun i hi => HW.out i (by omega))
  refine Calls.mono h1 ?_
  clear h1 hO2
  rintro e w3 ⟨aL, cL, lL, LL, rfl, hlL, hlLn, hLL, hAL, hCL, _, bL⟩
  obtain ⟨bb, bb'⟩ := bel_box B2.out bL
  have B3 : Hid (Below w.heap.size w w3) := bb
  have OB3 : Hid (OpsB w3 ob n (kd Z l) X) := OB2.out.bel bb'
  have hob3 : ob < w3.heap.size := OB3.out.1
  have EL : Hid (LL.length = lL) := hlL
  have LLh : Hid (Lists (kd Z l) X cut LL) := hLL
  have CL : Hid (TrC w3 (.slice aL lL cL) LL) := hCL
  have CW3 : Hid (TrC w3 (.slice aW lW cW) LW) := TrC.bel CW.out bb'
  clear hLL hAL hCL bL bb bb' B2 OB2 CW hlL
  obtain ⟨ro, hro, hsl⟩ := slice_from ob n cut hcut k0
  have HRO : Hid (ro = cut * 7 ∨ n - cut = 0) := hro
  clear hro
  obtain ⟨m, em⟩ : ∃ m, n - cut = m := ⟨_, rfl⟩
  have EM : Hid (n = cut + m) := by show n = cut + m; omega
  have hmn : m ≤ 4096 := by omega
  rw [em] at HRO hsl
  clear em
  go_wp2_with fail
  clear hsl
  have hO3 : OpsIn w3 ob ro m (fun i => kd Z l (cut + i)) (fun i => X (cut + i)) := by
    rcases HRO.out with h2 | h2
    · rw [h2]; exact OB3.out.opsIn cut m (by rw [EM.out]; omega)
    · intro i hi; omega
  have h1 := box_tx w3 ob ro m m (fun i => kd Z l (cut + i)) (fun i => X (cut + i)) hob3 hO3 hmn (fun i hi => HW.out (cut + i) (by rw [EM.out]; omega))
  refine Calls.mono h1 ?_
  clear h1 hO3
  rintro e w4 ⟨aR, cR, lR, LR, rfl, hlR, hlRn, hLR, hAR, hCR, _, bR⟩
  obtain ⟨bb, bb'⟩ := bel_box B3.out bR
  have B4 : Hid (Below w.heap.size w w4) := bb
  have ER : Hid (LR.length = lR) := hlR
  have LRh : Hid (Lists (fun i => kd Z l (cut + i)) (fun i => X (cut + i)) m LR) := hLR
  have CR : Hid (TrC w4 (.slice aR lR cR) LR) := hCR
  have CL4 : Hid (TrC w4 (.slice aL lL cL) LL) := TrC.bel CL.out bb'
  have CW4 : Hid (TrC w4 (.slice aW lW cW) LW) := TrC.bel CW3.out bb'
  have HX4 : Hid (Cells w4 a n (fun i => .int .i64 (X i))) := Cells.bel HX.out bb
  clear hLR hAR hCR bR bb bb' B3 OB3 CL CW3 hlR HX HZ HRO hob hob1 hob2 hob3
  have hlL4 : lL ≤ 4096 := by omega
  have hlW4 : lW ≤ 4096 := by omega
  have hlR4 : lR ≤ 4096 := by omega
  go_wp2
  go_loopw [11] (fun s wr => ∃ k : Nat, s = .int .i64 (k : Int) ∧ 1 ≤ k ∧ k ≤ 4097 ∧ Hid (Below w4.heap.size w4 wr)) (fun s _ => ((lW : Int) - intOf s).toNat)
  case atStart => exact ⟨1, rfl, Nat.le_refl _, by omega, Below.refl _ _⟩
  case round =>
    obtain ⟨k, rfl, hk1, hk2, BR⟩ := hrel
    by_cases hlt : k < lW
    · obtain ⟨j, ej⟩ : ∃ j, k = j + 1 := ⟨k - 1, by omega⟩
      obtain ⟨b, x, y, rfl, hxy, c0, c1⟩ := tr_two (TrC.bel CW4.out BR.out) EW.out AWh.out (show j + 1 < lW by omega)
      have hw : IntKind.i64.wrap ((k : Int) - 1) = (j : Int) := by rw [IntKind.wrap_i64]; omega
      have hj : (j : Int) < lW := by omega
      rw [← ej] at c1
      have hyx : decide (y ≤ x) = false := decide_eq_false (by omega)
      clear hxy ej
      go_wp2
      go_quiet (fail)
      go_wp2
      go_roundw
      case rel => exact ⟨k + 1, by go_num, by omega, by omega, below_drewN BR.out _⟩
      case measure => simp [intOf] <;> omega
    · have hle : lW ≤ k := by omega
      have CRr : Hid (TrC wr (.slice aR lR cR) LR) := TrC.bel CR.out BR.out
      have CLr : Hid (TrC wr (.slice aL lL cL) LL) := TrC.bel CL4.out BR.out
      have CWr : Hid (TrC wr (.slice aW lW cW) LW) := TrC.bel CW4.out BR.out
      have HXr : Hid (Cells wr a n (fun i => .int .i64 (X i))) := Cells.bel HX4.out BR.out
      have Br : Hid (Below w.heap.size w wr) := B4.out.trans (BR.out.mono B4.out.size)
      clear CR CL4 CW4 HX4 B4 BR hk1 hk2
      go_wp2
      go_loop [12] (fun s => ∃ k : Nat, s = .int .i64 (k : Int) ∧ k ≤ n) (fun s => ((n : Int) - intOf s).toNat)
      case atStart => exact ⟨0, rfl, Nat.zero_le _⟩
      case round =>
        obtain ⟨k, rfl, hk⟩ := hrel
        by_cases hlt : k < n
        · obtain ⟨b, o, rfl, hb, hc⟩ : ∃ b o, a = some ⟨b, o, none⟩ ∧ b < wr.heap.size ∧ ∀ i, i < n → wr.cell? ⟨b, o + i, none⟩ = some (.int .i64 (X i)) := by
            rcases HXr.out with h | h
            · omega
            · exact h
          have ckk := hc k hlt
          clear hc
          have fok : (find LW (X k)).2 = true := find_ok LWh.out ⟨k, hlt, rfl⟩
          go_wp2_with fail
          refine Calls.mono (find_l aW lW cW LW (X k) wr CWr.out EW.out hlW4) ?_
          rintro e w' ⟨rfl, rfl⟩
          go_wp2
          go_round
          case rel => exact ⟨k + 1, by go_num, by omega⟩
          case measure => simp [intOf] <;> omega
        · obtain rfl : n = k := by omega
          have hd : decide ((n : Int) < (n : Int)) = false := decide_eq_false (by omega)
          go_wp2
          clear hd
          go_loop [15] (fun s => ∃ k : Nat, s = .int .i64 (k : Int) ∧ k ≤ lL) (fun s => ((lL : Int) - intOf s).toNat)
          case atStart => exact ⟨0, rfl, Nat.zero_le _⟩
          case round =>
            obtain ⟨k, rfl, hk⟩ := hrel
            by_cases hlt : k < lL
            · obtain ⟨b, x, o, rfl, hg, c0, c1⟩ := tr_at CLr.out EL.out hlt
              have fok : (find LW x).2 = true := by
                obtain ⟨i, hi, e⟩ := LLh.out.met hg
                exact find_ok LWh.out ⟨i, by omega, e⟩
              clear hg c1
              go_wp2_with fail
              refine Calls.mono (find_l aW lW cW LW x wr CWr.out EW.out hlW4) ?_
              rintro e w' ⟨rfl, rfl⟩
              go_wp2
              go_round
              case rel => exact ⟨k + 1, by go_num, by omega⟩
              case measure => simp [intOf] <;> omega
            · obtain rfl : lL = k := by omega
              have hd : decide ((lL : Int) < (lL : Int)) = false := decide_eq_false (by omega)
              go_wp2
              clear hd
              go_loop [18] (fun s => ∃ k : Nat, s = .int .i64 (k : Int) ∧ k ≤ lR) (fun s => ((lR : Int) - intOf s).toNat)
              case atStart => exact ⟨0, rfl, Nat.zero_le _⟩
              case round =>
                obtain ⟨k, rfl, hk⟩ := hrel
                by_cases hlt : k < lR
                · obtain ⟨b, x, o, rfl, hg, c0, c1⟩ := tr_at CRr.out ER.out hlt
                  have fok : (find LW x).2 = true := by
                    obtain ⟨i, hi, e⟩ := LRh.out.met hg
                    exact find_ok LWh.out ⟨cut + i, by rw [EM.out]; omega, e⟩
                  clear hg c1
                  go_wp2_with fail
                  refine Calls.mono (find_l aW lW cW LW x wr CWr.out EW.out hlW4) ?_
                  rintro e w' ⟨rfl, rfl⟩
                  go_wp2
                  go_round
                  case rel => exact ⟨k + 1, by go_num, by omega⟩
                  case measure => simp [intOf] <;> omega
                · obtain rfl : lR = k := by omega
                  have hd : decide ((lR : Int) < (lR : Int)) = false := decide_eq_false (by omega)
                  go_wp2
                  clear hd
                  go_loop [21] (fun s => ∃ k : Nat, s = .int .i64 (k : Int) ∧ k ≤ lW) (fun s => ((lW : Int) - intOf s).toNat)
                  case atStart => exact ⟨0, rfl, Nat.zero_le _⟩
                  case round =>
                    obtain ⟨k, rfl, hk⟩ := hrel
                    by_cases hlt : k < lW
                    · obtain ⟨b, x, o, rfl, hg, c0, c1⟩ := tr_at CWr.out EW.out hlt
                      have LWm : Lists (kd Z l) X (cut + m) LW := by rw [← EM.out]; exact LWh.out
                      have WC : Hid _ := want_cases LLh.out LRh.out LWm hg
                      clear hg LWm
                      go_wp2_with fail
                      refine Calls.mono (find_l aL lL cL LL x wr CLr.out EL.out hlL4) ?_
                      rintro e w' ⟨rfl, rfl⟩
                      go_wp2_with fail
                      refine Calls.mono (find_l aR lR cR LR x wr CRr.out ER.out hlR4) ?_
                      rintro e w' ⟨rfl, rfl⟩
                      obtain ⟨wc, wo⟩ := WC.out
                      clear WC
                      generalize find LL x = fl at *
                      generalize find LR x = fr at *
                      obtain ⟨lo, lok⟩ := fl
                      obtain ⟨rr, rok⟩ := fr
                      have HWO : o = (if rok && (rr != 0) then rr else if lok then lo else 0) := wo
                      clear wo
                      cases lok
                      · cases rok
                        · simp at wc
                        · by_cases r0 : rr = 0
                          · subst r0
                            obtain rfl : o = 0 := by simpa using HWO
                            clear HWO wc
                            go_wp2
                            go_round
                            case rel => exact ⟨k + 1, by go_num, by omega⟩
                            case measure => simp [intOf] <;> omega
                          · have z0 : (rr == 0) = false := by simp [r0]
                            have z1 : (rr != 0) = true := by simp [r0]
                            have ho : rr = o := by rw [HWO]; simp [r0]
                            subst ho
                            clear HWO wc r0
                            go_wp2
                            go_round
                            case rel => exact ⟨k + 1, by go_num, by omega⟩
                            case measure => simp [intOf] <;> omega
                      · cases rok
                        · obtain rfl : o = lo := by simpa using HWO
                          clear HWO wc
                          go_wp2
                          go_round
                          case rel => exact ⟨k + 1, by go_num, by omega⟩
                          case measure => simp [intOf] <;> omega
                        · by_cases r0 : rr = 0
                          · subst r0
                            obtain rfl : o = lo := by simpa using HWO
                            clear HWO wc
                            go_wp2
                            go_round
                            case rel => exact ⟨k + 1, by go_num, by omega⟩
                            case measure => simp [intOf] <;> omega
                          · have z0 : (rr == 0) = false := by simp [r0]
                            have z1 : (rr != 0) = true := by simp [r0]
                            have ho : rr = o := by rw [HWO]; simp [r0]
                            subst ho
                            clear HWO wc r0
                            go_wp2
                            go_round
                            case rel => exact ⟨k + 1, by go_num, by omega⟩
                            case measure => simp [intOf] <;> omega
                    · obtain rfl : lW = k := by omega
                      have hd : decide ((lW : Int) < (lW : Int)) = false := decide_eq_false (by omega)
                      go_wp2
                      go_ret
                      exact ⟨rfl, Br.out⟩
end Go.Proofs.Qxb6608766a
