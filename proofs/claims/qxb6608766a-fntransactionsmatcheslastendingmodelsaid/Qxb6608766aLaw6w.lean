import Derived.Test.Qxb6608766aLaw5
import Derived.Test.Qxb6608766aLast
import Derived.Test.Qxb6608766aDst
import Derived.Lib.SliceRun
namespace Go.Proofs.Qxb6608766a
open Go.RowKit
set_option linter.unusedSimpArgs false
set_option linter.unusedVariables false

set_option maxHeartbeats 1000000 in
theorem zzBytes10_any (a : Option Addr) (n c : Nat) (b : Option Addr) (m d : Nat) (w : World) (h : n ≤ 9223372036854775807) (h' : m ≤ 9223372036854775807) :
    Calls Try.prog 10 #[.slice a n c, .slice b m d] w (SomeBool w) := by
  by_cases k : n ≤ 1048576
  · by_cases k2 : m ≤ 1048576
    · by_cases k3 : n + m ≤ 1048576
      · go_enter Try.func10, Try.ntmps10
        go_wp2
        go_ret
        exact ⟨_, rfl, rfl⟩
      · go_enter Try.func10, Try.ntmps10
        go_wp2
        go_ret
        exact ⟨_, rfl, rfl⟩
    · go_enter Try.func10, Try.ntmps10
      go_wp2
      go_ret
      exact ⟨_, rfl, rfl⟩
  · go_enter Try.func10, Try.ntmps10
    go_wp2
    go_ret
    exact ⟨_, rfl, rfl⟩

theorem IntC.bel {w w' : World} {v : Value} {D : List Int} (h : IntC w v D) (g : Below w.heap.size w w') : IntC w' v D := by
  rcases h with h | ⟨b, c, h1, h2, h3⟩
  · exact .inl h
  · exact .inr ⟨b, c, h1, Nat.lt_of_lt_of_le h2 g.size, fun j u hu => (g.cell (p := ⟨b, j, none⟩) h2).trans (h3 j u hu)⟩
/-- What both lists show at k. -/
theorem both_at {w : World} {K X : Nat → Int} {n : Nat} {a aD : Option Addr} {l c cD k : Nat} {L : List Tr} {D : List Int} (h : TrC w (.slice a l c) L) (hl : L.length = l) (hL : Lists K X n L) (hA : AscT L) (hD : Dist X n D) (hI : IntC w (.slice aD l cD) D) (hk : k < l) :
    ∃ b bD x, a = some ⟨b, 0, none⟩ ∧ aD = some ⟨bD, 0, none⟩ ∧ w.cell? ⟨b, k * 2, none⟩ = some (.int .i64 x) ∧ w.cell? ⟨b, k * 2 + 1, none⟩ = some (.int .u8 (ends K X n x)) ∧ w.cell? ⟨bD, k, none⟩ = some (.int .i64 x) := by
  obtain ⟨b, x, o, h1, h2, h3, h4⟩ := tr_at h hl hk
  have e := lists_dist hL hA hD
  have hlD : D.length = l := by rw [← e, List.length_map, hl]
  have hx : D[k]? = some x := by rw [← e, List.getElem?_map, h2]; rfl
  rcases hI with hI | ⟨bD, c', i1, _, i3⟩
  · omega
  · injection i1 with i1 _ _
    refine ⟨b, bD, x, h1, i1, h3, ?_, i3 k x hx⟩
    rw [← hL.val h2]
    exact h4

def ModelPost (w : World) (e : Ending) (w' : World) : Prop := e = .returned (.bool true) ∧ Below w.heap.size w w'
set_option maxHeartbeats 4000000 in
set_option maxRecDepth 100000 in
theorem model_walk (a : Option Addr) (n c : Nat) (X : Nat → Int) (ak : Option Addr) (l ck : Nat) (Z : Nat → Int) (w : World) (hX : Cells w a n (fun i => .int .i64 (X i))) (hZ : Cells w ak l (fun i => .int .u8 (Z i))) (hn : n ≤ 9223372036854775807) (hl : l ≤ 9223372036854775807) (hwf : ∀ i, i < n → (Lit.int .i64 (X i)).wf = true) :
    Calls Try.prog 4 #[.slice a n c, .slice ak l ck] w (ModelPost w) := by
  have HX : Hid (Cells w a n (fun i => .int .i64 (X i))) := hX
  have HZ : Hid (Cells w ak l (fun i => .int .u8 (Z i))) := hZ
  have HW : Hid (∀ i, i < n → (Lit.int .i64 (X i)).wf = true) := hwf
  clear hX hZ hwf
  go_enter Try.func4, Try.ntmps4
  go_wp2_with fail
  refine (zzBytes10_any a n c ak l ck w hn hl).mono ?_
  rintro e w' ⟨r, rfl, rfl⟩
  cases r
  · go_wp2
    go_ret
    exact ⟨rfl, Below.refl _ _⟩
  by_cases k0 : n ≤ 4096
  case neg =>
    go_wp2
    go_ret
    exact ⟨rfl, Below.refl _ _⟩
  by_cases k1 : l ≤ 4096
  case neg =>
    go_wp2
    go_ret
    exact ⟨rfl, Below.refl _ _⟩
  go_wp2_with fail
  refine Calls.mono (buildOps_any a n c X ak l ck Z w HX.out HZ.out k0 k1) ?_
  rintro e w1 ⟨ob, rfl, hob, hOB, B1⟩
  have OB : Hid (OpsB w1 ob n (kd Z l) X) := hOB
  have B1 : Hid (Below w.heap.size w w1) := B1
  have hob1 : ob < w1.heap.size := hOB.1
  clear hOB
  go_wp2_with fail
  have hO1 : OpsIn w1 ob 0 n (kd Z l) X := by
    have := OB.out.opsIn 0 n (by omega)
    simpa using this
  have h1 := box_tx w1 ob 0 n n (kd Z l) X hob1 hO1 k0 HW.out
  refine Calls.mono h1 ?_
  clear h1 hO1
  rintro e w2 ⟨aW, cW, lW, LW, rfl, hlW, hlWn, hLW, hAW, hCW, hnil, bW⟩
  obtain ⟨bb, bb'⟩ := bel_box B1.out bW
  have B2 : Hid (Below w.heap.size w w2) := bb
  by_cases h0 : n = 0
  · subst h0
    obtain rfl : aW = none := hnil rfl
    have hn2 : ∀ (m d : Nat) (W : World), (binOp .eql 41 (.slice none m d) (.slice none 0 0)).run Try.prog W = .ok (.bool true) W := fun m d W => Lib.run_eql_slice_nil W 41 46 none m d 0 0 Try.underlying41
    clear hLW hAW hCW bW bb bb' B1 OB hlW hlWn hnil HX HZ HW hob hob1
    go_wp2
    go_ret
    exact ⟨rfl, B2.out⟩
  have EW : Hid (LW.length = lW) := hlW
  have LWh : Hid (Lists (kd Z l) X n LW) := hLW
  have AWh : Hid (AscT LW) := hAW
  have CW : Hid (TrC w2 (.slice aW lW cW) LW) := hCW
  have HX2 : Hid (Cells w2 a n (fun i => .int .i64 (X i))) := Cells.bel HX.out bb
  have HZ2 : Hid (Cells w2 ak l (fun i => .int .u8 (Z i))) := Cells.bel HZ.out bb
  clear hLW hAW hCW bW bb bb' B1 OB hlW hnil HX HZ HW hob hob1
  go_wp2_with fail
  refine Calls.mono (dist_any a n c X w2 HX2.out k0) ?_
  rintro e w3 ⟨aD, cD, lD, D, rfl, hlD, hlDn, hD, hCD, bD⟩
  obtain rfl : lW = lD := by
    have := congrArg List.length (lists_dist LWh.out AWh.out hD)
    rw [List.length_map, EW.out, hlD] at this
    exact this
  have DD : Hid (Dist X n D) := hD
  have CD : Hid (IntC w3 (.slice aD lW cD) D) := hCD
  have B3 : Hid (Below w.heap.size w w3) := B2.out.trans (bD.mono B2.out.size)
  have CW3 : Hid (TrC w3 (.slice aW lW cW) LW) := TrC.bel CW.out bD
  have HX3 : Hid (Cells w3 a n (fun i => .int .i64 (X i))) := Cells.bel HX2.out bD
  have HZ3 : Hid (Cells w3 ak l (fun i => .int .u8 (Z i))) := Cells.bel HZ2.out bD
  clear hD hCD bD hlD hlDn CW HX2 HZ2 B2
  have e0 : ((lW : Int) == (lW : Int)) = true := by simp
  have e1 : ((lW : Int) != (lW : Int)) = false := by simp
  have hlW4 : lW ≤ 4096 := by omega
  go_wp2
  clear e0 e1
  go_loopw [8] (fun s wr => ∃ k : Nat, s = .int .i64 (k : Int) ∧ k ≤ lW ∧ Hid (Below w3.heap.size w3 wr)) (fun s _ => ((lW : Int) - intOf s).toNat)
  case atStart => exact ⟨0, rfl, Nat.zero_le _, Below.refl _ _⟩
  case round =>
    obtain ⟨k, rfl, hk, BR⟩ := hrel
    by_cases hlt : k < lW
    · obtain ⟨b, bD, x, rfl, rfl, c0, c1, c2⟩ := both_at (TrC.bel CW3.out BR.out) EW.out LWh.out AWh.out DD.out (IntC.bel CD.out BR.out) hlt
      have LE : Hid (∀ m, Calls Try.prog 14 #[.slice a n c, .slice ak l ck, .int .i64 x] (wr.drewN m) fun e w' => e = .returned (.int .u8 (ends (kd Z l) X n x)) ∧ w' = wr.drewN m) := fun m =>
        (last_any a n c X ak l ck Z x (wr.drewN m) (Cells.bel HX3.out (below_drewN BR.out m)) (Cells.bel HZ3.out (below_drewN BR.out m)) k0 k1).mono fun e w' h => ⟨h.1, h.2.symm⟩
      generalize ends (kd Z l) X n x = o at *
      go_wp2
      go_quiet (fail)
      go_wp2
      go_quiet ((go_at_call 14; exact (LE.out _).mono fun _ _ h => ⟨h.1, _, h.2⟩))
      go_wp2
      go_roundw
      case rel => exact ⟨k + 1, by go_num, by omega, below_drewN BR.out _⟩
      case measure => simp [intOf] <;> omega
    · obtain rfl : lW = k := by omega
      have hd : decide ((lW : Int) < (lW : Int)) = false := decide_eq_false (by omega)
      go_wp2
      go_ret
      exact ⟨rfl, B3.out.trans (BR.out.mono B3.out.size)⟩
end Go.Proofs.Qxb6608766a
