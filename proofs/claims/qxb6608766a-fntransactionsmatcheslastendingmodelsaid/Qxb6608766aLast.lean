import Derived.Test.Qxb6608766aAsc
namespace Go.Proofs.Qxb6608766a
open Go.RowKit
set_option linter.unusedSimpArgs false
set_option linter.unusedVariables false

def EndPost (o : Int) (w : World) (e : Ending) (w' : World) : Prop := e = .returned (.int .u8 o) ∧ w = w'
theorem ends_3 {K X : Nat → Int} {j : Nat} {t : Int} (h : X j = t) (h3 : K j = 3) : ends K X (j + 1) t = 1 := by simp [ends, h, h3]
theorem ends_4 {K X : Nat → Int} {j : Nat} {t : Int} (h : X j = t) (h4 : K j = 4) : ends K X (j + 1) t = 2 := by simp [ends, h, h4]
theorem ends_n {K X : Nat → Int} {j : Nat} {t : Int} (h3 : ¬ K j = 3) (h4 : ¬ K j = 4) : ends K X (j + 1) t = ends K X j t := by simp [ends, h3, h4]

set_option maxHeartbeats 1000000 in
/-- lastEnding. -/
theorem last_any (a : Option Addr) (n c : Nat) (X : Nat → Int) (ak : Option Addr) (l ck : Nat) (Z : Nat → Int) (t : Int) (w : World) (hX : Cells w a n (fun i => .int .i64 (X i))) (hZ : Cells w ak l (fun i => .int .u8 (Z i))) (hn : n ≤ 4096) (hl : l ≤ 4096) :
    Calls Try.prog 14 #[.slice a n c, .slice ak l ck, .int .i64 t] w (EndPost (ends (kd Z l) X n t) w) := by
  have HX : Hid (Cells w a n (fun i => .int .i64 (X i))) := hX
  have HZ : Hid (Cells w ak l (fun i => .int .u8 (Z i))) := hZ
  clear hX hZ
  generalize hres : ends (kd Z l) X n t = res
  have HR : Hid (ends (kd Z l) X n t = res) := hres
  clear hres
  have hw0 : IntKind.i64.wrap ((n : Int) - 1) = (n : Int) - 1 := by rw [IntKind.wrap_i64]; omega
  go_enter Try.func14, Try.ntmps14
  go_wp2
  clear hw0
  go_loop [7] (fun s => ∃ (z : Int) (k : Nat), s = .int .i64 z ∧ z = (k : Int) - 1 ∧ k ≤ n ∧ Hid (ends (kd Z l) X k t = res)) (fun s => (intOf s + 1).toNat)
  case atStart => exact ⟨_, n, rfl, rfl, Nat.le_refl _, HR⟩
  case round =>
    obtain ⟨z, k, rfl, hz, hk, HF⟩ := hrel
    by_cases h0 : k = 0
    · subst h0
      have hz' : z = -1 := by omega
      subst hz'
      clear hz
      have FE : Hid (res = 0) := HF.out.symm
      go_wp2
      go_ret
      exact ⟨congrArg (fun o => Ending.returned (.int .u8 o)) FE.out.symm, rfl⟩
    · obtain ⟨j, rfl⟩ : ∃ j, k = j + 1 := ⟨k - 1, by omega⟩
      obtain rfl : z = (j : Int) := by omega
      have hjn : j < n := by omega
      obtain ⟨b, o, rfl, hb, hc⟩ : ∃ b o, a = some ⟨b, o, none⟩ ∧ b < w.heap.size ∧ ∀ i, i < n → w.cell? ⟨b, o + i, none⟩ = some (.int .i64 (X i)) := by
        rcases HX.out with h | h
        · omega
        · exact h
      have cj := hc j hjn
      clear hc hz hk h0
      have hw1 : IntKind.i64.wrap ((j : Int) - 1) = (j : Int) - 1 := by rw [IntKind.wrap_i64]; omega
      by_cases e : X j = t
      · have z0 : (X j == t) = true := by simp [e]
        have z1 : (X j != t) = false := by simp [e]
        have E : Hid (X j = t) := e
        clear e
        go_wp2_with fail
        refine Calls.mono (kindAt_any ak l ck Z j w HZ.out (by omega) hl) ?_
        rintro e w' ⟨rfl, rfl⟩
        by_cases k3 : kd Z l j = 3
        · have q3 : (kd Z l j == 3) = true := by simp [k3]
          have FE : Hid (res = 1) := HF.out.symm.trans (ends_3 E.out k3)
          clear k3
          go_wp2
          go_ret
          exact ⟨congrArg (fun o => Ending.returned (.int .u8 o)) FE.out.symm, rfl⟩
        · have q3 : (kd Z l j == 3) = false := by simp [k3]
          by_cases k4 : kd Z l j = 4
          · have q4 : (kd Z l j == 4) = true := by simp [k4]
            have FE : Hid (res = 2) := HF.out.symm.trans (ends_4 E.out k4)
            clear k3 k4
            go_wp2
            go_ret
            exact ⟨congrArg (fun o => Ending.returned (.int .u8 o)) FE.out.symm, rfl⟩
          · have q4 : (kd Z l j == 4) = false := by simp [k4]
            have FE : Hid (ends (kd Z l) X j t = res) := (ends_n k3 k4).symm.trans HF.out
            clear k3 k4
            go_wp2
            go_round
            case rel => exact ⟨_, j, rfl, rfl, by omega, FE⟩
            case measure => simp [intOf] <;> omega
      · have z0 : (X j == t) = false := by simp [e]
        have z1 : (X j != t) = true := by simp [e]
        have FE : Hid (ends (kd Z l) X j t = res) := (ends_other (fun h => e h.symm)).symm.trans HF.out
        clear e
        go_wp2
        go_round
        case rel => exact ⟨_, j, rfl, rfl, by omega, FE⟩
        case measure => simp [intOf] <;> omega
end Go.Proofs.Qxb6608766a
