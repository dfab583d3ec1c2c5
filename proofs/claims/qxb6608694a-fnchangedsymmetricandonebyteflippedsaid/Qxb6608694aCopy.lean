import Derived.Test.Qxb6608694aKit
namespace Go.Proofs.Qxb6608694a
open Go.RowKit
set_option linter.unusedSimpArgs false
set_option linter.unusedVariables false

def SomeBool (w : World) (e : Ending) (w' : World) : Prop := ∃ r, e = .returned (.bool r) ∧ w = w'

set_option maxHeartbeats 1000000 in
theorem zzBytes7_any (a : Option Addr) (n c : Nat) (x : Int) (w : World) (h : n ≤ 9223372036854775807) :
    Calls Try.prog 7 #[.slice a n c, .int .u8 x] w (SomeBool w) := by
  by_cases k : n ≤ 1048576
  · go_enter Try.func7, Try.ntmps7
    go_wp2
    go_ret
    exact ⟨_, rfl, rfl⟩
  · go_enter Try.func7, Try.ntmps7
    go_wp2
    go_ret
    exact ⟨_, rfl, rfl⟩

theorem bytesOf_length (xs : List Int) : (Lib.bytesOf xs).length = xs.length := by simp [Lib.bytesOf]
theorem len_ne {n m : Nat} {y z : Nat → Int} (h : n ≠ m) : (Lib.bytesOf (nums n z) == Lib.bytesOf (nums m y)) = false := by
  rw [beq_eq_false_iff_ne]
  intro e
  have := congrArg List.length e
  rw [bytesOf_length, bytesOf_length, nums_length, nums_length] at this
  exact h this

def LawPost (w : World) (e : Ending) (w' : World) : Prop := e = .returned (.bool true) ∧ Below w.heap.size w w'

set_option maxHeartbeats 2000000 in
theorem copy_walk (a : Option Addr) (n c : Nat) (z : Nat → Int) (x : Int) (w : World) (h : In w a n z) (hn : n ≤ 9223372036854775807) :
    Calls Try.prog 3 #[.slice a n c, .int .u8 x] w (LawPost w) := by
  have H : Hid (In w a n z) := h
  clear h
  go_enter Try.func3, Try.ntmps3
  go_wp2_with fail
  refine (zzBytes7_any a n c x w hn).mono ?_
  rintro e w' ⟨r, rfl, rfl⟩
  cases r
  · go_wp2
    go_ret
    exact ⟨rfl, Below.refl _ _⟩
  by_cases k : n ≤ 65536
  case neg =>
    go_wp2
    go_ret
    exact ⟨rfl, Below.refl _ _⟩
  go_wp2_with fail
  refine Calls.mono (clone_any a n c z w H.out k) ?_
  rintro e w1 ⟨a1, c1, rfl, M1, B1⟩
  have M1 : Hid (Mine w1 w.heap.size a1 n z) := M1
  have B1 : Hid (Below w.heap.size w w1) := B1
  clear H
  go_wp2_with fail
  refine Calls.mono (clone_any a1 n c1 z w1 (Mine.toIn M1.out) k) ?_
  rintro e w2 ⟨a2, c2, rfl, M2, B2⟩
  have M2 : Hid (Mine w2 w1.heap.size a2 n z) := M2
  have M12 : Hid (Mine w2 w.heap.size a1 n z) := Mine.bel M1.out B2
  have B2 : Hid (Below w.heap.size w w2) := B1.out.trans (B2.mono B1.out.size)
  clear M1 B1
  have mk : ∀ W : World, (Instr.makeSlice 22 (.int .i64 ((n : Int) + 1)) (.int .i64 ((n : Int) + 1))).run Try.prog W = .ok (.slice (some ⟨W.heap.size, 0, none⟩) (n + 1) (n + 1)) (W.alloc (.cells (madeCells #[.int .u8 0] (n + 1)) 5)) := fun W => by
    have := run_make_row' (P := Try.prog) 22 5 (.int .u8 0) 1 Try.underlying22 info5 rfl .i64 .i64 (n + 1) (by omega) (by omega) W
    rwa [show ((n + 1 : Nat) : Int) = (n : Int) + 1 from rfl] at this
  go_wp2
  have NB : Hid (Blk (w2.alloc (.cells (madeCells #[.int .u8 0] (n + 1)) 5)) w2.heap.size (n + 1) (fun i => if i < 0 then z i else 0)) := (Blk.new w2 (n + 1)).congr fun i _ => by simp
  have BB : Hid (Below w2.heap.size w2 (w2.alloc (.cells (madeCells #[.int .u8 0] (n + 1)) 5))) := (Below.refl _ _).alloc (Nat.le_refl _) _
  generalize w2.alloc (.cells (madeCells #[.int .u8 0] (n + 1)) 5) = w3 at *
  clear mk
  go_loopw [7] (fun s wr => ∃ k : Nat, s = .int .i64 (k : Int) ∧ k ≤ n ∧ Hid (Blk wr w2.heap.size (n + 1) (fun i => if i < k then z i else 0)) ∧ Hid (Below w2.heap.size w2 wr)) (fun s _ => ((n : Int) - intOf s).toNat)
  case atStart => exact ⟨0, rfl, Nat.zero_le _, NB, BB⟩
  case round =>
    obtain ⟨k, rfl, hk, BK, BR⟩ := hrel
    by_cases hlt : k < n
    · obtain ⟨b, rfl, hlo, hblk⟩ : ∃ b, a1 = some ⟨b, 0, none⟩ ∧ w.heap.size ≤ b ∧ Blk w2 b n z := by
        rcases M12.out with h | h
        · omega
        · exact h
      have ck : wr.cell? ⟨b, k, none⟩ = some (.int .u8 (z k)) := (BR.out.cell (p := ⟨b, k, none⟩) hblk.1).trans (hblk.2.1 k hlt)
      have bc := BK.out.2.1 k (by omega)
      have bf := BK.out.2.2 k
      clear hblk
      go_wp2
      go_roundw
      case rel =>
        refine ⟨k + 1, by go_num, by omega, ?_, BR.out.setCell (Nat.le_refl _) _⟩
        refine (BK.out.set k (by omega) (z k)).congr fun i _ => ?_
        by_cases e : i = k
        · simp [e]
        · by_cases e2 : i < k
          · rw [if_neg e, if_pos e2, if_pos (by omega)]
          · rw [if_neg e, if_neg e2, if_neg (by omega)]
      case measure => simp [intOf]; omega
    · obtain rfl : n = k := by omega
      have hd : decide ((n : Int) < (n : Int)) = false := decide_eq_false (by omega)
      have bc := BK.out.2.1 n (by omega)
      have bf := BK.out.2.2 n
      have BL : Hid (Blk (wr.setCell ⟨w2.heap.size, n, none⟩ (.int .u8 x)) w2.heap.size (n + 1) (fun i => if i = n then x else if i < n then z i else 0)) := BK.out.set n (by omega) x
      have BS : Hid (Below w2.heap.size w2 (wr.setCell ⟨w2.heap.size, n, none⟩ (.int .u8 x))) := BR.out.setCell (Nat.le_refl _) _
      go_wp2_with fail
      clear bc bf hd BK BR NB BB
      generalize wr.setCell ⟨w2.heap.size, n, none⟩ (.int .u8 x) = w4 at *
      have M1 : Hid (Mine w4 w.heap.size a1 n z) := Mine.bel M12.out BS.out
      have M2' : Hid (Mine w4 w1.heap.size a2 n z) := Mine.bel M2.out BS.out
      have M3 : Hid (Mine w4 w2.heap.size (some ⟨w2.heap.size, 0, none⟩) (n + 1) (fun i => if i = n then x else if i < n then z i else 0)) := .inr ⟨_, rfl, Nat.le_refl _, BL.out⟩
      have B4 : Hid (Below w.heap.size w w4) := B2.out.trans (BS.out.mono B2.out.size)
      clear M12 M2 BL BS B2
      have h1 := changed_any a1 n c1 a2 n c2 z z _ _ w4 M1.out M2'.out
      rw [beq_self_eq_true] at h1
      refine Calls.mono h1 ?_
      clear h1
      rintro e w5 ⟨rfl, B5⟩
      have M15 : Hid (Mine w5 w.heap.size a1 n z) := Mine.bel M1.out B5
      have M35 : Hid (Mine w5 w2.heap.size (some ⟨w2.heap.size, 0, none⟩) (n + 1) (fun i => if i = n then x else if i < n then z i else 0)) := Mine.bel M3.out B5
      have B5 : Hid (Below w.heap.size w w5) := B4.out.trans (B5.mono B4.out.size)
      clear M1 M2' M3 B4
      go_wp2_with fail
      have h1 := changed_any a1 n c1 (some ⟨w2.heap.size, 0, none⟩) (n + 1) (n + 1) z _ _ _ w5 M15.out M35.out
      rw [len_ne (by omega)] at h1
      refine Calls.mono h1 ?_
      clear h1
      rintro e w6 ⟨rfl, B6⟩
      have M16 : Hid (Mine w6 w.heap.size a1 n z) := Mine.bel M15.out B6
      have M36 : Hid (Mine w6 w2.heap.size (some ⟨w2.heap.size, 0, none⟩) (n + 1) (fun i => if i = n then x else if i < n then z i else 0)) := Mine.bel M35.out B6
      have B6 : Hid (Below w.heap.size w w6) := B5.out.trans (B6.mono B5.out.size)
      clear M15 M35 B5
      go_wp2_with fail
      have h1 := changed_any (some ⟨w2.heap.size, 0, none⟩) (n + 1) (n + 1) a1 n c1 _ z _ _ w6 M36.out M16.out
      rw [len_ne (by omega)] at h1
      refine Calls.mono h1 ?_
      clear h1
      rintro e w7 ⟨rfl, B7⟩
      have B7 : Hid (Below w.heap.size w w7) := B6.out.trans (B7.mono B6.out.size)
      go_wp2
      go_ret
      exact ⟨rfl, B7.out⟩
end Go.Proofs.Qxb6608694a
