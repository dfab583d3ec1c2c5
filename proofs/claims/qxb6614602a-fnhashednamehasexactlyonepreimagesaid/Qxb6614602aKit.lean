import Derived.Test.Qxb6614602aRows
import Derived.WalkKit
import Derived.WalkSpells
import Derived.WalkLawsBesides
import Derived.Below
import Derived.Lib.Strings
import Derived.Lib.Bytes
namespace Go.Proofs.Qxb6614602a
open Go.RowKit
set_option linter.unusedSimpArgs false
set_option linter.unusedVariables false

def SomeBool (w : World) (e : Ending) (w' : World) : Prop := ∃ r, e = .returned (.bool r) ∧ w = w'

set_option maxHeartbeats 1000000 in
theorem zzBytes8_any (a b : ByteArray) (w : World) (h : a.size ≤ maxLen) (h' : b.size ≤ maxLen) :
    Calls Try.prog 8 #[.string a, .string b] w (SomeBool w) := by
  unfold maxLen at h h'
  by_cases k : a.size ≤ 1048576
  · by_cases k2 : b.size ≤ 1048576
    · by_cases k3 : a.size + b.size ≤ 1048576
      · go_enter Try.func8, Try.ntmps8
        go_wp2
        go_ret
        exact ⟨_, rfl, rfl⟩
      · go_enter Try.func8, Try.ntmps8
        go_wp2
        go_ret
        exact ⟨_, rfl, rfl⟩
    · go_enter Try.func8, Try.ntmps8
      go_wp2
      go_ret
      exact ⟨_, rfl, rfl⟩
  · go_enter Try.func8, Try.ntmps8
    go_wp2
    go_ret
    exact ⟨_, rfl, rfl⟩

def suffix : ByteArray := ⟨#[95, 104, 97, 115, 104]⟩
/-! The plain law: no Go here. -/
def sfx : List UInt8 := [95, 104, 97, 115, 104]
theorem app_list (a : ByteArray) : (a ++ suffix).toList = a.toList ++ sfx := by
  rw [ByteArray.toList_eq, ByteArray.toList_eq, ByteArray.data_append, Array.toList_append]
  rfl
theorem ext_list (b : ByteArray) (i j : Nat) : (b.extract i j).toList = (b.toList.drop i).take (j - i) := by
  rw [ByteArray.toList_eq, ByteArray.toList_eq, ByteArray.data_extract, Array.toList_extract, List.extract_eq_take_drop]
theorem len_list (b : ByteArray) : b.toList.length = b.size := by rw [ByteArray.toList_eq]; rfl

theorem law_short {l m : List UInt8} (h : m.length < 5) : (l ++ sfx == m) = false := by
  rw [beq_eq_false_iff_ne]
  intro e
  have := congrArg List.length e
  simp [sfx] at this
  omega
theorem law_other {l m : List UInt8} (h : ((m.drop (m.length - 5)).take (m.length - (m.length - 5)) == sfx) = false) : (l ++ sfx == m) = false := by
  rw [beq_eq_false_iff_ne] at *
  intro e
  apply h
  rw [← e]
  have hl : (l ++ sfx).length - 5 = l.length := by simp [sfx]
  rw [hl, List.drop_left]
  exact List.take_of_length_le (by simp [sfx])
theorem law_same {l m : List UInt8} (h5 : 5 ≤ m.length) (h : ((m.drop (m.length - 5)).take (m.length - (m.length - 5)) == sfx) = true) : (l ++ sfx == m) = ((m.drop 0).take (m.length - 5 - 0) == l) := by
  have h := eq_of_beq h
  rw [List.take_of_length_le (by simp)] at h
  have e : m = m.take (m.length - 5) ++ sfx := by rw [← h, List.take_append_drop]
  rw [Bool.eq_iff_iff, beq_iff_eq, beq_iff_eq, List.drop_zero, Nat.sub_zero]
  constructor
  · intro hl
    rw [e] at hl
    exact (List.append_cancel_right hl).symm
  · intro hl
    rw [← hl]
    exact e.symm

set_option maxHeartbeats 1000000 in
theorem hashed11_any (a : ByteArray) (w : World) (h : a.size ≤ 524288) : Calls Try.prog 11 #[.string a] w fun e w' => e = .returned (.string (a ++ suffix)) ∧ w = w' := by
  go_enter Try.func11, Try.ntmps11
  go_wp2
  go_ret
  exact ⟨rfl, rfl⟩
set_option maxHeartbeats 1000000 in
theorem hashed9_any (a : ByteArray) (w : World) (h : a.size ≤ 524288) : Calls Try.prog 9 #[.string a] w fun e w' => e = .returned (.string (a ++ suffix)) ∧ w = w' := by
  go_enter Try.func9, Try.ntmps9
  go_wp2_with fail
  refine (hashed11_any a w h).mono ?_
  rintro e w' ⟨rfl, rfl⟩
  go_wp2
  go_ret
  exact ⟨rfl, rfl⟩

set_option maxHeartbeats 2000000 in
theorem hash_walk (a b : ByteArray) (w : World) (h : a.size ≤ maxLen) (h' : b.size ≤ maxLen) :
    Calls Try.prog 5 #[.string a, .string b] w fun e w' => e = .returned (.bool true) ∧ w = w' := by
  go_enter Try.func5, Try.ntmps5
  go_wp2_with fail
  refine (zzBytes8_any a b w h h').mono ?_
  rintro e w' ⟨r, rfl, rfl⟩
  unfold maxLen at h h'
  cases r
  · go_wp2
    go_ret
    exact ⟨rfl, rfl⟩
  by_cases k0 : a.size ≤ 524288
  case neg =>
    go_wp2
    go_ret
    exact ⟨rfl, rfl⟩
  by_cases k1 : b.size ≤ 524288
  case neg =>
    go_wp2
    go_ret
    exact ⟨rfl, rfl⟩
  go_wp2_with fail
  refine (hashed9_any a w k0).mono ?_
  rintro e w' ⟨rfl, rfl⟩
  by_cases k5 : 5 ≤ b.size
  case neg =>
    have e : ((a ++ suffix).toList == b.toList) = false := by
      rw [app_list]; exact law_short (by rw [len_list]; omega)
    go_wp2
    go_ret
    exact ⟨rfl, rfl⟩
  cases hs : ((b.extract (b.size - 5) b.size).toList == [95, 104, 97, 115, 104])
  · have e : ((a ++ suffix).toList == b.toList) = false := by
      rw [ext_list, ← len_list b] at hs
      rw [app_list]; exact law_other hs
    go_wp2
    go_ret
    exact ⟨rfl, rfl⟩
  · have e : ((a ++ suffix).toList == b.toList) = ((b.extract 0 (b.size - 5)).toList == a.toList) := by
      rw [ext_list, ← len_list b] at hs
      rw [app_list, ext_list, ← len_list b]
      exact law_same (by rw [len_list]; exact k5) hs
    go_wp2
    go_ret
    exact ⟨rfl, rfl⟩
end Go.Proofs.Qxb6614602a
