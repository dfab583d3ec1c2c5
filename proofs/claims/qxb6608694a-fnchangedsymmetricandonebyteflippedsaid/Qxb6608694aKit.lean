import Derived.Test.Qxb6608694aRows
import Derived.WalkKit
import Derived.WalkSpells
import Derived.WalkLawsBesides
import Derived.Below
import Derived.BigQuiet
import Derived.RegionTactic
import Derived.Deep.QuietTactic
import Derived.Deep.LoopGhost
import Derived.Deep.OwnRows
import Derived.Deep.DeepCutAuto
import Derived.Laws.IdiomCopy
import Derived.Laws.BytesArg
import Derived.Laws.Rows
import Derived.Lib.SliceRun
import Derived.Lib.Strings
import Derived.Lib.Slices
import Derived.Lib.Walk
import Derived.Lib.Bytes
namespace Go.Proofs.Qxb6608694a
open Go.RowKit
set_option linter.unusedSimpArgs false
set_option linter.unusedVariables false

/-- n bytes that a slice of the caller's shows. -/
def In (w : World) (a : Option Addr) (n : Nat) (z : Nat → Int) : Prop :=
  (a = none ∧ n = 0) ∨ (∃ x, a = some x ∧ n = 0) ∨ ∃ b o, a = some ⟨b, o, none⟩ ∧ b < w.heap.size ∧ ∀ i, i < n → w.cell? ⟨b, o + i, none⟩ = some (.int .u8 (z i))

/-- A block of bytes of the law's own. -/
def Blk (w : World) (b n : Nat) (z : Nat → Int) : Prop :=
  b < w.heap.size ∧ (∀ i, i < n → w.cell? ⟨b, i, none⟩ = some (.int .u8 (z i))) ∧ ∀ i, w.frozen? ⟨b, i, none⟩ = false
theorem Blk.set {w : World} {b n : Nat} {z : Nat → Int} (h : Blk w b n z) (k : Nat) (hk : k < n) (v : Int) : Blk (w.setCell ⟨b, k, none⟩ (.int .u8 v)) b n (fun i => if i = k then v else z i) := by
  refine ⟨by simpa using h.1, fun i hi => ?_, fun i => by rw [World.frozen?_setCell]; exact h.2.2 i⟩
  by_cases e : i = k
  · subst e
    rw [World.cell?_setCell_same' _ _ _ (by rw [h.2.1 i hi]; rfl)]
    simp
  · rw [World.cell?_setCell_other _ _ _ _ (by simp [e]), h.2.1 i hi]
    simp [e]
theorem Blk.bel {w w' : World} {b n : Nat} {z : Nat → Int} (h : Blk w b n z) (g : Below w.heap.size w w') : Blk w' b n z :=
  ⟨Nat.lt_of_lt_of_le h.1 g.size, fun i hi => (g.cell (p := ⟨b, i, none⟩) h.1).trans (h.2.1 i hi), fun i => (g.frozen (p := ⟨b, i, none⟩) h.1).trans (h.2.2 i)⟩
theorem Blk.congr {w : World} {b n : Nat} {z y : Nat → Int} (h : Blk w b n z) (e : ∀ i, i < n → z i = y i) : Blk w b n y :=
  ⟨h.1, fun i hi => by rw [h.2.1 i hi, e i hi], h.2.2⟩
theorem cell_blk {w : World} {b j : Nat} {cs : Array Value} {T : TypeId} {fz : Nat × Nat} {u : Value} (h : w.heap[b]? = some (.cells cs T fz)) (hu : cs[j]? = some u) : w.cell? ⟨b, j, none⟩ = some u := by
  simp [World.cell?, h, hu]
theorem frozen_of_block {w : World} {b o : Nat} {cs : Array Value} {T : TypeId} (h : w.heap[b]? = some (.cells cs T (0, 0))) : w.frozen? ⟨b, o, none⟩ = false := by simp [World.frozen?, h]
theorem Blk.new (w : World) (n : Nat) : Blk (w.alloc (.cells (madeCells #[.int .u8 0] n) 5)) w.heap.size n (fun _ => 0) := by
  refine ⟨by simp, fun i hi => ?_, fun i => ?_⟩
  · refine cell_blk (heap_alloc_new w _) ?_
    simp [madeCells, hi, Nat.mod_one]
  · exact frozen_of_block (heap_alloc_new w _)

/-- What a slice shows that the law made: nil, or a block of its own. -/
def Mine (w : World) (lo : Nat) (a : Option Addr) (n : Nat) (z : Nat → Int) : Prop :=
  (a = none ∧ n = 0) ∨ ∃ b, a = some ⟨b, 0, none⟩ ∧ lo ≤ b ∧ Blk w b n z
theorem Mine.bel {w w' : World} {lo : Nat} {a : Option Addr} {n : Nat} {z : Nat → Int} (h : Mine w lo a n z) (g : Below w.heap.size w w') : Mine w' lo a n z := by
  rcases h with h | ⟨b, h1, h2, h3⟩
  · exact .inl h
  · exact .inr ⟨b, h1, h2, h3.bel g⟩
theorem Mine.toIn {w : World} {lo : Nat} {a : Option Addr} {n : Nat} {z : Nat → Int} (h : Mine w lo a n z) : In w a n z := by
  rcases h with h | ⟨b, h1, h2, h3⟩
  · exact .inl h
  · exact .inr (.inr ⟨b, 0, h1, h3.1, fun i hi => by rw [Nat.zero_add]; exact h3.2.1 i hi⟩)

/-- The bytes as a list. -/
def nums (n : Nat) (z : Nat → Int) : List Int := (List.range n).map z
theorem nums_length (n : Nat) (z : Nat → Int) : (nums n z).length = n := by simp [nums]
theorem nums_at {n : Nat} {z : Nat → Int} {i : Nat} (h : i < n) : (nums n z).getD i 0 = z i := by simp [nums, h]

theorem Mine.str {w : World} {lo : Nat} {a : Option Addr} {n : Nat} {z : Nat → Int} (h : Mine w lo a n z) (c : Nat) :
    (convert 22 9 (.slice a n c)).run Try.prog w = .ok (.string (strOfNums (nums n z))) w := by
  rcases h with ⟨rfl, rfl⟩ | ⟨b, rfl, h2, h3⟩
  · exact run_convert_bytes_nil w 22 5 Try.underlying22 Try.underlying5 0 c 9 Try.underlying9
  · exact run_convert_bytes_arg (P := Try.prog) w 22 5 Try.underlying22 Try.underlying5 b 0 n c (nums n z) (nums_length n z) (fun i hi => by rw [nums_at hi, Nat.zero_add]; exact h3.2.1 i hi) 9 Try.underlying9

set_option maxHeartbeats 1000000 in
/-- bytes.Equal. -/
theorem equal_any (v1 v2 : Value) (xs ys : List Int) (w : World)
    (h1 : (convert 22 9 v1).run Try.prog w = .ok (.string (strOfNums xs)) w) (h2 : (convert 22 9 v2).run Try.prog w = .ok (.string (strOfNums ys)) w) :
    Calls Try.prog 22 #[v1, v2] w fun e w' => e = .returned (.bool (Lib.bytesOf xs == Lib.bytesOf ys)) ∧ w' = w := by
  rw [← Lib.strOfNums_toList, ← Lib.strOfNums_toList]
  go_enter Try.func22, Try.ntmps22
  go_wp2
  go_ret
  exact ⟨rfl, rfl⟩

def editCells (v1 v2 : Value) : Array Value := #[.string ⟨#[]⟩, .string ⟨#[]⟩, v1, v2, .bool false, .bool false, .bool false, .string ⟨#[]⟩, .slice none 0 0, .map none]

set_option maxHeartbeats 1000000 in
theorem newEdit_any (a1 : Option Addr) (n1 c1 : Nat) (a2 : Option Addr) (n2 c2 : Nat) (w : World) :
    Calls Try.prog 18 #[.slice a1 n1 c1, .slice a2 n2 c2] w fun e w' => e = .returned (.pointer (some ⟨w.heap.size, 0, none⟩)) ∧ w' = w.alloc (.cells (editCells (.slice a1 n1 c1) (.slice a2 n2 c2)) 39) := by
  go_enter Try.func18, Try.ntmps18
  go_wp2
  go_ret
  exact ⟨rfl, rfl⟩

set_option maxHeartbeats 1000000 in
theorem changed19_any (g : Nat) (a1 : Option Addr) (n1 c1 : Nat) (a2 : Option Addr) (n2 c2 : Nat) (z1 z2 : Nat → Int) (l1 l2 : Nat) (w : World) (h1 : Mine w l1 a1 n1 z1) (h2 : Mine w l2 a2 n2 z2)
    (g2 : w.cell? ⟨g, 2, none⟩ = some (.slice a1 n1 c1)) (g3 : w.cell? ⟨g, 3, none⟩ = some (.slice a2 n2 c2)) :
    Calls Try.prog 19 #[.pointer (some ⟨g, 0, none⟩)] w fun e w' => e = .returned (.bool (!(Lib.bytesOf (nums n1 z1) == Lib.bytesOf (nums n2 z2)))) ∧ ∃ m, w' = w.drewN m := by
  have CE : Hid (∀ m, Calls Try.prog 22 #[.slice a1 n1 c1, .slice a2 n2 c2] (w.drewN m) fun e w' => e = .returned (.bool (Lib.bytesOf (nums n1 z1) == Lib.bytesOf (nums n2 z2))) ∧ w' = w.drewN m) := fun m => by
    have b : Below w.heap.size w (w.drewN m) := ⟨rfl, rfl, rfl, Nat.le_refl _, fun _ _ => rfl⟩
    exact equal_any _ _ _ _ _ ((h1.bel b).str c1) ((h2.bel b).str c2)
  clear h1 h2
  generalize (Lib.bytesOf (nums n1 z1) == Lib.bytesOf (nums n2 z2)) = r at CE
  go_enter Try.func19, Try.ntmps19
  go_wp2
  go_quiet ((go_at_call 22; exact Calls.quiet_of_same (CE.out _)))
  go_wp2
  go_ret
  exact ⟨rfl, _, rfl⟩

def ChPost (r : Bool) (w : World) (e : Ending) (w' : World) : Prop := e = .returned (.bool r) ∧ Below w.heap.size w w'

set_option maxHeartbeats 1000000 in
/-- zzChanged. -/
theorem changed_any (a1 : Option Addr) (n1 c1 : Nat) (a2 : Option Addr) (n2 c2 : Nat) (z1 z2 : Nat → Int) (l1 l2 : Nat) (w : World) (h1 : Mine w l1 a1 n1 z1) (h2 : Mine w l2 a2 n2 z2) :
    Calls Try.prog 9 #[.slice a1 n1 c1, .slice a2 n2 c2] w (ChPost (!(Lib.bytesOf (nums n1 z1) == Lib.bytesOf (nums n2 z2))) w) := by
  have H1 : Hid (Mine w l1 a1 n1 z1) := h1
  have H2 : Hid (Mine w l2 a2 n2 z2) := h2
  clear h1 h2
  go_enter Try.func9, Try.ntmps9
  go_wp2_with fail
  refine (newEdit_any a1 n1 c1 a2 n2 c2 w).mono ?_
  rintro e w' ⟨rfl, hw⟩
  have b : Below w.heap.size w w' := by rw [hw]; exact (Below.refl _ _).alloc (Nat.le_refl _) _
  have B : Hid _ := b
  have g2 : w'.cell? ⟨w.heap.size, 2, none⟩ = some (.slice a1 n1 c1) := by rw [hw]; exact cell_blk (heap_alloc_new w _) rfl
  have g3 : w'.cell? ⟨w.heap.size, 3, none⟩ = some (.slice a2 n2 c2) := by rw [hw]; exact cell_blk (heap_alloc_new w _) rfl
  have CC : Hid _ := changed19_any w.heap.size a1 n1 c1 a2 n2 c2 z1 z2 l1 l2 w' (Mine.bel H1.out b) (Mine.bel H2.out b) g2 g3
  clear hw b g2 g3
  go_wp2_with fail
  refine Calls.mono CC.out ?_
  rintro e w2 ⟨rfl, m, rfl⟩
  go_wp2
  go_ret
  exact ⟨rfl, B.out.os, B.out.tape, B.out.output, B.out.size, B.out.block⟩

def ClonePost (n : Nat) (z : Nat → Int) (w : World) (e : Ending) (w' : World) : Prop := ∃ a c, e = .returned (.slice a n c) ∧ Mine w' w.heap.size a n z ∧ Below w.heap.size w w'

theorem info5 : (Try.prog.info? 5).map (fun i => (i.zero, i.size, i.bytes)) = some (some (.int .u8 0), 1, 1) := by kernel_rfl

set_option maxHeartbeats 1000000 in
/-- zzCloneBytes. -/
theorem clone_any (a : Option Addr) (n c : Nat) (z : Nat → Int) (w : World) (h : In w a n z) (hn : n ≤ 65536) :
    Calls Try.prog 8 #[.slice a n c] w (ClonePost n z w) := by
  have mk : ∀ W : World, (Instr.makeSlice 22 (.int .i64 (n : Int)) (.int .i64 (n : Int))).run Try.prog W = .ok (.slice (some ⟨W.heap.size, 0, none⟩) n n) (W.alloc (.cells (madeCells #[.int .u8 0] n) 5)) := run_make_row' (P := Try.prog) 22 5 (.int .u8 0) 1 Try.underlying22 info5 rfl .i64 .i64 n (by omega) (by omega)
  have hnil : ∀ (a : Option Addr) (m d : Nat) (W : World), (binOp .eql 22 (.slice a m d) (.slice none 0 0)).run Try.prog W = .ok (.bool a.isNone) W := fun a m d W => Lib.run_eql_slice_nil W 22 5 a m d 0 0 Try.underlying22
  rcases h with ⟨rfl, rfl⟩ | h
  · go_enter Try.func8, Try.ntmps8
    go_wp2

    go_ret
    exact ⟨none, 0, rfl, .inl ⟨rfl, rfl⟩, Below.refl _ _⟩
  · have hx : ∃ x, a = some x ∧ (0 < n → ∃ b o, x = ⟨b, o, none⟩ ∧ b < w.heap.size ∧ ∀ i, i < n → w.cell? ⟨b, o + i, none⟩ = some (.int .u8 (z i))) := by
      rcases h with ⟨x, h1, h2⟩ | ⟨b, o, h1, h2, h3⟩
      · exact ⟨x, h1, fun h => by omega⟩
      · exact ⟨_, h1, fun _ => ⟨b, o, rfl, h2, h3⟩⟩
    obtain ⟨x, rfl, hx⟩ := hx
    have HX : Hid _ := hx
    clear hx h
    go_enter Try.func8, Try.ntmps8
    go_wp2
    have NB : Hid (Blk (w.alloc (.cells (madeCells #[.int .u8 0] n) 5)) w.heap.size n (fun i => if i < 0 then z i else 0)) := (Blk.new w n).congr fun i _ => by simp
    have BB : Hid (Below w.heap.size w (w.alloc (.cells (madeCells #[.int .u8 0] n) 5))) := (Below.refl _ _).alloc (Nat.le_refl _) _
    generalize w.alloc (.cells (madeCells #[.int .u8 0] n) 5) = w1 at *
    clear mk
    go_loopw [4] (fun s wr => ∃ k : Nat, s = .int .i64 (k : Int) ∧ k ≤ n ∧ Hid (Blk wr w.heap.size n (fun i => if i < k then z i else 0)) ∧ Hid (Below w.heap.size w wr)) (fun s _ => ((n : Int) - intOf s).toNat)
    case atStart => exact ⟨0, rfl, Nat.zero_le _, NB, BB⟩
    case round =>
      obtain ⟨k, rfl, hk, BK, BR⟩ := hrel
      by_cases hlt : k < n
      · obtain ⟨b, o, rfl, hb, hc⟩ := HX.out (by omega)
        have ck : wr.cell? ⟨b, o + k, none⟩ = some (.int .u8 (z k)) := (BR.out.cell (p := ⟨b, o + k, none⟩) hb).trans (hc k hlt)
        have bc := BK.out.2.1 k hlt
        have bf := BK.out.2.2 k
        clear hc
        go_wp2
        go_roundw
        case rel =>
          refine ⟨k + 1, by go_num, by omega, ?_, BR.out.setCell (Nat.le_refl _) _⟩
          refine (BK.out.set k hlt (z k)).congr fun i _ => ?_
          by_cases e : i = k
          · simp [e]
          · by_cases e2 : i < k
            · rw [if_neg e, if_pos e2, if_pos (by omega)]
            · rw [if_neg e, if_neg e2, if_neg (by omega)]
        case measure => simp [intOf]; omega
      · obtain rfl : n = k := by omega
        have hd : decide ((n : Int) < (n : Int)) = false := decide_eq_false (by omega)
        go_wp2
        go_ret
        exact ⟨_, _, rfl, .inr ⟨_, rfl, Nat.le_refl _, BK.out.congr fun i hi => by rw [if_pos hi]⟩, BR.out⟩
end Go.Proofs.Qxb6608694a
