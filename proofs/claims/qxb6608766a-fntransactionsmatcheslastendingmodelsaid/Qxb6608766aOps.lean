import Derived.Test.Qxb6608766aOf2
namespace Go.Proofs.Qxb6608766a
open Go.RowKit
set_option linter.unusedSimpArgs false
set_option linter.unusedVariables false

/-- n cells that a slice of the caller's shows. -/
def Cells (w : World) (a : Option Addr) (n : Nat) (f : Nat → Value) : Prop :=
  n = 0 ∨ ∃ b o, a = some ⟨b, o, none⟩ ∧ b < w.heap.size ∧ ∀ i, i < n → w.cell? ⟨b, o + i, none⟩ = some (f i)
theorem Cells.bel {w w' : World} {a : Option Addr} {n : Nat} {f : Nat → Value} (h : Cells w a n f) (g : Below w.heap.size w w') : Cells w' a n f := by
  rcases h with h | ⟨b, o, h1, h2, h3⟩
  · exact .inl h
  · exact .inr ⟨b, o, h1, Nat.lt_of_lt_of_le h2 g.size, fun i hi => (g.cell (p := ⟨b, o + i, none⟩) h2).trans (h3 i hi)⟩

/-- The kind of the i-th operation. -/
def kd (Z : Nat → Int) (l i : Nat) : Int := if i < l then Z i else 0

set_option maxHeartbeats 400000 in
theorem kindAt_any (a : Option Addr) (l c : Nat) (Z : Nat → Int) (i : Nat) (w : World) (h : Cells w a l (fun i => .int .u8 (Z i))) (hi : i ≤ 4096) (hl : l ≤ 4096) :
    Calls Try.prog 19 #[.slice a l c, .int .i64 (i : Int)] w fun e w' => e = .returned (.int .u8 (kd Z l i)) ∧ w' = w := by
  unfold kd
  by_cases hlt : i < l
  · rw [if_pos hlt]
    rcases h with h | ⟨b, o, rfl, _, h3⟩
    · omega
    have c := h3 i hlt
    clear h3
    go_enter Try.func19, Try.ntmps19
    go_wp2
    go_ret
    exact ⟨rfl, rfl⟩
  · rw [if_neg hlt]
    clear h
    go_enter Try.func19, Try.ntmps19
    go_wp2
    go_ret
    exact ⟨rfl, rfl⟩

/-- An operation's cells. -/
def opCells (k t : Int) : List Value := [.int .u8 k, .bool false, .bool false, .int .i64 t, .string ⟨#[]⟩, .int .i64 0, .pointer none]
/-- A block of n operations of the law's own. -/
def OpsB (w : World) (b n : Nat) (K X : Nat → Int) : Prop :=
  b < w.heap.size ∧ (∀ i, i < n → ∀ j u, (opCells (K i) (X i))[j]? = some u → w.cell? ⟨b, i * 7 + j, none⟩ = some u) ∧ ∀ i, w.frozen? ⟨b, i, none⟩ = false
theorem OpsB.bel {w w' : World} {b n : Nat} {K X : Nat → Int} (h : OpsB w b n K X) (g : Below w.heap.size w w') : OpsB w' b n K X :=
  ⟨Nat.lt_of_lt_of_le h.1 g.size, fun i hi j u hu => (g.cell (p := ⟨b, i * 7 + j, none⟩) h.1).trans (h.2.1 i hi j u hu), fun i => (g.frozen (p := ⟨b, i, none⟩) h.1).trans (h.2.2 i)⟩

theorem info34 : (Try.prog.info? 34).map (fun i => (i.zero, i.size, i.bytes)) = some (some (.agg #[.int .u8 0, .bool false, .bool false, .int .i64 0, .string ⟨#[]⟩, .int .i64 0, .pointer none]), 7, 48) := by kernel_rfl
theorem info46 : (Try.prog.info? 46).map (fun i => (i.zero, i.size, i.bytes)) = some (some (.agg #[.int .i64 0, .int .u8 0]), 2, 16) := by kernel_rfl

theorem make_ops (W : World) (n : Nat) (hn : n ≤ 4096) : (Instr.makeSlice 29 (.int .i64 (n : Int)) (.int .i64 (n : Int))).run Try.prog W = .ok (.slice (some ⟨W.heap.size, 0, none⟩) n n) (W.alloc (.cells (madeCells (opCells 0 0).toArray (n * 7)) 34)) := by
  obtain ⟨i, hi, hz, hs, hb⟩ := info_parts info34
  have := run_make (P := Try.prog) W 29 34 i _ Try.underlying29 hi hz .i64 .i64 (n : Int) (n : Int) (by omega) (by omega) (by rw [hb]; omega) (by omega)
  rw [hs] at this
  simp only [Int.toNat_natCast] at this
  exact this

theorem cell_blk' {w : World} {b j : Nat} {cs : Array Value} {T : TypeId} {fz : Nat × Nat} {u : Value} (h : w.heap[b]? = some (.cells cs T fz)) (hu : cs[j]? = some u) : w.cell? ⟨b, j, none⟩ = some u := cell_blk h hu

theorem OpsB.new (W : World) (n : Nat) : OpsB (W.alloc (.cells (madeCells (opCells 0 0).toArray (n * 7)) 34)) W.heap.size n (fun _ => 0) (fun _ => 0) := by
  refine ⟨by simp, fun i hi j u hu => ?_, fun i => frozen_blk (heap_alloc_new W _)⟩
  refine cell_blk (heap_alloc_new W _) ?_
  have hj : j < 7 := by
    have := (List.getElem?_eq_some_iff.1 hu).1
    simpa [opCells] using this
  have hlt : i * 7 + j < n * 7 := by omega
  have hm : (i * 7 + j) % 7 = j := by omega
  unfold madeCells
  rw [Array.getElem?_map, Array.getElem?_range, if_pos hlt]
  have hsz : (opCells 0 0).toArray.size = 7 := rfl
  simp only [Option.map_some, hsz, hm]
  have : (opCells 0 0).toArray[j]? = some u := by simpa using hu
  rw [getElem!_def, this]

/-- A block by what each cell holds. -/
def Blk (w : World) (b m : Nat) (G : Nat → Value) : Prop :=
  b < w.heap.size ∧ (∀ i, i < m → w.cell? ⟨b, i, none⟩ = some (G i)) ∧ ∀ i, w.frozen? ⟨b, i, none⟩ = false
theorem Blk.set {w : World} {b m : Nat} {G : Nat → Value} (h : Blk w b m G) {p : Nat} (hp : p < m) (v : Value) : Blk (w.setCell ⟨b, p, none⟩ v) b m (fun i => if i = p then v else G i) := by
  refine ⟨by simpa using h.1, fun i hi => ?_, fun i => by rw [World.frozen?_setCell]; exact h.2.2 i⟩
  by_cases e : i = p
  · subst e
    rw [World.cell?_setCell_same' _ _ _ (by rw [h.2.1 i hi]; rfl)]
    simp
  · rw [World.cell?_setCell_other _ _ _ _ (by simp [e]), h.2.1 i hi]
    simp [e]
theorem Blk.drew {w : World} {b m : Nat} {G : Nat → Value} (h : Blk w b m G) : Blk w.drew b m G := h
def opG (K X : Nat → Int) (i : Nat) : Value := (opCells (K (i / 7)) (X (i / 7))).getD (i % 7) undef
theorem opG_at (K X : Nat → Int) (i j : Nat) (hj : j < 7) : opG K X (i * 7 + j) = (opCells (K i) (X i)).getD j undef := by
  unfold opG
  rw [show (i * 7 + j) / 7 = i by omega, show (i * 7 + j) % 7 = j by omega]
theorem OpsB.blk {w : World} {b n : Nat} {K X : Nat → Int} (h : OpsB w b n K X) : Blk w b (n * 7) (opG K X) := by
  refine ⟨h.1, fun i hi => ?_, h.2.2⟩
  have hj : i % 7 < (opCells (K (i / 7)) (X (i / 7))).length := by show i % 7 < 7; omega
  have := h.2.1 (i / 7) (by omega) (i % 7) _ (List.getElem?_eq_getElem hj)
  rw [show i / 7 * 7 + i % 7 = i by omega] at this
  rw [this]
  unfold opG
  rw [List.getD_eq_getElem?_getD, List.getElem?_eq_getElem hj]
  rfl
theorem Blk.ops {w : World} {b n : Nat} {K X : Nat → Int} {G : Nat → Value} (h : Blk w b (n * 7) G) (e : ∀ i, i < n * 7 → G i = opG K X i) : OpsB w b n K X := by
  refine ⟨h.1, fun i hi j u hu => ?_, h.2.2⟩
  have hj : j < 7 := (List.getElem?_eq_some_iff.1 hu).1
  rw [h.2.1 _ (by omega), e _ (by omega), opG_at _ _ _ _ hj, List.getD_eq_getElem?_getD, hu]
  rfl
set_option maxHeartbeats 1000000 in
theorem OpsB.put {w : World} {b n : Nat} {K X : Nat → Int} (h : OpsB w b n K X) {k : Nat} (hk : k < n) (q x : Int) :
    OpsB (((((((w.setCell ⟨b, k * 7, none⟩ (.int .u8 q)).setCell ⟨b, k * 7 + 1, none⟩ (.bool false)).setCell ⟨b, k * 7 + 2, none⟩ (.bool false)).setCell ⟨b, k * 7 + 3, none⟩ (.int .i64 x)).setCell ⟨b, k * 7 + 4, none⟩ (.string ⟨#[]⟩)).setCell ⟨b, k * 7 + 5, none⟩ (.int .i64 0)).setCell ⟨b, k * 7 + 6, none⟩ (.pointer none)).drew b n (fun i => if i = k then q else K i) (fun i => if i = k then x else X i) := by
  have h0 := h.blk
  have g1 := h0.set (p := k * 7) (by omega) (.int .u8 q)
  have g2 := g1.set (p := k * 7 + 1) (by omega) (.bool false)
  have g3 := g2.set (p := k * 7 + 2) (by omega) (.bool false)
  have g4 := g3.set (p := k * 7 + 3) (by omega) (.int .i64 x)
  have g5 := g4.set (p := k * 7 + 4) (by omega) (.string ⟨#[]⟩)
  have g6 := g5.set (p := k * 7 + 5) (by omega) (.int .i64 0)
  have g7 := g6.set (p := k * 7 + 6) (by omega) (.pointer none)
  refine Blk.ops g7.drew fun i hi => ?_
  by_cases e : i / 7 = k
  · have hlt : i % 7 < 7 := by omega
    have hi' : i = k * 7 + i % 7 := by omega
    generalize i % 7 = j at hlt hi'
    subst hi'
    have o0 : opG (fun i => if i = k then q else K i) (fun i => if i = k then x else X i) (k * 7) = .int .u8 q := by
      have h := opG_at (fun i => if i = k then q else K i) (fun i => if i = k then x else X i) k 0 (by omega)
      rw [Nat.add_zero] at h
      rw [h]; simp [opCells]
    have o1 : opG (fun i => if i = k then q else K i) (fun i => if i = k then x else X i) (k * 7 + 1) = .bool false := by
      have h := opG_at (fun i => if i = k then q else K i) (fun i => if i = k then x else X i) k 1 (by omega)
      rw [h]; simp [opCells]
    have o2 : opG (fun i => if i = k then q else K i) (fun i => if i = k then x else X i) (k * 7 + 2) = .bool false := by
      have h := opG_at (fun i => if i = k then q else K i) (fun i => if i = k then x else X i) k 2 (by omega)
      rw [h]; simp [opCells]
    have o3 : opG (fun i => if i = k then q else K i) (fun i => if i = k then x else X i) (k * 7 + 3) = .int .i64 x := by
      have h := opG_at (fun i => if i = k then q else K i) (fun i => if i = k then x else X i) k 3 (by omega)
      rw [h]; simp [opCells]
    have o4 : opG (fun i => if i = k then q else K i) (fun i => if i = k then x else X i) (k * 7 + 4) = .string ⟨#[]⟩ := by
      have h := opG_at (fun i => if i = k then q else K i) (fun i => if i = k then x else X i) k 4 (by omega)
      rw [h]; simp [opCells]
    have o5 : opG (fun i => if i = k then q else K i) (fun i => if i = k then x else X i) (k * 7 + 5) = .int .i64 0 := by
      have h := opG_at (fun i => if i = k then q else K i) (fun i => if i = k then x else X i) k 5 (by omega)
      rw [h]; simp [opCells]
    have o6 : opG (fun i => if i = k then q else K i) (fun i => if i = k then x else X i) (k * 7 + 6) = .pointer none := by
      have h := opG_at (fun i => if i = k then q else K i) (fun i => if i = k then x else X i) k 6 (by omega)
      rw [h]; simp [opCells]
    match j, hlt with
    | 0, _ => simp [o0]
    | 1, _ => simp [o1]
    | 2, _ => simp [o2]
    | 3, _ => simp [o3]
    | 4, _ => simp [o4]
    | 5, _ => simp [o5]
    | 6, _ => simp [o6]
  · have hne : ∀ j, j < 7 → ¬ (i = k * 7 + j) := fun j hj e2 => e (by omega)
    have h0' := hne 0 (by omega)
    rw [Nat.add_zero] at h0'
    simp only [h0', hne 1 (by omega), hne 2 (by omega), hne 3 (by omega), hne 4 (by omega), hne 5 (by omega), hne 6 (by omega), if_false]
    unfold opG
    simp only [if_neg e]

theorem step_fun (f : Nat → Int) (k : Nat) : (fun i => if i = k then f k else if i < k then f i else 0) = fun i => if i < k + 1 then f i else 0 := by
  funext i
  by_cases e : i = k
  · simp [e]
  · by_cases e2 : i < k
    · rw [if_neg e, if_pos e2, if_pos (by omega)]
    · rw [if_neg e, if_neg e2, if_neg (by omega)]
def OpsPost (n : Nat) (K X : Nat → Int) (w : World) (e : Ending) (w' : World) : Prop :=
  ∃ b, e = .returned (.slice (some ⟨b, 0, none⟩) n n) ∧ w.heap.size ≤ b ∧ OpsB w' b n K X ∧ Below w.heap.size w w'

set_option maxHeartbeats 1000000 in
set_option maxRecDepth 100000 in
theorem buildOps_any (a : Option Addr) (n c : Nat) (X : Nat → Int) (ak : Option Addr) (l ck : Nat) (Z : Nat → Int) (w : World) (hX : Cells w a n (fun i => .int .i64 (X i))) (hZ : Cells w ak l (fun i => .int .u8 (Z i))) (hn : n ≤ 4096) (hl : l ≤ 4096) :
    Calls Try.prog 11 #[.slice a n c, .slice ak l ck] w (OpsPost n (kd Z l) X w) := by
  have HX : Hid (Cells w a n (fun i => .int .i64 (X i))) := hX
  have HZ : Hid (Cells w ak l (fun i => .int .u8 (Z i))) := hZ
  have mk : ∀ W : World, (Instr.makeSlice 29 (.int .i64 (n : Int)) (.int .i64 (n : Int))).run Try.prog W = .ok (.slice (some ⟨W.heap.size, 0, none⟩) n n) (W.alloc (.cells (madeCells (opCells 0 0).toArray (n * 7)) 34)) := fun W => make_ops W n hn
  clear hX hZ
  go_enter Try.func11, Try.ntmps11
  go_wp2
  clear mk
  have NB : Hid (OpsB (w.alloc (.cells (madeCells (opCells 0 0).toArray (n * 7)) 34)) w.heap.size n (fun i => if i < 0 then kd Z l i else 0) (fun i => if i < 0 then X i else 0)) := OpsB.new w n
  have BB : Hid (Below w.heap.size w (w.alloc (.cells (madeCells (opCells 0 0).toArray (n * 7)) 34))) := (Below.refl _ _).alloc (Nat.le_refl _) _
  generalize w.alloc (.cells (madeCells (opCells 0 0).toArray (n * 7)) 34) = w1 at *
  go_loopw [6] (fun s wr => ∃ k : Nat, s = .int .i64 (k : Int) ∧ k ≤ n ∧ Hid (OpsB wr w.heap.size n (fun i => if i < k then kd Z l i else 0) (fun i => if i < k then X i else 0)) ∧ Hid (Below w.heap.size w wr)) (fun s _ => ((n : Int) - intOf s).toNat)
  case atStart => exact ⟨0, rfl, Nat.zero_le _, NB, BB⟩
  case round =>
    obtain ⟨k, rfl, hk, BK, BR⟩ := hrel
    by_cases hlt : k < n
    · obtain ⟨b, o, rfl, hb, hc⟩ : ∃ b o, a = some ⟨b, o, none⟩ ∧ b < w.heap.size ∧ ∀ i, i < n → w.cell? ⟨b, o + i, none⟩ = some (.int .i64 (X i)) := by
        rcases HX.out with h | h
        · omega
        · exact h
      have ck' : wr.cell? ⟨b, o + k, none⟩ = some (.int .i64 (X k)) := (BR.out.cell (p := ⟨b, o + k, none⟩) hb).trans (hc k hlt)
      have KA : Hid (∀ W, Below w.heap.size w W → Calls Try.prog 19 #[.slice ak l ck, .int .i64 (k : Int)] W fun e w' => e = .returned (.int .u8 (kd Z l k)) ∧ w' = W) := fun W hW => kindAt_any ak l ck Z k W (Cells.bel HZ.out hW) (by omega) hl
      have KB : Hid (Calls Try.prog 19 #[.slice ak l ck, .int .i64 (k : Int)] wr.drew fun e w' => e = .returned (.int .u8 (kd Z l k)) ∧ w' = wr.drew) := KA.out _ BR.out.drew
      have s0 := BK.out.2.1 k hlt 0 _ rfl
      have z0 := BK.out.2.2 (k * 7)
      have s1 := BK.out.2.1 k hlt 1 _ rfl
      have z1 := BK.out.2.2 (k * 7 + 1)
      have s2 := BK.out.2.1 k hlt 2 _ rfl
      have z2 := BK.out.2.2 (k * 7 + 2)
      have s3 := BK.out.2.1 k hlt 3 _ rfl
      have z3 := BK.out.2.2 (k * 7 + 3)
      have s4 := BK.out.2.1 k hlt 4 _ rfl
      have z4 := BK.out.2.2 (k * 7 + 4)
      have s5 := BK.out.2.1 k hlt 5 _ rfl
      have z5 := BK.out.2.2 (k * 7 + 5)
      have s6 := BK.out.2.1 k hlt 6 _ rfl
      have z6 := BK.out.2.2 (k * 7 + 6)
      simp only [Nat.add_zero] at s0
      clear hc
      go_wp2
      go_region_with (go_at_call 19; refine Calls.mono KB.out ?_; rintro e w' ⟨rfl, rfl⟩)
      all_goals
        go_wp2
        go_roundw
        case rel =>
          refine ⟨k + 1, by go_num, by omega, ?_, ?_⟩
          · have h := BK.out.put hlt (kd Z l k) (X k)
            have e1 : (fun i => if i = k then kd Z l k else if i < k then kd Z l i else 0) = fun i => if i < k + 1 then kd Z l i else 0 := step_fun _ _
            have e2 : (fun i => if i = k then X k else if i < k then X i else 0) = fun i => if i < k + 1 then X i else 0 := step_fun _ _
            rw [e1, e2] at h
            exact h
          · exact (((((((BR.out.setCell (Nat.le_refl _) _).setCell (Nat.le_refl _) _).setCell (Nat.le_refl _) _).setCell (Nat.le_refl _) _).setCell (Nat.le_refl _) _).setCell (Nat.le_refl _) _).setCell (Nat.le_refl _) _).drew
        case measure => simp [intOf]; omega
    · obtain rfl : n = k := by omega
      have hd : decide ((n : Int) < (n : Int)) = false := decide_eq_false (by omega)
      go_wp2
      go_ret
      refine ⟨_, rfl, Nat.le_refl _, ?_, BR.out⟩
      have h := BK.out.blk
      refine h.ops fun i hi => ?_
      show (opCells (if i / 7 < n then kd Z l (i / 7) else 0) (if i / 7 < n then X (i / 7) else 0)).getD (i % 7) undef = _
      rw [if_pos (by omega), if_pos (by omega)]
      rfl
end Go.Proofs.Qxb6608766a
