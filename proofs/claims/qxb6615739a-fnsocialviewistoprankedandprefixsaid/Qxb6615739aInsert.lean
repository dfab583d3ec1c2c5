import Derived.Test.Qxb6615739aCopy
namespace Go.Proofs.Qxb6615739a
open Go.RowKit
set_option linter.unusedSimpArgs false
set_option linter.unusedVariables false

theorem info66 : (Try.prog.info? 66).map (fun i => (i.zero, i.size, i.bytes)) = some (some (.agg #[.int .i64 0, .int .u64 0, .int .u64 0]), 3, 24) := by kernel_rfl
theorem size66 : (Try.prog.info? 66).map (·.size) = some 3 := by kernel_rfl

def InsPost (base : Nat) (v : Value) (n : Nat) (ys : List Value) (w : World) (e : Ending) (w' : World) : Prop :=
  ∃ v', e = .returned v' ∧ w'.ownsRow base 66 3 v' (n + 1) ys ∧ w.grownBy w' v.ownBlock

theorem cells_of_block {w : World} {b : Nat} {cs : List Value} {T : TypeId} {fz : Nat × Nat} (h : w.heap[b]? = some (.cells cs.toArray T fz)) : ∀ j u, cs[j]? = some u → w.cell? ((⟨b, 0, none⟩ : Addr).add j) = some u := by
  intro j u hj
  have : (⟨b, 0, none⟩ : Addr).add j = ⟨b, j, none⟩ := by rw [Addr.add_lit, Nat.zero_add]
  rw [this]
  simp [World.cell?, h, hj]

theorem cells_one (x : Fr) : ∀ u ∈ Fr.cells x, u.oneCell' = true := by
  intro u hu
  simp [Fr.cells] at hu
  rcases hu with rfl | rfl | rfl <;> rfl

set_option maxHeartbeats 1000000 in
set_option maxRecDepth 100000 in
theorem insert_end (base : Nat) (v : Value) (n vb : Nat) (xs : List Value) (x : Fr) (w : World) (hn : n ≤ 4096) (hown : w.ownsRow base 66 3 v n xs) (hb : base ≤ w.heap.size)
    (hvb : w.heap[vb]? = some (.cells (Fr.cells x).toArray 66 (0, 0))) :
    Calls Try.prog 47 #[v, .int .i64 n, .slice (some ⟨vb, 0, none⟩) 1 1] w (InsPost base v n (xs ++ Fr.cells x) w) := by
  obtain ⟨i0, hi, hz0, hz1, hz2⟩ := info_parts info66
  have hnews := cells_of_block hvb
  have HN : Hid _ := hnews
  have HO : Hid _ := hown
  have ex : ∃ a c, v = .slice a n c ∧ (a = none → n = 0) ∧ n ≤ c ∧ (n = 0 → True) := by
    rcases hown.2 with ⟨h1, h2⟩ | ⟨g, cap, cur, h1, _, _, h2, _⟩
    · exact ⟨none, 0, by rw [h1, h2], fun _ => h2, by omega, fun _ => trivial⟩
    · exact ⟨some ⟨g, 0, none⟩, cap, h1, (fun h => by cases h), h2, fun _ => trivial⟩
  obtain ⟨a, c, rfl, ha, hc, _⟩ := ex
  clear hnews hown
  have h1 := cells_one x
  have H1 : Hid _ := h1
  clear h1
  rcases a with _ | ⟨g, go, gs⟩
  · obtain rfl := ha rfl
    clear ha
    go_enter Try.func47, Try.ntmps47
    go_wp2_with (at_builtin; refine wpList_append_own _ rfl _ _ 60 rfl base 66 i0 (.agg #[.int .i64 0, .int .u64 0, .int .u64 0]) 3 24 Try.underlying60 hi hz0 hz1 hz2 rfl (by decide) _ _ _ rfl HO.out ⟨vb, 0, none⟩ 1 1 (Fr.cells x) rfl rfl HN.out H1.out (by unfold maxLen; omega) (by omega) hb ?_)
    intro v' w' h1 h2 _
    go_wp2
    go_ret
    exact ⟨v', rfl, h1, h2⟩
  · clear ha
    go_enter Try.func47, Try.ntmps47
    go_wp2_with (at_builtin; refine wpList_append_own _ rfl _ _ 60 rfl base 66 i0 (.agg #[.int .i64 0, .int .u64 0, .int .u64 0]) 3 24 Try.underlying60 hi hz0 hz1 hz2 rfl (by decide) _ _ _ rfl HO.out ⟨vb, 0, none⟩ 1 1 (Fr.cells x) rfl rfl HN.out H1.out (by unfold maxLen; omega) (by omega) hb ?_)
    all_goals
      intro v' w' h1 h2 _
      go_wp2
      go_ret
      exact ⟨v', rfl, h1, h2⟩

theorem shape_of_block {w : World} {b : Nat} {cs : Array Value} {T : TypeId} {fz : Nat × Nat} (h : w.heap[b]? = some (.cells cs T fz)) : w.shape? b = some (T, cs.size) := by simp [World.shape?, h]
theorem frozen_of_block {w : World} {b o : Nat} {cs : Array Value} {T : TypeId} (h : w.heap[b]? = some (.cells cs T (0, 0))) : w.frozen? ⟨b, o, none⟩ = false := by simp [World.frozen?, h]

theorem cells_from_block {w : World} {b off : Nat} {cur cs : List Value} {T : TypeId} {fz : Nat × Nat} (h : w.heap[b]? = some (.cells cur.toArray T fz)) (hc : ∀ j u, cs[j]? = some u → cur[off + j]? = some u) : ∀ j u, cs[j]? = some u → w.cell? ((⟨b, off, none⟩ : Addr).add j) = some u := by
  intro j u hj
  rw [Addr.add_lit]
  have := hc j u hj
  simp [World.cell?, h, this]

theorem grownBy_trans {a b c : World} {r : Option Nat} (h : a.grownBy b r) (k : b.grownBy c r) : a.grownBy c r :=
  ⟨k.os.trans h.os, k.tape.trans h.tape, k.output.trans h.output, Nat.le_trans h.size k.size, fun i hi hr => (k.block i (Nat.lt_of_lt_of_le hi h.size) hr).trans (h.block i hi hr)⟩
theorem grownBy_drew (w : World) (r : Option Nat) : w.grownBy w.drew r := ⟨rfl, rfl, rfl, Nat.le_refl _, fun _ _ _ => rfl⟩

theorem drop_at (xs cur : List Value) (N a : Nat) (hx : cur.take N = xs) : ∀ j u, (xs.drop a)[j]? = some u → cur[a + j]? = some u := by
  intro j u hj
  rw [← hx, List.getElem?_drop, List.getElem?_take] at hj
  split at hj
  · exact hj
  · cases hj

set_option maxHeartbeats 1000000 in
set_option maxRecDepth 100000 in
theorem insert_room (base g n cap i vb : Nat) (xs cur : List Value) (x : Fr) (w : World) (hn : n ≤ 4096) (hi : i < n) (hroom : n + 1 ≤ cap) (hcap : cap ≤ 9223372036854775807) (hbg : base ≤ g)
    (hg : w.heap[g]? = some (.cells cur.toArray 66 (0, 0))) (hcl : cur.length = cap * 3) (hx : cur.take (n * 3) = xs) (h1x : ∀ u ∈ xs, u.oneCell' = true)
    (hvg : vb ≠ g) (hvb : w.heap[vb]? = some (.cells (Fr.cells x).toArray 66 (0, 0))) :
    Calls Try.prog 47 #[.slice (some ⟨g, 0, none⟩) n cap, .int .i64 i, .slice (some ⟨vb, 0, none⟩) 1 1] w (InsPost base (.slice (some ⟨g, 0, none⟩) n cap) n (xs.take (i * 3) ++ (Fr.cells x ++ xs.drop (i * 3))) w) := by
  have hxl : xs.length = n * 3 := by rw [← hx, List.length_take]; omega
  have hov : ∀ lb cb, (callFunc 64 #[.slice (some ⟨vb, 0, none⟩) 1 1, .slice (some ⟨g, (i + 1) * 3, none⟩) lb cb]).run Try.prog w = .ok (.value (.bool false)) w := fun lb cb => by
    rw [run_callFunc_extern Try.func64 (by kernel_rfl) (by kernel_rfl) (by kernel_rfl) (e := Extern.SlicesOverlaps.overlaps #[60, 60] #[4]) (by kernel_rfl),
      Lib.run_overlaps_apart w 60 4 66 Try.underlying60 3 Try.sizeOf66 ⟨vb, 0, none⟩ ⟨g, (i + 1) * 3, none⟩ 1 1 lb cb hvg 66 66 _ _ (shape_of_block hvb) (shape_of_block hg) (by rw [List.size_toArray]; omega) (frozen_of_block hvb) (frozen_of_block hvb)]
    rfl
  have hz2 : ((i : Int) == (n : Int)) = false := by simp; omega
  have hnr : ¬ ((cap : Int) < (n : Int) + 1) := by omega
  go_enter Try.func47, Try.ntmps47
  go_wp2_with (simp only [hov])
  have hb2 : ¬ (cap = i + 1) := by omega
  have hb4 : ¬ (cap = i) := by omega
  have hb5 : (0 : Int) ≤ (i : Int) + 1 := by omega
  have hb6 : (i : Int) + 1 ≤ (n : Int) + 1 := by omega
  have hb7 : (i : Int) ≤ (n : Int) + 1 := by omega
  have htn : ((i : Int) + 1).toNat = i + 1 := by omega
  have hw1 : IntKind.i64.wrap ((i : Int) + 1) = (i : Int) + 1 := by rw [IntKind.wrap_i64]; omega
  have hdl : (xs.drop (i * 3)).length = (n - i) * 3 := by rw [List.length_drop, hxl]; omega
  have HG : Hid _ := hg
  have HV : Hid _ := hvb
  have HD : Hid _ := hdl
  have HS : Hid _ := drop_at xs cur (n * 3) (i * 3) hx
  have H1 : Hid (∀ u ∈ xs.drop (i * 3), u.oneCell' = true) := fun u hu => h1x u (List.mem_of_mem_drop hu)
  have HX : Hid _ := hx
  have HXL : Hid _ := hxl
  clear hg hvb hdl h1x hx hxl hov
  go_region_law ((refine step_copyK (by rfl) _ _ 60 60 (by rfl) 66 3 Try.underlying60 size66 g ((i + 1) * 3) (n - i) (cap - (i + 1)) ⟨g, i * 3, none⟩ (n + 1 - i) (cap - i) (by simp [Act.eval, Act.put]) (by simp [Act.eval, Act.put]) cur 66 HG.out (xs.drop (i * 3)) (n - i) (by simp only [Nat.min_def]; split <;> omega) HD.out (cells_from_block HG.out HS.out) (by rw [HD.out]; omega) H1.out ?_; intro w1 hg1 hgr1))
  have hvl : vb < w.heap.size := (Array.getElem?_eq_some_iff.1 HV.out).1
  have HV1 : Hid (w1.heap[vb]? = some (.cells (Fr.cells x).toArray 66 (0, 0))) := (hgr1.out.block vb hvl (by simpa using hvg)).trans HV.out
  have HL : Hid ((splice cur ((i + 1) * 3) (xs.drop (i * 3))).length = cap * 3) := by
    show _ = _
    rw [length_splice _ _ _ (by rw [HD.out]; omega)]
    exact hcl
  have hcp0 := run_copy_rowK (P := Try.prog) w1 60 60 3 66 3 g (i * 3) (n + 1 - i) (cap - i) ⟨vb, 0, none⟩ 1 1 (splice cur ((i + 1) * 3) (xs.drop (i * 3))).toArray 66 (Fr.cells x) 1 Try.underlying60 size66 hg1.out (by simp only [Nat.min_def]; split <;> omega) (by rfl) (cells_of_block HV1.out) (by rw [List.size_toArray, HL.out]; simp [Fr.cells]; omega) (cells_one x)
  obtain ⟨w2, hcp, hg2, hgr2⟩ : ∃ w2, (Builtin.copy_ #[60, 60] 3 #[.slice (some ⟨g, i * 3, none⟩) (n + 1 - i) (cap - i), .slice (some ⟨vb, 0, none⟩) 1 1]).run Try.prog w1 = .ok (goInt 1) w2 ∧
      Hid (w2.heap[g]? = some (.cells (splice (splice cur ((i + 1) * 3) (xs.drop (i * 3))) (i * 3) (Fr.cells x)).toArray 66 (0, 0))) ∧ Hid (w1.grownBy w2 (some g)) :=
    ⟨_, hcp0, setRow_heap w1 g _ _ 66 _ hg1.out, ⟨rfl, rfl, rfl, by simp, fun j _ hj => setRow_other w1 g j _ (fun e => hj (by rw [e]))⟩⟩
  clear hcp0
  go_wp2
  go_ret
  refine ⟨_, rfl, ⟨?_, .inr ⟨g, cap, _, rfl, hbg, hg2.out, hroom, by unfold maxLen; omega, ?_, ?_⟩⟩, ?_⟩
  · simp [Fr.cells, HXL.out]; omega
  · rw [List.size_toArray, length_splice _ _ _ (by rw [HL.out]; simp [Fr.cells]; omega), HL.out]
  · rw [show (n + 1) * 3 = n * 3 + 3 by omega, show (i + 1) * 3 = i * 3 + 3 by omega]
    exact splice_shift cur xs (Fr.cells x) (n * 3) (i * 3) 3 HX.out (by omega) (by omega) rfl
  · exact grownBy_trans (grownBy_trans (grownBy_drew w _) hgr1.out) hgr2.out

theorem heap_new (w : World) (o : Obj) : (w.drew.alloc o).heap[w.heap.size]? = some o := by
  show (w.heap.push o)[w.heap.size]? = some o
  simp

theorem grownBy_new (w : World) (o : Obj) (r : Option Nat) : w.grownBy (w.drew.alloc o) r :=
  ⟨rfl, rfl, rfl, by simp, fun k hk _ => Below.heap_alloc w.drew o k hk⟩

/-- Blocks of old that are not written: 'grownBy' at a row that is new. -/
theorem grownBy_fresh {a b c : World} {g : Nat} {r : Option Nat} (h : a.grownBy b r) (k : b.grownBy c (some g)) (hg : a.heap.size ≤ g) : a.grownBy c r :=
  ⟨k.os.trans h.os, k.tape.trans h.tape, k.output.trans h.output, Nat.le_trans h.size k.size, fun i hi hr => (k.block i (Nat.lt_of_lt_of_le hi h.size) (fun e => by cases e; omega)).trans (h.block i hi hr)⟩

set_option maxHeartbeats 1000000 in
set_option maxRecDepth 100000 in
theorem insert_grow (base g n cap i vb : Nat) (xs cur : List Value) (x : Fr) (w : World) (hn : n ≤ 4096) (hi : i < n) (hnc : n ≤ cap) (hroom : cap < n + 1) (hbw : base ≤ w.heap.size)
    (hg : w.heap[g]? = some (.cells cur.toArray 66 (0, 0))) (hcl : cur.length = cap * 3) (hx : cur.take (n * 3) = xs) (h1x : ∀ u ∈ xs, u.oneCell' = true)
    (hvb : w.heap[vb]? = some (.cells (Fr.cells x).toArray 66 (0, 0))) :
    Calls Try.prog 47 #[.slice (some ⟨g, 0, none⟩) n cap, .int .i64 i, .slice (some ⟨vb, 0, none⟩) 1 1] w (InsPost base (.slice (some ⟨g, 0, none⟩) n cap) n (xs.take (i * 3) ++ (Fr.cells x ++ xs.drop (i * 3))) w) := by
  obtain ⟨i0, hi0, hz0, hz1, hz2⟩ := info_parts info66
  have hxl : xs.length = n * 3 := by rw [← hx, List.length_take]; omega
  have hgl : g < w.heap.size := (Array.getElem?_eq_some_iff.1 hg).1
  have hvl : vb < w.heap.size := (Array.getElem?_eq_some_iff.1 hvb).1
  have hold : (Builtin.firstCells i0.size i (.slice (some ⟨g, 0, none⟩) i cap)).run Try.prog w.drew = .ok (xs.take (i * 3)).toArray w.drew := by
    rw [hz1]
    refine run_firstCells_some w.drew 3 i ⟨g, 0, none⟩ i cap (xs.take (i * 3)) (by rw [List.length_take]; omega) (fun j v hj => ?_)
    refine cells_from_block (w := w.drew) (off := 0) hg (fun j u hj => ?_) j v hj
    rw [Nat.zero_add]
    rw [List.getElem?_take] at hj
    split at hj
    · have := drop_at xs cur (n * 3) 0 hx j u (by simpa using hj)
      simpa using this
    · cases hj
  have hik : i + (n + 1 - i) = n + 1 := by omega
  have hkk : (n : Int) + 1 - (i : Int) = ((n + 1 - i : Nat) : Int) := by omega
  have hrz0 : ∀ ty, (Builtin.append_ #[60, 3] ty #[.slice (some ⟨g, 0, none⟩) i cap, .int .i64 ((n : Int) + 1 - (i : Int))]).run Try.prog w =
      .ok (.slice (some ⟨w.heap.size, 0, none⟩) (n + 1) (grownCap w (n + 1) cap 66)) (w.drew.alloc (.cells ((xs.take (i * 3)).toArray ++ Builtin.zeroCells (Value.agg #[.int .i64 0, .int .u64 0, .int .u64 0]).cells (n + 1 - i) ++ Builtin.zeroCells (Value.agg #[.int .i64 0, .int .u64 0, .int .u64 0]).cells (grownCap w (n + 1) cap 66 - (n + 1))) 66)) := fun ty => by
    have h := Lib.run_append_grow_zeros w 60 3 ty 66 i0 _ .i64 .i64 Try.underlying60 Try.underlying3 hi0 hz0 (some ⟨g, 0, none⟩) i cap (xs.take (i * 3)) hold (n + 1 - i) (by omega) (by omega) (by omega) (by omega) (by rw [hz2]; omega) (by rw [hz2, hik]; exact growslice_fits hroom (by omega))
    rw [hik] at h
    rw [hkk]
    exact h
  have hG1 := grownCap_ge w (n + 1) cap 66
  have hG2 := grownCap_le_maxLen w (n + 1) cap 66 (by unfold maxLen; omega)
  generalize grownCap w (n + 1) cap 66 = G at *
  unfold maxLen at hG2
  obtain ⟨row, hrow, hrt, hrl⟩ : ∃ row : List Value, (xs.take (i * 3)).toArray ++ Builtin.zeroCells (Value.agg #[.int .i64 0, .int .u64 0, .int .u64 0]).cells (n + 1 - i) ++ Builtin.zeroCells (Value.agg #[.int .i64 0, .int .u64 0, .int .u64 0]).cells (G - (n + 1)) = row.toArray ∧ row.take (i * 3) = xs.take (i * 3) ∧ row.length = G * 3 := by
    refine ⟨_, (Array.toArray_toList).symm, ?_, ?_⟩
    · rw [Array.toList_append, Array.toList_append, List.append_assoc]
      exact List.take_left' (by simp [List.length_take]; omega)
    · simp [Builtin.zeroCells, Value.cells, hxl]
      omega
  rw [hrow] at hrz0
  obtain ⟨W1, hrz, HW, HR⟩ : ∃ W1, (∀ ty, (Builtin.append_ #[60, 3] ty #[.slice (some ⟨g, 0, none⟩) i cap, .int .i64 ((n : Int) + 1 - (i : Int))]).run Try.prog w = .ok (.slice (some ⟨w.heap.size, 0, none⟩) (n + 1) G) W1) ∧ Hid (W1.heap[w.heap.size]? = some (.cells row.toArray 66 (0, 0))) ∧ Hid (∀ r, w.grownBy W1 r) :=
    ⟨_, hrz0, heap_new w _, fun r => grownBy_new w _ r⟩
  clear hrz0 hrow hold hik hkk hi0 hz0 hz1 hz2
  have HV1 : Hid (W1.heap[vb]? = some (.cells (Fr.cells x).toArray 66 (0, 0))) := ((HR.out none).block vb hvl (by simp)).trans hvb
  have HG1 : Hid (W1.heap[g]? = some (.cells cur.toArray 66 (0, 0))) := ((HR.out none).block g hgl (by simp)).trans hg
  have hcp0 := run_copy_rowK (P := Try.prog) W1 60 60 3 66 3 w.heap.size (i * 3) (n + 1 - i) (G - i) ⟨vb, 0, none⟩ 1 1 row.toArray 66 (Fr.cells x) 1 Try.underlying60 size66 HW.out (by simp only [Nat.min_def]; split <;> omega) (by rfl) (cells_of_block HV1.out) (by rw [List.size_toArray, hrl]; simp [Fr.cells]; omega) (cells_one x)
  obtain ⟨W2, hcp, HW2, HR2⟩ : ∃ w2, (Builtin.copy_ #[60, 60] 3 #[.slice (some ⟨w.heap.size, i * 3, none⟩) (n + 1 - i) (G - i), .slice (some ⟨vb, 0, none⟩) 1 1]).run Try.prog W1 = .ok (goInt 1) w2 ∧
      Hid (w2.heap[w.heap.size]? = some (.cells (splice row (i * 3) (Fr.cells x)).toArray 66 (0, 0))) ∧ Hid (W1.grownBy w2 (some w.heap.size)) :=
    ⟨_, hcp0, setRow_heap W1 w.heap.size _ _ 66 _ HW.out, ⟨rfl, rfl, rfl, by simp, fun j _ hj => setRow_other W1 w.heap.size j _ (fun e => hj (by rw [e]))⟩⟩
  clear hcp0
  have HG2 : Hid (W2.heap[g]? = some (.cells cur.toArray 66 (0, 0))) := (HR2.out.block g (Nat.lt_of_lt_of_le hgl (HR.out none).size) (by simp; omega)).trans HG1.out
  have hdl : (xs.drop (i * 3)).length = (n - i) * 3 := by rw [List.length_drop, hxl]; omega
  have HD : Hid _ := hdl
  have HS : Hid _ := drop_at xs cur (n * 3) (i * 3) hx
  have H1 : Hid (∀ u ∈ xs.drop (i * 3), u.oneCell' = true) := fun u hu => h1x u (List.mem_of_mem_drop hu)
  have HXL : Hid _ := hxl
  have HRT : Hid _ := hrt
  have HRL : Hid _ := hrl
  have HL : Hid ((splice row (i * 3) (Fr.cells x)).length = G * 3) := by
    show _ = _
    rw [length_splice _ _ _ (by rw [hrl]; simp [Fr.cells]; omega)]
    exact hrl
  clear hg hvb hdl h1x hx hxl hrt hrl
  have q1 : ((i : Int) == (n : Int)) = false := by simp; omega
  have q2 : (cap : Int) < (n : Int) + 1 := by omega
  have hb2 : ¬ (G = i + 1) := by omega
  have hb4 : ¬ (G = i) := by omega
  have hb3 : ¬ (cap = i) := by omega
  have hb5 : (0 : Int) ≤ (i : Int) + 1 := by omega
  have hb6 : (i : Int) + 1 ≤ (n : Int) + 1 := by omega
  have hb7 : (i : Int) ≤ (n : Int) + 1 := by omega
  have hb8 : (i : Int) ≤ (n : Int) := by omega
  have htn : ((i : Int) + 1).toNat = i + 1 := by omega
  have hw1 : IntKind.i64.wrap ((i : Int) + 1) = (i : Int) + 1 := by rw [IntKind.wrap_i64]; omega
  go_enter Try.func47, Try.ntmps47
  go_wp2_with (at_builtin; refine Lib.wpList_append_run _ rfl _ _ _ _ rfl _ _ rfl rfl _ _ (hrz _) ?_)
  go_region_law ((refine step_copyK (by rfl) _ _ 60 60 (by rfl) 66 3 Try.underlying60 size66 w.heap.size ((i + 1) * 3) (n - i) (G - (i + 1)) ⟨g, i * 3, none⟩ (n - i) (cap - i) (by simp [Act.eval, Act.put]) (by simp [Act.eval, Act.put]) (splice row (i * 3) (Fr.cells x)) 66 HW2.out (xs.drop (i * 3)) (n - i) (by simp only [Nat.min_def]; split <;> omega) HD.out (cells_from_block HG2.out HS.out) (by rw [HD.out, HL.out]; omega) H1.out ?_; intro W3 HW3 HR3))
  go_wp2
  go_ret
  refine ⟨_, rfl, ⟨?_, .inr ⟨w.heap.size, G, _, rfl, hbw, HW3.out, hG1, by unfold maxLen; omega, ?_, ?_⟩⟩, ?_⟩
  · simp [Fr.cells, HXL.out]; omega
  · rw [List.size_toArray, length_splice _ _ _ (by rw [HL.out, HD.out]; omega), HL.out]
  · rw [show (n + 1) * 3 = n * 3 + 3 by omega, show (i + 1) * 3 = i * 3 + 3 by omega]
    exact splice_grown row xs (Fr.cells x) (n * 3) (i * 3) 3 HXL.out HRT.out (by rw [HRL.out]; omega) (by omega) rfl
  · exact grownBy_fresh (grownBy_fresh (HR.out _) (grownBy_trans HR2.out (grownBy_drew W2 _)) (Nat.le_refl _)) HR3.out (Nat.le_refl _)
end Go.Proofs.Qxb6615739a
