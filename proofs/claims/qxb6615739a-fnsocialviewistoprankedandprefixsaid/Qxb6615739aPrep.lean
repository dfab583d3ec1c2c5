import Derived.Test.Qxb6615739aFriends
import Derived.Deep.OwnRows
import Derived.Deep.DeepCutAuto
import Derived.Laws.IdiomCopy
namespace Go.Proofs.Qxb6615739a
open Go.RowKit Go.Sort
set_option linter.unusedSimpArgs false
set_option linter.unusedVariables false

/-- The first n cells behind a slice's address. -/
def Cells (w : World) (a : Option Addr) (n : Nat) (f : Nat → Value) : Prop :=
  n = 0 ∨ ∃ b o, a = some ⟨b, o, none⟩ ∧ b < w.heap.size ∧ ∀ i, i < n → w.cell? ⟨b, o + i, none⟩ = some (f i)

theorem Cells.bel {w w' : World} {a : Option Addr} {n : Nat} {f : Nat → Value} (h : Cells w a n f) (g : Below w.heap.size w w') : Cells w' a n f := by
  rcases h with h | ⟨b, o, ha, hb, hc⟩
  · exact .inl h
  · exact .inr ⟨b, o, ha, Nat.lt_of_lt_of_le hb g.size, fun i hi => (g.cell (p := ⟨b, o + i, none⟩) hb).trans (hc i hi)⟩

/-- 'zzc := make([]T, len(s)); copy(zzc, s)', s not nil. -/
theorem copy_run {P : Program} (W : World) (T e ty : TypeId) (z : Value) (ad : Addr) (n c : Nat) (f : Nat → Value) (hu : P.underlying T = some (.slice e)) (hs : (P.info? e).map (·.size) = some 1)
    (h : Cells W (some ad) n f) (h1 : ∀ i, (f i).oneCell' = true) :
    ∃ W2, (Builtin.copy_ #[T, T] ty #[.slice (some ⟨W.heap.size, 0, none⟩) n n, .slice (some ad) n c]).run P (W.alloc (.cells (madeCells #[z] n) e)) = .ok (goInt n) W2 ∧ Gr W W2 ∧ W.heap.size < W2.heap.size ∧ ∀ i, i < n → W2.cell? ⟨W.heap.size, i, none⟩ = some (f i) := by
  by_cases h0 : n = 0
  · subst h0
    refine ⟨_, run_copy_none (P := P) _ T T ty e _ _ 0 0 0 c hu hs rfl, (Gr.refl W).alloc _, by simp, fun i hi => by omega⟩
  · rcases h with h | ⟨b, o, ha, hb, hc⟩
    · exact absurd h h0
    cases ha
    have hl : ((List.range n).map f).length = n := by simp
    have hr := run_copy_row (P := P) (W.alloc (.cells (madeCells #[z] n) e)) T T ty e W.heap.size 0 n n ⟨b, o, none⟩ n c (madeCells #[z] n) e ((List.range n).map f) hu hs (heap_alloc_new W _) (by rw [hl]; exact (Nat.min_self n).symm)
      (fun j v hj => by
        rw [Addr.add_lit]
        have hj' : j < n := by
          have := (List.getElem?_eq_some_iff.1 hj).1
          rwa [hl] at this
        have hv : f j = v := by simpa [hj'] using hj
        rw [← hv, ← hc j hj']
        exact ((Gr.refl W).alloc _).cell hb)
      (by rw [hl, size_madeCells]; omega) (fun v hv => by
        obtain ⟨i, _, rfl⟩ := List.mem_map.1 hv
        exact h1 i)
    rw [hl] at hr
    refine ⟨_, hr, ?_, by simp, fun i hi => ?_⟩
    · exact ⟨⟨rfl, rfl, rfl, by simp, fun k hk => by rw [setRow_other _ _ _ _ (by omega)]; exact Below.heap_alloc W _ k hk⟩, Nat.le_refl _⟩
    · refine cell_blk (setRow_heap _ W.heap.size _ _ e _ (heap_alloc_new W _)) ?_
      have hlm : (madeCells #[z] n).toList.length = n := by simp [size_madeCells]
      simp [hi, hlm]

/-- .. the address behind a letter. -/
theorem copy_run' {P : Program} (W : World) (T e ty : TypeId) (z : Value) (a : Option Addr) (n c : Nat) (f : Nat → Value) (hu : P.underlying T = some (.slice e)) (hs : (P.info? e).map (·.size) = some 1)
    (h : Cells W a n f) (h1 : ∀ i, (f i).oneCell' = true) (ha : a.isSome = true) :
    ∃ W2, (Builtin.copy_ #[T, T] ty #[.slice (some ⟨W.heap.size, 0, none⟩) n n, .slice a n c]).run P (W.alloc (.cells (madeCells #[z] n) e)) = .ok (goInt n) W2 ∧ Gr W W2 ∧ W.heap.size < W2.heap.size ∧ ∀ i, i < n → W2.cell? ⟨W.heap.size, i, none⟩ = some (f i) := by
  cases a with
  | none => cases ha
  | some ad => exact copy_run W T e ty z ad n c f hu hs h h1

def SomeBool (w : World) (e : Ending) (w' : World) : Prop := ∃ r, e = .returned (.bool r) ∧ w = w'

set_option maxHeartbeats 1000000 in
theorem zzBytes21_any (a0 : Option Addr) (l0 c0 : Nat) (a1 : Option Addr) (l1 c1 : Nat) (a2 : Option Addr) (l2 c2 : Nat) (i3 i4 : Int) (a5 : Option Addr) (l5 c5 : Nat) (w : World) (h0 : l0 ≤ 9223372036854775807) (h1 : l1 ≤ 9223372036854775807) (h2 : l2 ≤ 9223372036854775807) (h5 : l5 ≤ 9223372036854775807) :
    Calls Try.prog 21 #[.slice a0 l0 c0, .slice a1 l1 c1, .slice a2 l2 c2, .int .i64 i3, .int .i64 i4, .slice a5 l5 c5] w (SomeBool w) := by
  go_enter Try.func21, Try.ntmps21
  go_wp2
  all_goals
    go_ret
    exact ⟨_, rfl, rfl⟩
set_option maxHeartbeats 1000000 in
theorem zzBytes14_any (a0 : Option Addr) (l0 c0 : Nat) (a1 : Option Addr) (l1 c1 : Nat) (a2 : Option Addr) (l2 c2 : Nat) (i3 i4 i5 : Int) (a6 : Option Addr) (l6 c6 : Nat) (w : World) (h0 : l0 ≤ 9223372036854775807) (h1 : l1 ≤ 9223372036854775807) (h2 : l2 ≤ 9223372036854775807) (h6 : l6 ≤ 9223372036854775807) :
    Calls Try.prog 14 #[.slice a0 l0 c0, .slice a1 l1 c1, .slice a2 l2 c2, .int .i64 i3, .int .i64 i4, .int .i64 i5, .slice a6 l6 c6] w (SomeBool w) := by
  go_enter Try.func14, Try.ntmps14
  go_wp2
  all_goals
    go_ret
    exact ⟨_, rfl, rfl⟩

set_option maxHeartbeats 400000 in
theorem newGraph_any (v0 v1 v2 : Value) (a0 : Option Addr) (l0 c0 : Nat) (a1 : Option Addr) (l1 c1 : Nat) (a2 : Option Addr) (l2 c2 : Nat) (w : World) :
    Calls Try.prog 16 #[.slice a0 l0 c0, .slice a1 l1 c1, .slice a2 l2 c2] w fun e w' => e = .returned (.pointer (some ⟨w.heap.size, 0, none⟩)) ∧ w' = w.alloc (.cells #[.slice a0 l0 c0, .slice a1 l1 c1, .slice a2 l2 c2] 57) := by
  go_enter Try.func16, Try.ntmps16
  go_wp2
  go_ret
  exact ⟨rfl, rfl⟩

/-- A block of bools of the law's own, to be written. -/
def Bools (w : World) (b n : Nat) (f : Nat → Bool) : Prop :=
  b < w.heap.size ∧ (∀ i, i < n → w.cell? ⟨b, i, none⟩ = some (.bool (f i))) ∧ ∀ i, w.frozen? ⟨b, i, none⟩ = false

theorem Bools.set {w : World} {b n : Nat} {f : Nat → Bool} (h : Bools w b n f) (k : Nat) (hk : k < n) (v : Bool) : Bools (w.setCell ⟨b, k, none⟩ (.bool v)) b n (fun i => if i = k then v else f i) := by
  refine ⟨by simpa using h.1, fun i hi => ?_, fun i => by rw [World.frozen?_setCell]; exact h.2.2 i⟩
  by_cases e : i = k
  · subst e
    rw [World.cell?_setCell_same' _ _ _ (by rw [h.2.1 i hi]; rfl)]
    simp
  · rw [World.cell?_setCell_other _ _ _ _ (by simp [e]), h.2.1 i hi]
    simp [e]
theorem Bools.bel {w w' : World} {b n : Nat} {f : Nat → Bool} (h : Bools w b n f) (g : Below w.heap.size w w') : Bools w' b n f :=
  ⟨Nat.lt_of_lt_of_le h.1 g.size, fun i hi => (g.cell (p := ⟨b, i, none⟩) h.1).trans (h.2.1 i hi), fun i => (g.frozen (p := ⟨b, i, none⟩) h.1).trans (h.2.2 i)⟩
theorem Bools.new (w : World) (n : Nat) : Bools (w.alloc (.cells (madeCells #[.bool false] n) 4)) w.heap.size n (fun _ => false) := by
  refine ⟨by simp, fun i hi => ?_, fun i => ?_⟩
  · refine cell_blk (heap_alloc_new w _) ?_
    simp [madeCells, hi, Nat.mod_one]
  · exact frozen_of_block (heap_alloc_new w _)
theorem Bools.mask {w : World} {b n : Nat} {f : Nat → Bool} (h : Bools w b n f) (hn : n ≤ 9223372036854775807) : IsMask w (some ⟨b, 0, none⟩) n n f :=
  ⟨Nat.le_refl _, hn, .inr ⟨b, rfl, h.1, h.2.1⟩⟩
theorem info4 : (Try.prog.info? 4).map (fun i => (i.zero, i.size, i.bytes)) = some (some (.bool false), 1, 1) := by kernel_rfl

theorem ownsRow_bel {w w' : World} {base e size n : Nat} {v : Value} {xs : List Value} (h : w.ownsRow base e size v n xs) (g : Below w.heap.size w w') : w'.ownsRow base e size v n xs := by
  refine h.kept (row := none) ⟨g.os, g.tape, g.output, g.size, fun k hk _ => g.block k hk⟩ ?_
  cases hv : v.ownBlock with
  | none => exact .inl rfl
  | some k => exact .inr (by simp)
theorem View.bel {w w' : World} {sv : Nat} {size : Int} {v : Value} {L : List Fr} (h : View w sv size v L) (g : Below w.heap.size w w') : View w' sv size v L :=
  ⟨(g.block sv h.lt).trans h.blk, ownsRow_bel h.own g⟩

/-- A slice that the law owns: its form and its cells. -/
theorem own_slice {w : World} {base e n : Nat} {v : Value} {xs : List Value} (h : w.ownsRow base e 1 v n xs) (f : Nat → Value) (hf : ∀ i, i < n → xs[i]? = some (f i)) :
    ∃ a c, v = .slice a n c ∧ Cells w a n f := by
  obtain ⟨h0, ⟨h1, h2⟩ | ⟨g, cap, cur, hv, hg, hh, hn, hc, hs, ht⟩⟩ := h
  · exact ⟨none, 0, by rw [h1, h2], .inl h2⟩
  · refine ⟨_, _, hv, .inr ⟨g, 0, rfl, (Array.getElem?_eq_some_iff.1 hh).1, fun i hi => ?_⟩⟩
    rw [Nat.zero_add]
    refine cell_blk hh ?_
    have := hf i hi
    rw [← ht, List.getElem?_take, if_pos (by omega)] at this
    simpa using this

theorem ns_at (L : List Fr) (i : Nat) (h : i < L.length) : (ns L)[i]? = some (.int .i64 (nth L i).1) := by simp [ns, nth, h]
theorem cs_at (L : List Fr) (i : Nat) (h : i < L.length) : (cs L)[i]? = some (.int .u64 (nth L i).2.1) := by simp [cs, nth, h]
theorem ds_at (L : List Fr) (i : Nat) (h : i < L.length) : (ds L)[i]? = some (.int .u64 (nth L i).2.2) := by simp [ds, nth, h]

theorem Tri.forms {base : Nat} {w wr : World} {L : List Fr} {vn vc vd : Value} (h : Tri base w wr L L.length vn vc vd) :
    (∃ a c, vn = .slice a L.length c ∧ Cells wr a L.length (fun i => .int .i64 (nth L i).1)) ∧ (∃ a c, vc = .slice a L.length c ∧ Cells wr a L.length (fun i => .int .u64 (nth L i).2.1)) ∧ (∃ a c, vd = .slice a L.length c ∧ Cells wr a L.length (fun i => .int .u64 (nth L i).2.2)) := by
  obtain ⟨h1, h2, h3, _⟩ := h
  rw [List.take_length] at h1 h2 h3
  exact ⟨own_slice h1 _ (fun i hi => ns_at L i hi), own_slice h2 _ (fun i hi => cs_at L i hi), own_slice h3 _ (fun i hi => ds_at L i hi)⟩

/-! The candidates, sorted. No Go here. -/
def base (F : Nat → Nat) (N : Nat → Int) (u : Nat) : List Fr := (List.range (deg F u)).map (fr F N u)
theorem base_length (F : Nat → Nat) (N : Nat → Int) (u : Nat) : (base F N u).length = deg F u := by simp [base]
theorem base_up {n : Nat} {F : Nat → Nat} {N : Nat → Int} (h : Adj n F N) {u : Nat} (hu : u < n) : Up (base F N u) := by
  have := cands_up h (fun _ => true) hu (Nat.le_refl (deg F u))
  rwa [cands, List.filter_eq_self.2 (by simp)] at this
theorem base_mem {F : Nat → Nat} {N : Nat → Int} {u : Nat} {y : Fr} (h : y ∈ base F N u) : ∃ p, p < deg F u ∧ y = fr F N u p := by
  obtain ⟨p, hp, rfl⟩ := List.mem_map.1 h
  exact ⟨p, List.mem_range.1 hp, rfl⟩

theorem full_eq {n : Nat} {F : Nat → Nat} {N : Nat → Int} (h : Adj n F N) {u : Nat} (hu : u < n) : (srt (cands F N (acc (fun i => decide (i < n)) n) u (deg F u))).take (deg F u) = srt (base F N u) := by
  have e : cands F N (acc (fun i => decide (i < n)) n) u (deg F u) = base F N u := by
    unfold cands base
    refine List.filter_eq_self.2 fun y hy => ?_
    obtain ⟨p, hp, rfl⟩ := List.mem_map.1 hy
    have := (h u hu).2 p (List.mem_range.1 hp)
    simp only [acc, fr]
    simp [this.1, this.2]
  rw [e, List.take_of_length_le (by rw [srt_length, base_length]; exact Nat.le_refl _)]
theorem part_eq {n : Nat} {F : Nat → Nat} {N : Nat → Int} (h : Adj n F N) {u : Nat} (hu : u < n) (ac : Int → Bool) : srt (cands F N ac u (deg F u)) = (srt (base F N u)).filter (fun x => ac x.1) := by
  rw [filter_srt _ (base_up h hu)]
  rfl

/-- The nodes of the sorted list are distinct. -/
theorem ins_nodes {x : Fr} : ∀ {L : List Fr}, L.Pairwise (fun a b => a.1 ≠ b.1) → (∀ y ∈ L, y.1 ≠ x.1) → (ins x L).Pairwise (fun a b => a.1 ≠ b.1)
  | [], _, _ => by simp [ins]
  | y :: r, h, hn => by
    rw [List.pairwise_cons] at h
    unfold ins
    split
    · rw [List.pairwise_cons]
      refine ⟨fun z hz => ?_, ins_nodes h.2 (fun a ha => hn a (List.mem_cons_of_mem _ ha))⟩
      rcases mem_ins.1 hz with rfl | hz
      · exact hn y List.mem_cons_self
      · exact h.1 z hz
    · rw [List.pairwise_cons]
      refine ⟨fun z hz => fun e => hn z hz e.symm, List.pairwise_cons.2 h⟩
theorem srt_nodes {l : List Fr} (h : Up l) : (srt l).Pairwise (fun a b => a.1 ≠ b.1) := by
  have : ∀ k, k ≤ l.length → (srt (l.take k)).Pairwise (fun a b => a.1 ≠ b.1) := by
    intro k
    induction k with
    | zero => intro _; simp [srt]
    | succ k ih =>
      intro hk
      have e : l.take (k + 1) = l.take k ++ [l[k]] := List.take_succ_eq_append_getElem (by omega)
      have hu : Up (l.take (k + 1)) := ⟨List.Pairwise.sublist (List.take_sublist _ _) h.1, fun y hy => h.2 y (List.mem_of_mem_take hy)⟩
      rw [e] at hu ⊢
      obtain ⟨h1, h2, h3⟩ := up_init hu
      rw [srt_snoc]
      exact ins_nodes (ih (by omega)) (fun y hy => by have := h3 y (mem_srt.1 hy); omega)
  have := this l.length (Nat.le_refl _)
  rwa [List.take_length] at this
theorem nodes_ne {L : List Fr} (h : L.Pairwise (fun a b => a.1 ≠ b.1)) {i j : Nat} (hij : i < j) (hj : j < L.length) : (nth L i).1 ≠ (nth L j).1 := by
  have := List.pairwise_iff_getElem.1 h i j (by omega) hj hij
  simpa [nth, hj, show i < L.length by omega] using this

theorem graph_new {we wr : World} {f2 n lN cN c0 : Nat} {F : Nat → Nat} {N : Nat → Int} {a0 aN : Option Addr} (br : Below we.heap.size we wr) (hf : f2 < we.heap.size) (hn : n ≤ 4096) (hl : lN ≤ 4096) (hc : lN ≤ cN ∧ cN ≤ 9223372036854775807)
    (cf : ∀ i, i < n + 1 → we.cell? ⟨f2, 0 + i, none⟩ = some (.int .i64 (F i : Int))) (up : ∀ v, v < n → F v ≤ F (v + 1)) (top : ∀ v, v < n + 1 → F v ≤ lN)
    (dn : (aN = none ∧ lN = 0 ∧ cN = 0) ∨ ∃ b, aN = some ⟨b, 0, none⟩ ∧ b < we.heap.size ∧ ∀ i, i < lN → we.cell? ⟨b, 0 + i, none⟩ = some (.int .i64 (N i))) :
    Graph (wr.alloc (.cells #[.slice a0 n c0, .slice (some ⟨f2, 0, none⟩) (n + 1) (n + 1), .slice aN lN cN] 57)) wr.heap.size f2 0 n (n + 1) F aN lN cN N := by
  have b2 : Below we.heap.size we (wr.alloc (.cells #[.slice a0 n c0, .slice (some ⟨f2, 0, none⟩) (n + 1) (n + 1), .slice aN lN cN] 57)) := br.alloc br.size _
  refine ⟨by simp, cell_blk (heap_alloc_new wr _) rfl, cell_blk (heap_alloc_new wr _) rfl, hn, Nat.lt_of_lt_of_le hf b2.size, fun i hi => (b2.cell (p := ⟨f2, 0 + i, none⟩) hf).trans (cf i hi), hl, hc, up, top, ?_⟩
  rcases dn with h | ⟨b, h1, h2, h3⟩
  · exact .inl h
  · exact .inr ⟨b, 0, h1, Nat.lt_of_lt_of_le h2 b2.size, fun i hi => (b2.cell (p := ⟨b, 0 + i, none⟩) h2).trans (h3 i hi)⟩

/-! Taking those that are accepted, one after the other. -/
def upto (L : List Fr) (q : Fr → Bool) (p : Nat) : Nat := ((L.take p).filter q).length
theorem upto_no {L : List Fr} {q : Fr → Bool} {p : Nat} (hp : p < L.length) (h : q (nth L p) = false) : upto L q (p + 1) = upto L q p := by
  unfold upto
  rw [take_snoc_nth L p hp, List.filter_append]
  simp [h]
theorem upto_yes {L : List Fr} {q : Fr → Bool} {p : Nat} (hp : p < L.length) (h : q (nth L p) = true) : upto L q (p + 1) = upto L q p + 1 := by
  unfold upto
  rw [take_snoc_nth L p hp, List.filter_append]
  simp [h]
theorem upto_le (L : List Fr) (q : Fr → Bool) (p : Nat) : upto L q p ≤ (L.filter q).length := by
  unfold upto
  exact List.Sublist.length_le ((List.take_sublist p L).filter q)
theorem upto_all {L : List Fr} {q : Fr → Bool} : upto L q L.length = (L.filter q).length := by unfold upto; rw [List.take_length]
theorem upto_nth {L : List Fr} {q : Fr → Bool} {p s : Nat} (hp : p < L.length) (h : q (nth L p) = true) (hs : upto L q p < s) : upto L q p < ((L.filter q).take s).length ∧ nth ((L.filter q).take s) (upto L q p) = nth L p := by
  have h1 := upto_le L q (p + 1)
  rw [upto_yes hp h] at h1
  refine ⟨by rw [List.length_take]; omega, ?_⟩
  have e : L.filter q = (L.take p).filter q ++ (nth L p :: (L.drop (p + 1)).filter q) := by
    have : L = L.take p ++ (nth L p :: L.drop (p + 1)) := by
      have h2 : nth L p = L[p] := by simp [nth, hp]
      rw [h2, ← List.drop_eq_getElem_cons hp, List.take_append_drop]
    conv => lhs; rw [this]
    rw [List.filter_append, List.filter_cons_of_pos h]
  unfold nth at *
  rw [List.getD_eq_getElem?_getD, List.getElem?_take, if_pos hs, e, List.getElem?_append_right (by unfold upto; exact Nat.le_refl _)]
  unfold upto
  simp
theorem upto_brk {L : List Fr} {q : Fr → Bool} {p s : Nat} (hs : upto L q p = s) : ((L.filter q).take s).length = s := by
  have h1 := upto_le L q p
  rw [List.length_take]; omega
theorem upto_end {L : List Fr} {q : Fr → Bool} {s : Nat} (hs : upto L q L.length ≤ s) : ((L.filter q).take s).length = upto L q L.length := by
  rw [upto_all] at *
  rw [List.length_take]; omega

/-- Has node i been among the first p? -/
def seenF (L : List Fr) (p i : Nat) : Bool := (List.range p).any (fun r => (nth L r).1 == (i : Int))
theorem seenF_succ (L : List Fr) (p x : Nat) (hx : (nth L p).1 = x) : (fun i => if i = x then true else seenF L p i) = seenF L (p + 1) := by
  funext i
  unfold seenF
  rw [List.range_succ, List.any_append]
  by_cases e : i = x
  · simp [e, hx]
  · simp [e, hx]
    omega
theorem seenF_new {L : List Fr} (h : L.Pairwise (fun a b => a.1 ≠ b.1)) {p x : Nat} (hp : p < L.length) (hx : (nth L p).1 = x) : seenF L p x = false := by
  unfold seenF
  rw [List.any_eq_false]
  intro r hr
  rw [List.mem_range] at hr
  have := nodes_ne h hr hp
  simp
  omega
end Go.Proofs.Qxb6615739a
