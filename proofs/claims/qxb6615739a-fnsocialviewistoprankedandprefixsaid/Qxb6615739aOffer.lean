import Derived.Test.Qxb6615739aFlat
import Derived.Deep.RegionHeld3
namespace Go.Proofs.Qxb6615739a
open Go.RowKit Go.Sort
set_option linter.unusedSimpArgs false
set_option linter.unusedVariables false

/-- A social view in memory: its struct is block sv, its friends lie in a row of a later block. -/
structure View (w : World) (sv : Nat) (size : Int) (v : Value) (L : List Fr) : Prop where
  blk : w.heap[sv]? = some (.cells #[.int .i64 size, v] 62 (0, 0))
  own : w.ownsRow (sv + 1) 66 3 v L.length (flat L)

theorem View.lt {w : World} {sv : Nat} {size : Int} {v : Value} {L : List Fr} (h : View w sv size v L) : sv < w.heap.size := (Array.getElem?_eq_some_iff.1 h.blk).1
theorem View.c0 {w : World} {sv : Nat} {size : Int} {v : Value} {L : List Fr} (h : View w sv size v L) : w.cell? ⟨sv, 0, none⟩ = some (.int .i64 size) := by simp [World.cell?, h.blk]
theorem View.c1 {w : World} {sv : Nat} {size : Int} {v : Value} {L : List Fr} (h : View w sv size v L) : w.cell? ⟨sv, 1, none⟩ = some v := by simp [World.cell?, h.blk]
theorem View.f1 {w : World} {sv : Nat} {size : Int} {v : Value} {L : List Fr} (h : View w sv size v L) : w.frozen? ⟨sv, 1, none⟩ = false := by simp [World.frozen?, h.blk]

theorem Gr.block {w w' : World} (h : Gr w w') {k : Nat} (hk : k < w.heap.size) : w'.heap[k]? = w.heap[k]? := h.bel.block k hk

theorem ownsRow_gr {w w' : World} {base n : Nat} {v : Value} {xs : List Value} (h : w.ownsRow base 66 3 v n xs) (g : Gr w w') : w'.ownsRow base 66 3 v n xs := by
  refine h.kept (row := none) ⟨g.bel.os, g.bel.tape, g.bel.output, g.size, fun k hk _ => g.block hk⟩ ?_
  cases hv : v.ownBlock with
  | none => exact .inl rfl
  | some k => exact .inr (by simp)

theorem View.gr {w w' : World} {sv : Nat} {size : Int} {v : Value} {L : List Fr} (h : View w sv size v L) (g : Gr w w') : View w' sv size v L :=
  ⟨(g.block h.lt).trans h.blk, ownsRow_gr h.own g⟩

/-- What Offer makes of the list. -/
def OfferRel (size : Int) (L : List Fr) (x : Fr) (R : List Fr) : Prop :=
  ((L.length : Int) ≠ size ∧ ∃ k, Bd L x k ∧ R = insK L x k) ∨
  ((L.length : Int) = size ∧ L = [] ∧ R = L) ∨
  ((L.length : Int) = size ∧ ∃ M y, L = M ++ [y] ∧ ((fcmp x.2.1 x.2.2 y.2.1 y.2.2 ≤ 0 ∧ R = L) ∨ (0 < fcmp x.2.1 x.2.2 y.2.1 y.2.2 ∧ ∃ k, Bd M x k ∧ R = insK M x k)))

def OfferPost (sv : Nat) (size : Int) (R : List Fr) (w : World) (e : Ending) (w' : World) : Prop :=
  e = .returned (.tuple #[]) ∧ (∃ v', View w' sv size v' R) ∧ Below sv w w'

theorem view_store {w : World} {sv : Nat} {size : Int} {v v' : Value} {R : List Fr} (blk : w.heap[sv]? = some (.cells #[.int .i64 size, v] 62 (0, 0))) (own : w.ownsRow (sv + 1) 66 3 v' R.length (flat R)) : View (w.setCell ⟨sv, 1, none⟩ v') sv size v' R := by
  refine ⟨?_, ownsRow_setCell_below own (by simp) _⟩
  simp [World.setCell, Array.getElem?_modify, blk]

theorem grownBy_below {w w' : World} {v : Value} {B : Nat} (h : w.grownBy w' v.ownBlock) (hB : B ≤ w.heap.size) (hr : ∀ g, v.ownBlock = some g → B ≤ g) : Below B w w' :=
  (Below.refl B w).grown h hB hr

/-- What a slice of friends owns lies between. -/
theorem own_block {w : World} {sv : Nat} {size : Int} {v : Value} {L : List Fr} (h : View w sv size v L) : ∀ g, v.ownBlock = some g → sv + 1 ≤ g ∧ g < w.heap.size := h.own.lt

theorem heap_at (w : World) (o : Obj) (k : Nat) (h : w.heap.size = k) : (w.alloc o).heap[k]? = some o := by subst h; exact heap_alloc_new w o

theorem cell_blk {w : World} {b j : Nat} {cs : Array Value} {T : TypeId} {fz : Nat × Nat} {u : Value} (h : w.heap[b]? = some (.cells cs T fz)) (hu : cs[j]? = some u) : w.cell? ⟨b, j, none⟩ = some u := by simp [World.cell?, h, hu]
theorem lt_blk {w : World} {b : Nat} {o : Obj} (h : w.heap[b]? = some o) : b < w.heap.size := (Array.getElem?_eq_some_iff.1 h).1

def InsPost2 (sv : Nat) (a : Option Addr) (n c : Nat) (R : List Fr) (w : World) (e : Ending) (w' : World) : Prop :=
  ∃ g cap, e = .returned (.slice (some ⟨g, 0, none⟩) (n + 1) cap) ∧ Hid (w'.ownsRow (sv + 1) 66 3 (.slice (some ⟨g, 0, none⟩) (n + 1) cap) R.length (flat R)) ∧ Hid (w.grownBy w' (Value.slice a n c).ownBlock)

theorem insert_view {W : World} {sv : Nat} {size : Int} {a : Option Addr} {n c : Nat} {L : List Fr} (x : Fr) (k vb : Nat) (hV : View W sv size (.slice a n c) L) (hn : L.length = n) (h4 : n ≤ 4096) (hk : k ≤ n)
    (hvb : W.heap[vb]? = some (.cells (Fr.cells x).toArray 66 (0, 0))) (hvg : (Value.slice a n c).ownBlock ≠ some vb) :
    Calls Try.prog 47 #[.slice a n c, .int .i64 k, .slice (some ⟨vb, 0, none⟩) 1 1] W (InsPost2 sv a n c (insK L x k) W) := by
  subst hn
  refine (insert_any (sv + 1) _ L x k vb W h4 hk hV.own (hV.lt) hvb hvg).mono ?_
  rintro e w' ⟨v', rfl, h1, h2⟩
  rcases own_form h1 with ⟨_, h, _⟩ | ⟨g, cap, cur, rfl, _⟩
  · omega
  · exact ⟨g, cap, rfl, by rw [insK_length _ _ _ hk]; exact h1, h2⟩

theorem after_ins (w5 : World) {w6 : World} {sv ob : Nat} {size xn : Int} {xc xd : Nat} {v : Value} {L : List Fr} {o : Obj} {row : Option Nat} (hV : View w5 sv size v L) (hO : w5.heap[ob]? = some (.cells #[.int .i64 xn, .int .u64 xc, .int .u64 xd] 66 (0, 0)))
    (h1 : some sv ≠ row) (h2 : some ob ≠ row) (hg : (w5.alloc o).drew.grownBy w6 row) :
    w6.cell? ⟨sv, 1, none⟩ = some v ∧ w6.cell? ⟨ob, 0, none⟩ = some (.int .i64 xn) ∧ w6.cell? ⟨ob, 1, none⟩ = some (.int .u64 xc) ∧ w6.cell? ⟨ob, 2, none⟩ = some (.int .u64 xd) ∧ w6.frozen? ⟨sv, 1, none⟩ = false ∧ Hid (w6.heap[sv]? = some (.cells #[.int .i64 size, v] 62 (0, 0))) := by
  have hs : w6.heap[sv]? = some (.cells #[.int .i64 size, v] 62 (0, 0)) := by
    rw [hg.block sv (by have := hV.lt; simp; omega) h1, ← hV.blk]
    exact Below.heap_alloc w5 o sv hV.lt
  have ho : w6.heap[ob]? = some (.cells #[.int .i64 xn, .int .u64 xc, .int .u64 xd] 66 (0, 0)) := by
    rw [hg.block ob (by have := lt_blk hO; simp; omega) h2, ← hO]
    exact Below.heap_alloc w5 o ob (lt_blk hO)
  exact ⟨cell_blk hs rfl, cell_blk ho rfl, cell_blk ho rfl, cell_blk ho rfl, by simp [World.frozen?, hs], hs⟩

set_option maxHeartbeats 1000000 in
set_option maxRecDepth 100000 in
theorem offer_add (sv : Nat) (size : Int) (v : Value) (L : List Fr) (xn : Int) (xc xd k : Nat) (w : World) (hV : View w sv size v L) (hL : L.length ≤ 4096) (ok : ∀ j, j < L.length → Fr.ok (nth L j)) (okx : Fr.ok (xn, xc, xd))
    (hne : (L.length : Int) ≠ size) (hk : Bd L (xn, xc, xd) k) :
    Calls Try.prog 37 #[.pointer (some ⟨sv, 0, none⟩), .int .i64 xn, .agg #[.int .u64 xc, .int .u64 xd]] w (OfferPost sv size (insK L (xn, xc, xd) k) w) := by
  have mx := mixed
  have HV : Hid _ := hV
  have OK : Hid _ := ok
  have OKX : Hid _ := okx
  have HK : Hid _ := hk
  have c0 := hV.c0
  have c1 := hV.c1
  have hsv := hV.lt
  have hnb : ((L.length : Int) == size) = false := by simp [hne]
  obtain ⟨a, c, rfl⟩ : ∃ a c, v = .slice a L.length c := by
    rcases own_form hV.own with ⟨h1, h2, _⟩ | ⟨g, cap, cur, h1, _⟩
    · exact ⟨none, 0, by rw [h1, h2]⟩
    · exact ⟨_, _, h1⟩
  have hb := own_block hV
  have hnk := hk.1
  obtain ⟨fd, BS⟩ : ∃ fd, ∀ W, View W sv size (.slice a L.length c) L → Calls Try.prog 45 #[.slice a L.length c, .agg #[.int .i64 xn, .int .u64 xc, .int .u64 xd], .func (.func 46) #[] #[]] W fun e w' => e = .returned (.tuple #[.int .i64 k, .bool fd]) ∧ Gr W w' :=
    ⟨_, fun W h => bsearch_any (sv + 1) _ L (xn, xc, xd) W hL h.own ok okx k hk⟩
  have hlen := insK_length L (xn, xc, xd) k hnk
  clear hV ok okx hk hne
  generalize hnn : L.length = n at *
  have HNN : Hid _ := hnn
  have HLN : Hid _ := hlen
  have BS : Hid _ := BS
  have HB : Hid _ := hb
  clear hnn hb hlen
  go_enter Try.func37, Try.ntmps37
  go_wp2
  go_quiet (fail)
  go_wp2
  obtain ⟨wt, hwt⟩ : ∃ wt, ((w.alloc (Obj.cells #[Value.int IntKind.u64 ↑xc, Value.int IntKind.u64 ↑xd] 64)).drewN nq).alloc (Obj.cells #[Value.int IntKind.i64 xn, Value.int IntKind.u64 ↑xc, Value.int IntKind.u64 ↑xd] 66) = wt := ⟨_, rfl⟩
  have GT : Hid (Gr w wt) := by rw [← hwt]; exact (((Gr.refl w).alloc _).drewN nq).alloc _
  have BT : Hid (Below sv w wt) := GT.out.bel.mono (Nat.le_of_lt hsv)
  have VT : Hid (View wt sv size (.slice a n c) L) := HV.out.gr GT.out
  have OB : Hid (wt.heap[w.heap.size + 1]? = some (.cells #[.int .i64 xn, .int .u64 xc, .int .u64 xd] 66 (0, 0))) := by
    rw [← hwt]; exact heap_at _ _ _ (by simp)
  rw [hwt]
  clear hwt c0 c1
  have hob := lt_blk OB.out
  have gr0 : ∀ nn os, Gr wt (grow (wt.drewN nn) os) := fun nn os => (Gr.refl wt).grown nn os
  have t0 : ∀ nn os, (grow (wt.drewN nn) os).cell? ⟨w.heap.size + 1, 0, none⟩ = some (.int .i64 xn) := fun nn os => by rw [(gr0 nn os).cell hob]; exact cell_blk OB.out rfl
  have t1 : ∀ nn os, (grow (wt.drewN nn) os).cell? ⟨w.heap.size + 1, 1, none⟩ = some (.int .u64 xc) := fun nn os => by rw [(gr0 nn os).cell hob]; exact cell_blk OB.out rfl
  have t2 : ∀ nn os, (grow (wt.drewN nn) os).cell? ⟨w.heap.size + 1, 2, none⟩ = some (.int .u64 xd) := fun nn os => by rw [(gr0 nn os).cell hob]; exact cell_blk OB.out rfl
  have s1 : ∀ nn os, (grow (wt.drewN nn) os).cell? ⟨sv, 1, none⟩ = some (.slice a n c) := fun nn os => (VT.out.gr (gr0 nn os)).c1
  clear gr0
  go_quiet_grown ((go_at_call 45; exact Calls.grown_of (Gr.calls (BS.out _ (VT.out.gr ((Gr.refl wt).grown _ _))))))
  go_wp2
  have G5 : Hid (Gr wt (grow (wt.drewN nq) osq)) := (Gr.refl wt).grown nq osq
  generalize grow (wt.drewN nq) osq = w5 at *
  have V5 : Hid (View w5 sv size (.slice a n c) L) := VT.out.gr G5.out
  have O5 : Hid (w5.heap[w.heap.size + 1]? = some (.cells #[.int .i64 xn, .int .u64 xc, .int .u64 xd] 66 (0, 0))) := (G5.out.block hob).trans OB.out
  have B5 : Hid (Below sv w w5) := BT.out.trans (G5.out.bel.mono (Nat.le_of_lt VT.out.lt))
  have h51 : w5.cell? ⟨sv, 1, none⟩ = some (.slice a n c) := V5.out.c1
  have h5f : w5.frozen? ⟨sv, 1, none⟩ = false := V5.out.f1
  have h5a : w5.cell? ⟨w.heap.size + 1, 0, none⟩ = some (.int .i64 xn) := cell_blk O5.out rfl
  have h5b : w5.cell? ⟨w.heap.size + 1, 1, none⟩ = some (.int .u64 xc) := cell_blk O5.out rfl
  have h5c : w5.cell? ⟨w.heap.size + 1, 2, none⟩ = some (.int .u64 xd) := cell_blk O5.out rfl
  have hz5 : sv < w5.heap.size := V5.out.lt
  have hz6 : w.heap.size + 1 < w5.heap.size := lt_blk O5.out
  clear t0 t1 t2 s1
  have hnsv : w5.heap.size ≠ sv := by omega
  have hnob : w5.heap.size ≠ w.heap.size + 1 := by omega
  have hrow1 : some sv ≠ (Value.slice a n c).ownBlock := fun e => by have := (HB.out _ e.symm).1; omega
  have hrow2 : some (w.heap.size + 1) ≠ (Value.slice a n c).ownBlock := fun e => by have := (HB.out _ e.symm).2; omega
  have hrow3 : (Value.slice a n c).ownBlock ≠ some w5.heap.size := fun e => by have := (HB.out _ e).2; omega
  have HR1 : Hid _ := hrow1
  have HR2 : Hid _ := hrow2
  have HR3 : Hid _ := hrow3
  clear hrow1 hrow2 hrow3
  go_region_with
    ((go_at_call 47; refine (insert_view (W := (w5.alloc (Obj.cells #[Value.int IntKind.i64 xn, Value.int IntKind.u64 ↑xc, Value.int IntKind.u64 ↑xd] 66)).drew) (xn, xc, xd) k w5.heap.size (V5.out.gr (((Gr.refl w5).alloc _).drew)) HNN.out hL hnk (heap_alloc_new w5 _) HR3.out).mono ?_; rintro e w6 ⟨g6, cap6, rfl, H6, R6⟩; obtain ⟨k1, k2, k3, k4, k5, k6⟩ := after_ins w5 V5.out O5.out HR1.out HR2.out R6.out))
  all_goals
    go_end0
    exact ⟨rfl, ⟨_, view_store k6.out H6.out⟩, (((B5.out.alloc (Nat.le_of_lt hz5) _).drew.grown R6.out (by simp; omega) (fun g e => Nat.le_of_lt (HB.out g e).1)).setCell (Nat.le_refl _) _)⟩
end Go.Proofs.Qxb6615739a
