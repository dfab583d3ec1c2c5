import Derived.Test.Qxb6615739aOffer2
namespace Go.Proofs.Qxb6615739a
open Go.RowKit Go.Sort
set_option linter.unusedSimpArgs false
set_option linter.unusedVariables false

set_option maxHeartbeats 1000000 in
set_option maxRecDepth 100000 in
/-- The view is full, and the last friend is beaten. -/
theorem offer_repl (sv : Nat) (v : Value) (M : List Fr) (yn : Int) (yc yd : Nat) (xn : Int) (xc xd : Nat) (w : World) (hV : View w sv ((M.length : Int) + 1) v (M ++ [(yn, yc, yd)])) (hL : M.length ≤ 4096) (ok : ∀ j, j < M.length → Fr.ok (nth M j)) (oky : Fr.ok (yn, yc, yd)) (okx : Fr.ok (xn, xc, xd))
    (hgt : 0 < fcmp xc xd yc yd) (k : Nat) (hk : Bd M (xn, xc, xd) k) :
    Calls Try.prog 37 #[.pointer (some ⟨sv, 0, none⟩), .int .i64 xn, .agg #[.int .u64 xc, .int .u64 xd]] w (OfferPost sv ((M.length : Int) + 1) (insK M (xn, xc, xd) k) w) := by
  have mx := mixed
  have HV : Hid _ := hV
  have OKY : Hid _ := oky
  have OKX : Hid _ := okx
  have c0 := hV.c0
  have c1 := hV.c1
  have hsv := hV.lt
  have hlen : (M ++ [(yn, yc, yd)]).length = M.length + 1 := by simp
  obtain ⟨g, c, rfl, hR⟩ : ∃ g c, v = .slice (some ⟨g, 0, none⟩) (M.length + 1) c ∧ Row w g (M.length + 1) (nth (M ++ [(yn, yc, yd)])) := by
    rcases own_form hV.own with ⟨h1, h2, _⟩ | ⟨g, cap, cur, h1, _, hg, hh, _, _, _, ht⟩
    · simp at h2
    · rw [hlen] at h1
      exact ⟨_, _, h1, by rw [← hlen]; exact row_of_own (base := sv + 1) (cap := cap) hg hh ht⟩
  have hlast : nth (M ++ [(yn, yc, yd)]) M.length = (yn, yc, yd) := by simp [nth]
  have hgl := hR.1
  have r := hR.2 M.length (by omega)
  rw [hlast] at r
  obtain ⟨r0, r1, r2⟩ := r
  have hb := own_block hV
  have hnk := hk.1
  obtain ⟨fd, BS⟩ : ∃ fd, ∀ W, View W sv ((M.length : Int) + 1) (.slice (some ⟨g, 0, none⟩) M.length c) M → Calls Try.prog 45 #[.slice (some ⟨g, 0, none⟩) M.length c, .agg #[.int .i64 xn, .int .u64 xc, .int .u64 xd], .func (.func 46) #[] #[]] W fun e w' => e = .returned (.tuple #[.int .i64 k, .bool fd]) ∧ Gr W w' :=
    ⟨_, fun W h => bsearch_any (sv + 1) _ M (xn, xc, xd) W hL h.own ok okx k hk⟩
  have hpop : ∀ W : World, W.ownsRow (sv + 1) 66 3 (.slice (some ⟨g, 0, none⟩) (M.length + 1) c) (M ++ [(yn, yc, yd)]).length (flat (M ++ [(yn, yc, yd)])) → W.ownsRow (sv + 1) 66 3 (.slice (some ⟨g, 0, none⟩) M.length c) M.length (flat M) := fun W h => by
    rw [hlen, flat_append] at h
    exact ownsRow_pop (flat_length M) h
  have HP : Hid _ := hpop
  have BS : Hid _ := BS
  have HB : Hid _ := hb
  clear hV oky okx hR hlast hlen ok hk hb hpop
  generalize hnn : M.length = n at *
  have HNN : Hid _ := hnn
  clear hnn r0
  have hnz : ((n : Int) + 1 == 0) = false := by simp; omega
  go_enter Try.func37, Try.ntmps37
  go_wp2
  go_quiet (fail)
  go_wp2
  generalize hw1 : (w.alloc (Obj.cells #[Value.int IntKind.u64 ↑xc, Value.int IntKind.u64 ↑xd] 64)).drewN nq = w1
  have G1 : Hid (Gr w w1) := by rw [← hw1]; exact ((Gr.refl w).alloc _).drewN _
  have X0 : Hid (w1.heap[w.heap.size]? = some (.cells #[.int .u64 xc, .int .u64 xd] 64 (0, 0))) := by rw [← hw1]; exact heap_alloc_new w _
  clear hw1
  have hx := lt_blk X0.out
  have t0 : ∀ nn os, (grow (w1.drewN nn) os).cell? ⟨w.heap.size, 0, none⟩ = some (.int .u64 xc) := fun nn os => by rw [((Gr.refl w1).grown nn os).cell hx]; exact cell_blk X0.out rfl
  have t1 : ∀ nn os, (grow (w1.drewN nn) os).cell? ⟨w.heap.size, 1, none⟩ = some (.int .u64 xd) := fun nn os => by rw [((Gr.refl w1).grown nn os).cell hx]; exact cell_blk X0.out rfl
  have s0 : ∀ nn os, (grow (w1.drewN nn) os).cell? ⟨sv, 0, none⟩ = some (.int .i64 ((n : Int) + 1)) := fun nn os => by rw [(G1.out.grown nn os).cell hsv]; exact c0
  have s1 : ∀ nn os, (grow (w1.drewN nn) os).cell? ⟨sv, 1, none⟩ = some (.slice (some ⟨g, 0, none⟩) (n + 1) c) := fun nn os => by rw [(G1.out.grown nn os).cell hsv]; exact c1
  have y1 : ∀ nn os, (grow (w1.drewN nn) os).cell? ⟨g, n * 3 + 1, none⟩ = some (.int .u64 yc) := fun nn os => by rw [(G1.out.grown nn os).cell hgl]; exact r1
  have y2 : ∀ nn os, (grow (w1.drewN nn) os).cell? ⟨g, n * 3 + 2, none⟩ = some (.int .u64 yd) := fun nn os => by rw [(G1.out.grown nn os).cell hgl]; exact r2
  have i1 : IntKind.i64.wrap ((n : Int) + 1 - 1) = (n : Int) := by rw [IntKind.wrap_i64]; omega
  have i4 : IntKind.i64.wrap (n : Int) = (n : Int) := by rw [IntKind.wrap_i64]; omega
  have i2 : (0 : Int) ≤ (n : Int) := by omega
  have i3 : (n : Int) < (n : Int) + 1 := by omega
  clear c0 c1 r1 r2
  go_quiet_grown ((go_at_call 44; exact Calls.grown_of (Gr.calls (compare_any xc xd yc yd OKX.out.1 OKY.out.1 OKX.out.2 OKY.out.2 _))))
  go_wp2
  have G2 : Hid (Gr w (grow (w1.drewN nq) osq)) := G1.out.grown _ _
  have X2 : Hid ((grow (w1.drewN nq) osq).heap[w.heap.size]? = some (.cells #[.int .u64 xc, .int .u64 xd] 64 (0, 0))) := (((Gr.refl w1).grown nq osq).block hx).trans X0.out
  generalize grow (w1.drewN nq) osq = w2 at *
  have V2 : Hid (View w2 sv ((n : Int) + 1) (.slice (some ⟨g, 0, none⟩) (n + 1) c) (M ++ [(yn, yc, yd)])) := HV.out.gr G2.out
  clear t0 t1 s0 s1 y1 y2
  have s0 := V2.out.c0
  have s1 := V2.out.c1
  have sf := V2.out.f1
  have i5 : (n : Int) ≤ (c : Int) := by
    rcases own_form V2.out.own with ⟨h1, _⟩ | ⟨_, _, _, h1, _, _, _, h2, _⟩
    · cases h1
    · injection h1 with _ e2 e3
      omega
  go_region
  generalize hw3 : (w2.setCell ⟨sv, 1, none⟩ (Value.slice (some ⟨g, 0, none⟩) n c)).drew = w3
  have V3 : Hid (View w3 sv ((n : Int) + 1) (.slice (some ⟨g, 0, none⟩) n c) M) := by
    rw [← hw3]
    exact (view_store V2.out.blk (by rw [HNN.out]; exact HP.out _ V2.out.own)).gr (Gr.refl _).drew
  have B3 : Hid (Below sv w w3) := by
    rw [← hw3]
    exact ((G2.out.bel.mono (Nat.le_of_lt hsv)).setCell (Nat.le_refl _) _).drew
  have X3 : Hid (w3.heap[w.heap.size]? = some (.cells #[.int .u64 xc, .int .u64 xd] 64 (0, 0))) := by
    rw [← hw3, ← X2.out]
    exact Below.heap_setCell w2 _ _ _ (by simp; omega)
  have z3 : w.heap.size < w3.heap.size := lt_blk X3.out
  have x0 : w3.cell? ⟨w.heap.size, 0, none⟩ = some (.int .u64 xc) := cell_blk X3.out rfl
  have x1 : w3.cell? ⟨w.heap.size, 1, none⟩ = some (.int .u64 xd) := cell_blk X3.out rfl
  clear hw3 s0 s1 sf
  go_wp2
  obtain ⟨wt, hwt⟩ : ∃ wt, w3.alloc (Obj.cells #[Value.int IntKind.i64 xn, Value.int IntKind.u64 ↑xc, Value.int IntKind.u64 ↑xd] 66) = wt := ⟨_, rfl⟩
  have GT : Hid (Gr w3 wt) := by rw [← hwt]; exact (Gr.refl w3).alloc _
  have BT : Hid (Below sv w wt) := B3.out.trans (GT.out.bel.mono (Nat.le_of_lt V3.out.lt))
  have VT : Hid (View wt sv ((n : Int) + 1) (.slice (some ⟨g, 0, none⟩) n c) M) := V3.out.gr GT.out
  have OB : Hid (wt.heap[w3.heap.size]? = some (.cells #[.int .i64 xn, .int .u64 xc, .int .u64 xd] 66 (0, 0))) := by
    rw [← hwt]; exact heap_at _ _ _ rfl
  have hzb : w.heap.size < w3.heap.size := z3
  rw [hwt]
  clear hwt x0 x1
  generalize w3.heap.size = ob at *
  have hob := lt_blk OB.out
  have gr0 : ∀ nn os, Gr wt (grow (wt.drewN nn) os) := fun nn os => (Gr.refl wt).grown nn os
  have t0 : ∀ nn os, (grow (wt.drewN nn) os).cell? ⟨ob, 0, none⟩ = some (.int .i64 xn) := fun nn os => by rw [(gr0 nn os).cell hob]; exact cell_blk OB.out rfl
  have t1 : ∀ nn os, (grow (wt.drewN nn) os).cell? ⟨ob, 1, none⟩ = some (.int .u64 xc) := fun nn os => by rw [(gr0 nn os).cell hob]; exact cell_blk OB.out rfl
  have t2 : ∀ nn os, (grow (wt.drewN nn) os).cell? ⟨ob, 2, none⟩ = some (.int .u64 xd) := fun nn os => by rw [(gr0 nn os).cell hob]; exact cell_blk OB.out rfl
  have s1 : ∀ nn os, (grow (wt.drewN nn) os).cell? ⟨sv, 1, none⟩ = some (.slice (some ⟨g, 0, none⟩) n c) := fun nn os => (VT.out.gr (gr0 nn os)).c1
  clear gr0
  go_quiet_grown ((go_at_call 45; exact Calls.grown_of (Gr.calls (BS.out _ (VT.out.gr ((Gr.refl wt).grown _ _))))))
  go_wp2
  have G5 : Hid (Gr wt (grow (wt.drewN nq) osq)) := (Gr.refl wt).grown nq osq
  generalize grow (wt.drewN nq) osq = w5 at *
  have V5 : Hid (View w5 sv ((n : Int) + 1) (.slice (some ⟨g, 0, none⟩) n c) M) := VT.out.gr G5.out
  have O5 : Hid (w5.heap[ob]? = some (.cells #[.int .i64 xn, .int .u64 xc, .int .u64 xd] 66 (0, 0))) := (G5.out.block hob).trans OB.out
  have B5 : Hid (Below sv w w5) := BT.out.trans (G5.out.bel.mono (Nat.le_of_lt VT.out.lt))
  have h51 : w5.cell? ⟨sv, 1, none⟩ = some (.slice (some ⟨g, 0, none⟩) n c) := V5.out.c1
  have h5f : w5.frozen? ⟨sv, 1, none⟩ = false := V5.out.f1
  have h5a : w5.cell? ⟨ob, 0, none⟩ = some (.int .i64 xn) := cell_blk O5.out rfl
  have h5b : w5.cell? ⟨ob, 1, none⟩ = some (.int .u64 xc) := cell_blk O5.out rfl
  have h5c : w5.cell? ⟨ob, 2, none⟩ = some (.int .u64 xd) := cell_blk O5.out rfl
  have hz5 : sv < w5.heap.size := V5.out.lt
  have hz6 : ob < w5.heap.size := lt_blk O5.out
  clear t0 t1 t2 s1
  have hnsv : w5.heap.size ≠ sv := by omega
  have hnob : w5.heap.size ≠ ob := by omega
  have hrow1 : some sv ≠ (Value.slice (some ⟨g, 0, none⟩) n c).ownBlock := fun e => by have := (HB.out _ e.symm).1; omega
  have hrow2 : some (ob) ≠ (Value.slice (some ⟨g, 0, none⟩) n c).ownBlock := fun e => by have := (HB.out _ e.symm).2; omega
  have hrow3 : (Value.slice (some ⟨g, 0, none⟩) n c).ownBlock ≠ some w5.heap.size := fun e => by have := (HB.out _ e).2; omega
  have HR1 : Hid _ := hrow1
  have HR2 : Hid _ := hrow2
  have HR3 : Hid _ := hrow3
  clear hrow1 hrow2 hrow3
  go_region_with
    ((go_at_call 47; refine (insert_view (W := (w5.alloc (Obj.cells #[Value.int IntKind.i64 xn, Value.int IntKind.u64 ↑xc, Value.int IntKind.u64 ↑xd] 66)).drew) (xn, xc, xd) k w5.heap.size (V5.out.gr (((Gr.refl w5).alloc _).drew)) HNN.out hL hnk (heap_alloc_new w5 _) HR3.out).mono ?_; rintro e w6 ⟨g6, cap6, rfl, H6, R6⟩; obtain ⟨k1, k2, k3, k4, k5, k6⟩ := after_ins w5 V5.out O5.out HR1.out HR2.out R6.out))
  all_goals
    go_end0
    exact ⟨rfl, ⟨_, view_store k6.out H6.out⟩, (((B5.out.alloc (Nat.le_of_lt hz5) _).drew.grown R6.out (by simp; omega) (fun g e => Nat.le_of_lt (HB.out g e).1)).setCell (Nat.le_refl _) _)⟩

/-- Offer, whatever the case. -/
theorem offer_any (sv : Nat) (size : Int) (v : Value) (L R : List Fr) (x : Fr) (w : World) (hV : View w sv size v L) (hL : L.length ≤ 4096) (ok : ∀ j, j < L.length → Fr.ok (nth L j)) (okx : Fr.ok x) (hR : OfferRel size L x R) :
    Calls Try.prog 37 #[.pointer (some ⟨sv, 0, none⟩), .int .i64 x.1, .agg #[.int .u64 x.2.1, .int .u64 x.2.2]] w (OfferPost sv size R w) := by
  obtain ⟨xn, xc, xd⟩ := x
  rcases hR with ⟨hne, k, hk, rfl⟩ | ⟨hs, rfl, rfl⟩ | ⟨hs, M, ⟨yn, yc, yd⟩, rfl, h⟩
  · exact offer_add sv size v L xn xc xd k w hV hL ok okx hne hk
  · subst hs
    exact offer_zero sv v xn xc xd w hV
  · have hl : (M ++ [(yn, yc, yd)]).length = M.length + 1 := by simp
    have hs' : size = (M.length : Int) + 1 := by rw [← hs, hl]; omega
    subst hs'
    have oky : Fr.ok (yn, yc, yd) := by
      have := ok M.length (by omega)
      simpa [nth] using this
    rcases h with ⟨hle, rfl⟩ | ⟨hgt, k, hk, rfl⟩
    · exact offer_keep sv v M yn yc yd xn xc xd w hV (by omega) oky okx hle
    · refine offer_repl sv v M yn yc yd xn xc xd w hV (by omega) (fun j hj => ?_) oky okx hgt k hk
      have := ok j (by omega)
      have e : nth (M ++ [(yn, yc, yd)]) j = nth M j := by simp [nth, List.getD, List.getElem?_append, hj]
      rwa [e] at this
end Go.Proofs.Qxb6615739a
