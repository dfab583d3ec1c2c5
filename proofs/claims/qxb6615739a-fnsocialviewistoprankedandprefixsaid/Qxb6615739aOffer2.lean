import Derived.Test.Qxb6615739aOffer
namespace Go.Proofs.Qxb6615739a
open Go.RowKit Go.Sort
set_option linter.unusedSimpArgs false
set_option linter.unusedVariables false

theorem offer_same {sv : Nat} {size : Int} {v : Value} {L : List Fr} {w w' : World} (hV : View w sv size v L) (g : Gr w w') : OfferPost sv size L w (.returned (.tuple #[])) w' :=
  ⟨rfl, ⟨_, hV.gr g⟩, g.bel.mono (Nat.le_of_lt hV.lt)⟩

set_option maxHeartbeats 1000000 in
set_option maxRecDepth 100000 in
theorem offer_zero (sv : Nat) (v : Value) (xn : Int) (xc xd : Nat) (w : World) (hV : View w sv 0 v []) :
    Calls Try.prog 37 #[.pointer (some ⟨sv, 0, none⟩), .int .i64 xn, .agg #[.int .u64 xc, .int .u64 xd]] w (OfferPost sv 0 [] w) := by
  have HV : Hid _ := hV
  have c0 := hV.c0
  have c1 := hV.c1
  have hsv := hV.lt
  obtain ⟨a, c, rfl⟩ : ∃ a c, v = .slice a 0 c := by
    rcases own_form hV.own with ⟨h1, h2, _⟩ | ⟨g, cap, cur, h1, _⟩
    · exact ⟨none, 0, h1⟩
    · exact ⟨_, _, h1⟩
  clear hV
  go_enter Try.func37, Try.ntmps37
  go_wp2
  go_quiet (fail)
  go_wp2
  go_quiet (fail)
  go_wp2
  go_end0
  exact offer_same HV.out ((((Gr.refl w).alloc _).drewN _).drewN _)

set_option maxHeartbeats 1000000 in
set_option maxRecDepth 100000 in
/-- The view is full, and the last friend is not beaten. -/
theorem offer_keep (sv : Nat) (v : Value) (M : List Fr) (yn : Int) (yc yd : Nat) (xn : Int) (xc xd : Nat) (w : World) (hV : View w sv ((M.length : Int) + 1) v (M ++ [(yn, yc, yd)])) (hL : M.length ≤ 4096) (oky : Fr.ok (yn, yc, yd)) (okx : Fr.ok (xn, xc, xd))
    (hle : fcmp xc xd yc yd ≤ 0) :
    Calls Try.prog 37 #[.pointer (some ⟨sv, 0, none⟩), .int .i64 xn, .agg #[.int .u64 xc, .int .u64 xd]] w (OfferPost sv ((M.length : Int) + 1) (M ++ [(yn, yc, yd)]) w) := by
  have mx := mixed
  have HV : Hid _ := hV
  have OKY : Hid _ := oky
  have OKX : Hid _ := okx
  have c0 := hV.c0
  have c1 := hV.c1
  have hsv := hV.lt
  have hlen : (M ++ [(yn, yc, yd)]).length = M.length + 1 := by simp
  obtain ⟨g, c, rfl, hR⟩ : ∃ g c, v = .slice (some ⟨g, 0, none⟩) (M.length + 1) c ∧ Row w g (M.length + 1) (nth (M ++ [(yn, yc, yd)])) := by
    rcases own_form hV.own with ⟨h1, h2, _⟩ | ⟨g, cap, cur, h1, _, hg, hh, _, _, _, ht⟩
    · simp at h2
    · rw [hlen] at h1
      exact ⟨_, _, h1, by rw [← hlen]; exact row_of_own (base := sv + 1) (cap := cap) hg hh ht⟩
  have hlast : nth (M ++ [(yn, yc, yd)]) M.length = (yn, yc, yd) := by simp [nth]
  have hgl := hR.1
  have r := hR.2 M.length (by omega)
  rw [hlast] at r
  obtain ⟨r0, r1, r2⟩ := r
  clear hV oky okx hR hlast hlen
  generalize hnn : M.length = n at *
  have HNN : Hid _ := hnn
  clear hnn r0
  have hnz : ((n : Int) + 1 == 0) = false := by simp; omega
  go_enter Try.func37, Try.ntmps37
  go_wp2
  go_quiet (fail)
  go_wp2
  generalize hw1 : (w.alloc (Obj.cells #[Value.int IntKind.u64 ↑xc, Value.int IntKind.u64 ↑xd] 64)).drewN nq = w1
  have G1 : Hid (Gr w w1) := by rw [← hw1]; exact ((Gr.refl w).alloc _).drewN _
  have X0 : Hid (w1.heap[w.heap.size]? = some (.cells #[.int .u64 xc, .int .u64 xd] 64 (0, 0))) := by rw [← hw1]; exact heap_alloc_new w _
  clear hw1
  have hx := lt_blk X0.out
  have t0 : ∀ nn os, (grow (w1.drewN nn) os).cell? ⟨w.heap.size, 0, none⟩ = some (.int .u64 xc) := fun nn os => by rw [((Gr.refl w1).grown nn os).cell hx]; exact cell_blk X0.out rfl
  have t1 : ∀ nn os, (grow (w1.drewN nn) os).cell? ⟨w.heap.size, 1, none⟩ = some (.int .u64 xd) := fun nn os => by rw [((Gr.refl w1).grown nn os).cell hx]; exact cell_blk X0.out rfl
  have s0 : ∀ nn os, (grow (w1.drewN nn) os).cell? ⟨sv, 0, none⟩ = some (.int .i64 ((n : Int) + 1)) := fun nn os => by rw [(G1.out.grown nn os).cell hsv]; exact c0
  have s1 : ∀ nn os, (grow (w1.drewN nn) os).cell? ⟨sv, 1, none⟩ = some (.slice (some ⟨g, 0, none⟩) (n + 1) c) := fun nn os => by rw [(G1.out.grown nn os).cell hsv]; exact c1
  have y1 : ∀ nn os, (grow (w1.drewN nn) os).cell? ⟨g, n * 3 + 1, none⟩ = some (.int .u64 yc) := fun nn os => by rw [(G1.out.grown nn os).cell hgl]; exact r1
  have y2 : ∀ nn os, (grow (w1.drewN nn) os).cell? ⟨g, n * 3 + 2, none⟩ = some (.int .u64 yd) := fun nn os => by rw [(G1.out.grown nn os).cell hgl]; exact r2
  have i1 : IntKind.i64.wrap ((n : Int) + 1 - 1) = (n : Int) := by rw [IntKind.wrap_i64]; omega
  have i4 : IntKind.i64.wrap (n : Int) = (n : Int) := by rw [IntKind.wrap_i64]; omega
  have i2 : (0 : Int) ≤ (n : Int) := by omega
  have i3 : (n : Int) < (n : Int) + 1 := by omega
  clear c0 c1 r1 r2
  go_quiet_grown ((go_at_call 44; exact Calls.grown_of (Gr.calls (compare_any xc xd yc yd OKX.out.1 OKY.out.1 OKX.out.2 OKY.out.2 _))))
  go_wp2
  go_end0
  exact offer_same HV.out (G1.out.grown _ _)
end Go.Proofs.Qxb6615739a
