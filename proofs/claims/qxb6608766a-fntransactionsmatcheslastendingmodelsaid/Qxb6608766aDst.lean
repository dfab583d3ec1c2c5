import Derived.Test.Qxb6608766aAsc
namespace Go.Proofs.Qxb6608766a
open Go.RowKit
set_option linter.unusedSimpArgs false
set_option linter.unusedVariables false

/-- What distinctSorted holds at k. -/
def DsIn (w : World) (X : Nat → Int) (k : Nat) (v : Value) (wr : World) : Prop :=
  ∃ D : List Int, Dist X k D ∧ D.length ≤ k ∧ wr.ownsRow w.heap.size 3 1 v D.length (i64s D) ∧ Below w.heap.size w wr
/-- The numbers that a slice shows. -/
def IntC (w : World) (v : Value) (D : List Int) : Prop :=
  D.length = 0 ∨ ∃ b c, v = .slice (some ⟨b, 0, none⟩) D.length c ∧ b < w.heap.size ∧ ∀ j u, D[j]? = some u → w.cell? ⟨b, j, none⟩ = some (.int .i64 u)
def DistPost (X : Nat → Int) (n : Nat) (w : World) (e : Ending) (w' : World) : Prop :=
  ∃ a c l D, e = .returned (.slice a l c) ∧ D.length = l ∧ l ≤ n ∧ Dist X n D ∧ IntC w' (.slice a l c) D ∧ Below w.heap.size w w'
theorem own_value1 {w : World} {base e n : Nat} {v : Value} {xs : List Value} (h : w.ownsRow base e 1 v n xs) : ∃ a c, v = .slice a n c := by
  rcases h.2 with ⟨h1, h2⟩ | ⟨g, cap, cur, hv, _⟩
  · exact ⟨none, 0, by rw [h1, h2]⟩
  · exact ⟨_, _, hv⟩
theorem i64s_at {D : List Int} {j : Nat} {x : Int} (h : D[j]? = some x) : (i64s D)[j]? = some (.int .i64 x) := by simp [i64s, h]
theorem IntC.of {w : World} {base : Nat} {v : Value} {D : List Int} (h : w.ownsRow base 3 1 v D.length (i64s D)) : IntC w v D := by
  by_cases h0 : D.length = 0
  · exact .inl h0
  · obtain ⟨g, c, rfl, _, hl⟩ := h.form (by omega)
    refine .inr ⟨g, c, rfl, hl, fun j u hu => ?_⟩
    have hj := (List.getElem?_eq_some_iff.1 hu).1
    rw [h.cellAt j (by omega)]
    exact i64s_at hu
theorem ds_cell {w : World} {base g c d : Nat} {D : List Int} (h : w.ownsRow base 3 1 (.slice (some ⟨g, 0, none⟩) d c) d (i64s D)) {j : Nat} {y : Int} (hj : j < d) (hy : D[j]? = some y) : w.cell? ⟨g, j, none⟩ = some (.int .i64 y) := by
  rw [h.cellAt j (by omega)]
  exact i64s_at hy
theorem ds_form {w : World} {base d : Nat} {a : Option Addr} {c : Nat} {xs : List Value} (h : w.ownsRow base 3 1 (.slice a d c) d xs) (hd : 0 < d) : ∃ g, a = some ⟨g, 0, none⟩ := by
  obtain ⟨g, c', hv, _, _⟩ := h.form hd
  injection hv with h1 _ _
  exact ⟨g, h1⟩
/-- Behind the append: the shift may begin. -/
theorem ds_new {w wr w3 : World} {v : Value} {d gm cm : Nat} {D : List Int} {x : Int} {o : Obj} (hR : wr.ownsRow w.heap.size 3 1 v d (i64s D)) (hB : Below w.heap.size w wr) (hd : D.length = d)
    (o1 : w3.ownsRow w.heap.size 3 1 (.slice (some ⟨gm, 0, none⟩) (d + 1) cm) (d + 1) (i64s D ++ [.int .i64 x])) (g1 : (wr.alloc o).grownBy w3 v.ownBlock) :
    w3.ownsRow w.heap.size 3 1 (.slice (some ⟨gm, 0, none⟩) (d + 1) cm) (d + 1) (i64s (shift D x d)) ∧ Below w.heap.size w w3 := by
  refine ⟨?_, ?_⟩
  · have e : shift D x d = D ++ [x] := by rw [← hd]; exact shift_start D x
    rw [e]
    have e2 : i64s (D ++ [x]) = i64s D ++ [.int .i64 x] := by simp [i64s]
    rw [e2]
    exact o1
  · have hs := hB.size
    have a1 : Below w.heap.size w (wr.alloc o) := hB.alloc (by omega) o
    exact a1.trans ((Kept.of (S := fun b => v.ownBlock = some b) g1 (fun b hb => hb)).bel (fun b hb => (hR.lt b hb).1) (by simp; omega))
/-- One shift. -/
theorem ds_shift {w wq : World} {d gm cm p : Nat} {D : List Int} {x y : Int} (h : wq.ownsRow w.heap.size 3 1 (.slice (some ⟨gm, 0, none⟩) (d + 1) cm) (d + 1) (i64s (shift D x (p + 1)))) (hB : Below w.heap.size w wq) (hd : D.length = d) (hp : p + 1 ≤ d) (hy : D[p]? = some y) :
    (wq.setCell ⟨gm, p + 1, none⟩ (.int .i64 y)).ownsRow w.heap.size 3 1 (.slice (some ⟨gm, 0, none⟩) (d + 1) cm) (d + 1) (i64s (shift D x p)) ∧ Below w.heap.size w (wq.setCell ⟨gm, p + 1, none⟩ (.int .i64 y)) := by
  have st := h.stored (p + 1) (.int .i64 y)
  have e : (i64s (shift D x (p + 1))).set (p + 1) (.int .i64 y) = i64s (shift D x p) := by
    rw [← shift_step (t := x) (by omega) hy]
    unfold i64s
    rw [List.map_set]
  rw [e] at st
  exact ⟨st.1, hB.setCell ((h.lt gm rfl).1) _⟩
/-- The number at its place. -/
theorem ds_done {w wq : World} {X : Nat → Int} {k d gm cm j : Nat} {D : List Int} (h : wq.ownsRow w.heap.size 3 1 (.slice (some ⟨gm, 0, none⟩) (d + 1) cm) (d + 1) (i64s (shift D (X k) j))) (hB : Below w.heap.size w wq) (hd : D.length = d) (hdk : d ≤ k) (hj : j ≤ d) (hD : Dist X k D) (lo : ∀ p x, p < j → D[p]? = some x → x < X k) (hi : ∀ x, D[j]? = some x → X k < x) :
    DsIn w X (k + 1) (.slice (some ⟨gm, 0, none⟩) (d + 1) cm) (wq.setCell ⟨gm, j, none⟩ (.int .i64 (X k))) := by
  have st := h.stored j (.int .i64 (X k))
  have e : (i64s (shift D (X k) j)).set j (.int .i64 (X k)) = i64s (put D j (X k)) := by
    rw [← shift_done (t := X k) (by omega)]
    unfold i64s
    rw [List.map_set]
  rw [e] at st
  have el : (put D j (X k)).length = d + 1 := by rw [put_len (by omega), hd]
  exact ⟨put D j (X k), hD.put lo hi, by omega, by rw [el]; exact st.1, hB.setCell ((h.lt gm rfl).1) _⟩

set_option maxHeartbeats 4000000 in
set_option maxRecDepth 100000 in
/-- distinctSorted. -/
theorem dist_any (a : Option Addr) (n c : Nat) (X : Nat → Int) (w : World) (hX : Cells w a n (fun i => .int .i64 (X i))) (hn : n ≤ 4096) :
    Calls Try.prog 13 #[.slice a n c] w (DistPost X n w) := by
  have HX : Hid (Cells w a n (fun i => .int .i64 (X i))) := hX
  clear hX
  obtain ⟨i3, hi3, hz30, hz31, hz32⟩ := info_parts info3
  go_enter Try.func13, Try.ntmps13
  go_wp2
  go_loopw [3, 4] (fun s3 s4 wr => ∃ k : Nat, s4 = .int .i64 (k : Int) ∧ k ≤ n ∧ Hid (DsIn w X k s3 wr)) (fun _ s4 _ => ((n : Int) - intOf s4).toNat)
  case atStart => exact ⟨0, rfl, Nat.zero_le _, [], Dist.zero X, Nat.le_refl _, World.ownsRow_nil _ _ _ _, Below.refl _ _⟩
  case round =>
    obtain ⟨k, rfl, hk, T⟩ := hrel
    obtain ⟨D, hD, hDl, hR, hB⟩ := T.out
    obtain ⟨d, ed⟩ : ∃ d, D.length = d := ⟨_, rfl⟩
    have ED : Hid (D.length = d) := ed
    rw [ed] at hDl hR
    have HD : Hid (Dist X k D) := hD
    obtain ⟨a3, c3, hv3⟩ := own_value1 hR
    subst hv3
    have R : Hid (wr.ownsRow w.heap.size 3 1 (.slice a3 d c3) d (i64s D)) := hR
    have B : Hid (Below w.heap.size w wr) := hB
    have hsz : w.heap.size ≤ wr.heap.size := hB.size
    clear T hD hR hB ed
    by_cases hlt : k < n
    · obtain ⟨b, o, rfl, hb, hc⟩ : ∃ b o, a = some ⟨b, o, none⟩ ∧ b < w.heap.size ∧ ∀ i, i < n → w.cell? ⟨b, o + i, none⟩ = some (.int .i64 (X i)) := by
        rcases HX.out with h | h
        · omega
        · exact h
      have ckk : wr.cell? ⟨b, o + k, none⟩ = some (.int .i64 (X k)) := (B.out.cell (p := ⟨b, o + k, none⟩) hb).trans (hc k hlt)
      clear hc
      go_wp2
      go_loop [6] (fun s => ∃ j : Nat, s = .int .i64 (j : Int) ∧ j ≤ d ∧ Hid (∀ p x, p < j → D[p]? = some x → x < X k)) (fun s => ((d : Int) - intOf s).toNat)
      case atStart => exact ⟨0, rfl, Nat.zero_le _, fun p x hp => by omega⟩
      case round =>
        obtain ⟨j, rfl, hj, LO⟩ := hrel
        by_cases hjd : j < d
        · obtain ⟨gm0, rfl⟩ := ds_form R.out (by omega)
          have hjl : j < D.length := by rw [ED.out]; exact hjd
          generalize hy : D[j] = y
          have HY : Hid (D[j]? = some y) := by rw [List.getElem?_eq_getElem hjl, hy]; rfl
          have cy := ds_cell R.out hjd HY.out
          clear hy hjl
          by_cases h1 : y < X k
          · have LO2 : Hid (∀ p x, p < j + 1 → D[p]? = some x → x < X k) := fun p x hp hx => by
              by_cases e : p = j
              · subst e
                rw [HY.out] at hx
                injection hx with hx
                omega
              · exact LO.out p x (by omega) hx
            have hd1 : decide (y < X k) = true := decide_eq_true h1
            go_wp2
            go_round
            case rel => exact ⟨j + 1, by go_num, by omega, LO2⟩
            case measure => simp [intOf]; omega
          · have hd1 : decide (y < X k) = false := decide_eq_false h1
            by_cases h2 : y = X k
            · have z0 : (y == X k) = true := by simp [h2]
              have SAME : Hid (Dist X (k + 1) D) := HD.out.same (by rw [HY.out, h2])
              clear h2
              go_wp2
              go_roundw
              case rel => exact ⟨k + 1, by go_num, by omega, D, SAME.out, by rw [ED.out]; omega, by rw [ED.out]; exact R.out, B.out⟩
              case measure => simp [intOf]; omega
            · have z0 : (y == X k) = false := by simp [h2]
              have HI : Hid (∀ x, D[j]? = some x → X k < x) := fun x hx => by
                rw [HY.out] at hx
                injection hx with hx
                omega
              clear h2 HY h1
              go_wp2_with (at_builtin; refine wpList_append_lies _ rfl (.tmp 44) (.tmp 46) 24 rfl w.heap.size 3 i3 (.int .i64 0) 1 8 Try.underlying24 hi3 hz30 hz31 hz32 rfl (by decide) (.slice (some ⟨gm0, 0, none⟩) d c3) d (i64s D) rfl (R.out.alloc _) ⟨wr.heap.size, 0, none⟩ 1 1 [.int .i64 (X k)] rfl rfl (cell_one_new _ _ _) (one_mem _ rfl) (by omega) (by unfold maxLen; omega) (by omega) (by simp; omega) (wr.heap.size + 1) (by simp) ?_; intro gm cm w3 o1 g1 b1 _; have NW : Hid _ := ds_new R.out B.out ED.out o1 g1; clear o1 g1 b1)
              go_loopw [7] (fun s7 wq => ∃ q : Nat, s7 = .int .i64 (q : Int) ∧ j ≤ q ∧ q ≤ d ∧ Hid (wq.ownsRow w.heap.size 3 1 (.slice (some ⟨gm, 0, none⟩) (d + 1) cm) (d + 1) (i64s (shift D (X k) q))) ∧ Hid (Below w.heap.size w wq)) (fun s7 _ => (intOf s7 - (j : Int)).toNat)
              case atStart => exact ⟨d, by go_num, by omega, Nat.le_refl _, NW.out.1, NW.out.2⟩
              case round =>
                obtain ⟨q, rfl, hq1, hq2, RQ, BQ⟩ := hrel
                by_cases hq : j < q
                · obtain ⟨p, ep⟩ : ∃ p, q = p + 1 := ⟨q - 1, by omega⟩
                  have hpl : p < D.length := by rw [ED.out]; omega
                  generalize hyp : D[p] = yp
                  have HYP : Hid (D[p]? = some yp) := by rw [List.getElem?_eq_getElem hpl, hyp]; rfl
                  have EP : Hid (q = p + 1) := ep
                  have cp := ds_cell RQ.out (show p < d + 1 by omega) (show (shift D (X k) q)[p]? = some yp by rw [shift_below (by omega) hpl]; exact HYP.out)
                  have cq : ∃ u, wr.cell? ⟨gm, q, none⟩ = some u := by
                    have hl : q < (shift D (X k) q).length := by rw [shift_len (by rw [ED.out]; omega), ED.out]; omega
                    exact ⟨_, ds_cell RQ.out (show q < d + 1 by omega) (List.getElem?_eq_getElem hl)⟩
                  obtain ⟨uq, cq⟩ := cq
                  have fq := RQ.out.frozenAt q
                  have hw : IntKind.i64.wrap ((q : Int) - 1) = (p : Int) := by rw [IntKind.wrap_i64]; omega
                  have hpd : (p : Int) < (d : Int) + 1 := by omega
                  have ST : Hid (∀ Q, Q = q → (wr.setCell ⟨gm, Q, none⟩ (.int .i64 yp)).ownsRow w.heap.size 3 1 (.slice (some ⟨gm, 0, none⟩) (d + 1) cm) (d + 1) (i64s (shift D (X k) p)) ∧ Below w.heap.size w (wr.setCell ⟨gm, Q, none⟩ (.int .i64 yp))) := fun Q hQ => by
                    subst hQ
                    have r := RQ.out
                    rw [EP.out] at r ⊢
                    exact ds_shift r BQ.out ED.out (by omega) HYP.out
                  clear hyp hpl ep
                  go_wp2
                  go_roundw
                  case rel => exact ⟨p, by go_num, by have := EP.out; omega, by have := EP.out; omega, (ST.out q rfl).1, (ST.out q rfl).2⟩
                  case measure => have := EP.out; simp [intOf] <;> omega
                · obtain rfl : j = q := by omega
                  have hl : j < (shift D (X k) j).length := by rw [shift_len (by rw [ED.out]; omega), ED.out]; omega
                  have cq := ds_cell RQ.out (show j < d + 1 by omega) (List.getElem?_eq_getElem hl)
                  have fq := RQ.out.frozenAt j
                  have DN : Hid (DsIn w X (k + 1) (.slice (some ⟨gm, 0, none⟩) (d + 1) cm) (wr.setCell ⟨gm, j, none⟩ (.int .i64 (X k)))) := ds_done RQ.out BQ.out ED.out hDl (by omega) HD.out LO.out HI.out
                  generalize (shift D (X k) j)[j] = uq at cq
                  clear hl
                  go_wp2
                  go_roundw
                  case rel => exact ⟨k + 1, by go_num, by omega, DN.out⟩
                  case measure => simp [intOf] <;> omega
        · obtain rfl : d = j := by omega
          have hd0 : decide ((d : Int) < (d : Int)) = false := decide_eq_false (by omega)
          have HI : Hid (∀ x, D[d]? = some x → X k < x) := fun x hx => by
            have := (List.getElem?_eq_some_iff.1 hx).1
            rw [ED.out] at this
            omega
          go_wp2_with (at_builtin; refine wpList_append_lies _ rfl (.tmp 44) (.tmp 46) 24 rfl w.heap.size 3 i3 (.int .i64 0) 1 8 Try.underlying24 hi3 hz30 hz31 hz32 rfl (by decide) (.slice a3 d c3) d (i64s D) rfl (R.out.alloc _) ⟨wr.heap.size, 0, none⟩ 1 1 [.int .i64 (X k)] rfl rfl (cell_one_new _ _ _) (one_mem _ rfl) (by omega) (by unfold maxLen; omega) (by omega) (by simp; omega) (wr.heap.size + 1) (by simp) ?_; intro gm cm w3 o1 g1 b1 _; have NW : Hid _ := ds_new R.out B.out ED.out o1 g1; clear o1 g1 b1)
          go_loopw [7] (fun s7 wq => ∃ q : Nat, s7 = .int .i64 (q : Int) ∧ d ≤ q ∧ q ≤ d ∧ Hid (wq.ownsRow w.heap.size 3 1 (.slice (some ⟨gm, 0, none⟩) (d + 1) cm) (d + 1) (i64s (shift D (X k) q))) ∧ Hid (Below w.heap.size w wq)) (fun s7 _ => (intOf s7 - (d : Int)).toNat)
          case atStart => exact ⟨d, by go_num, by omega, Nat.le_refl _, NW.out.1, NW.out.2⟩
          case round =>
            obtain ⟨q, rfl, hq1, hq2, RQ, BQ⟩ := hrel
            by_cases hq : d < q
            · exfalso; omega
            · obtain rfl : d = q := by omega
              have hl : d < (shift D (X k) d).length := by rw [shift_len (by rw [ED.out]; omega), ED.out]; omega
              have cq := ds_cell RQ.out (show d < d + 1 by omega) (List.getElem?_eq_getElem hl)
              have fq := RQ.out.frozenAt d
              have DN : Hid (DsIn w X (k + 1) (.slice (some ⟨gm, 0, none⟩) (d + 1) cm) (wr.setCell ⟨gm, d, none⟩ (.int .i64 (X k)))) := ds_done RQ.out BQ.out ED.out hDl (by omega) HD.out LO.out HI.out
              generalize (shift D (X k) d)[d] = uq at cq
              clear hl
              go_wp2
              go_roundw
              case rel => exact ⟨k + 1, by go_num, by omega, DN.out⟩
              case measure => simp [intOf] <;> omega
    · obtain rfl : n = k := by omega
      have hd : decide ((n : Int) < (n : Int)) = false := decide_eq_false (by omega)
      go_wp2
      go_ret
      exact ⟨a3, c3, d, D, rfl, ED.out, hDl, HD.out, IntC.of (base := w.heap.size) (by rw [ED.out]; exact R.out), B.out⟩
end Go.Proofs.Qxb6608766a
