import Derived.Test.Qxb6615739aFits
import Derived.Test.Qxb6615739aPlain
namespace Go.Proofs.Qxb6615739a
open Go.RowKit
set_option linter.unusedSimpArgs false
set_option linter.unusedVariables false

/-- The trust graph that the law has made: its struct at block g; 'first' and 'neighbours' in memory of the law's own. -/
structure Graph (w : World) (g bF oF n cF : Nat) (F : Nat → Nat) (aN : Option Addr) (lN cN : Nat) (N : Nat → Int) : Prop where
  gl : g < w.heap.size
  g1 : w.cell? ⟨g, 1, none⟩ = some (.slice (some ⟨bF, oF, none⟩) (n + 1) cF)
  g2 : w.cell? ⟨g, 2, none⟩ = some (.slice aN lN cN)
  hn : n ≤ 4096
  bl : bF < w.heap.size
  hF : ∀ i, i < n + 1 → w.cell? ⟨bF, oF + i, none⟩ = some (.int .i64 (F i))
  hl : lN ≤ 4096
  hc : lN ≤ cN ∧ cN ≤ 9223372036854775807
  up : ∀ i, i < n → F i ≤ F (i + 1)
  top : ∀ i, i < n + 1 → F i ≤ lN
  hN : (aN = none ∧ lN = 0 ∧ cN = 0) ∨ ∃ b o, aN = some ⟨b, o, none⟩ ∧ b < w.heap.size ∧ ∀ i, i < lN → w.cell? ⟨b, o + i, none⟩ = some (.int .i64 (N i))

theorem Graph.gr {w w' : World} {g bF oF n cF : Nat} {F : Nat → Nat} {aN : Option Addr} {lN cN : Nat} {N : Nat → Int} (h : Graph w g bF oF n cF F aN lN cN N) (r : Gr w w') : Graph w' g bF oF n cF F aN lN cN N where
  gl := Nat.lt_of_lt_of_le h.gl r.size
  g1 := (r.cell h.gl).trans h.g1
  g2 := (r.cell h.gl).trans h.g2
  hn := h.hn
  bl := Nat.lt_of_lt_of_le h.bl r.size
  hF := fun i hi => (r.cell h.bl).trans (h.hF i hi)
  hl := h.hl
  hc := h.hc
  up := h.up
  top := h.top
  hN := by
    rcases h.hN with h0 | ⟨b, o, ha, hb, hc⟩
    · exact .inl h0
    · exact .inr ⟨b, o, ha, Nat.lt_of_lt_of_le hb r.size, fun i hi => (r.cell hb).trans (hc i hi)⟩

/-- A slice's length, for a measure. -/
def lenOf : Value → Nat | .slice _ n _ => n | _ => 0

def NbPost (aN : Option Addr) (f0 f1 : Nat) (w : World) (e : Ending) (w' : World) : Prop :=
  ∃ A, e = .returned (.slice A (f1 - f0) (f1 - f0)) ∧ (∃ m, w' = w.drewN m) ∧ (f0 < f1 → ∃ b o, aN = some ⟨b, o, none⟩ ∧ A = some ⟨b, o + f0, none⟩)

/-- The neighbours' row, by its block. -/
theorem Graph.row {w : World} {g bF oF n cF : Nat} {F : Nat → Nat} {aN : Option Addr} {lN cN : Nat} {N : Nat → Int} (h : Graph w g bF oF n cF F aN lN cN N) :
    ∃ b o, (0 < lN → aN = some ⟨b, o, none⟩ ∧ b < w.heap.size) ∧ ∀ i, i < lN → w.cell? ⟨b, o + i, none⟩ = some (.int .i64 (N i)) := by
  rcases h.hN with ⟨_, h0, _⟩ | ⟨b, o, ha, hb, hc⟩
  · exact ⟨0, 0, fun h => by omega, fun i hi => by omega⟩
  · exact ⟨b, o, fun _ => ⟨ha, hb⟩, hc⟩

set_option maxHeartbeats 1000000 in
theorem neighbours_any {w : World} {g bF oF n cF : Nat} {F : Nat → Nat} {aN : Option Addr} {lN cN : Nat} {N : Nat → Int} (h : Graph w g bF oF n cF F aN lN cN N) (u : Nat) (hu : u < n) (U : Int) (eU : U = u) :
    Calls Try.prog 36 #[.pointer (some ⟨g, 0, none⟩), .int .i64 U] w (NbPost aN (F u) (F (u + 1)) w) := by
  subst eU
  have c1 := h.g1
  have c2 := h.g2
  have d1 := h.hF u (by omega)
  have d2 := h.hF (u + 1) (by omega)
  have hup := h.up u hu
  have htp := h.top (u + 1) (by omega)
  have hcN := h.hc
  have hlN := h.hl
  have hnn := h.hn
  generalize F u = f0 at *
  generalize F (u + 1) = f1 at *
  have i0 : (0 : Int) ≤ (u : Int) := by omega
  have i1 : (u : Int) < (n : Int) + 1 := by omega
  have i2 : (u : Int) + 1 < (n : Int) + 1 := by omega
  have i3 : (0 : Int) ≤ (f0 : Int) := by omega
  have i4 : (f0 : Int) ≤ (f1 : Int) := by omega
  have i5 : (f1 : Int) ≤ (cN : Int) := by omega
  rcases h.hN with ⟨rfl, rfl, rfl⟩ | ⟨b, o, rfl, hb, hc⟩
  · obtain rfl : f1 = 0 := by omega
    obtain rfl : f0 = 0 := by omega
    clear h
    go_enter Try.func36, Try.ntmps36
    go_wp2
    go_quiet (fail)
    go_wp2
    go_ret
    exact ⟨none, rfl, ⟨nq, rfl⟩, fun h => by omega⟩
  · clear h
    have HC : Hid (∀ i, i < lN → w.cell? ⟨b, o + i, none⟩ = some (.int .i64 (N i))) := hc
    clear hc
    go_enter Try.func36, Try.ntmps36
    go_wp2
    go_quiet (fail)
    go_wp2
    · go_ret
      exact ⟨some ⟨b, o, none⟩, by rw [Nat.sub_self]; rfl, ⟨nq, rfl⟩, fun h => by omega⟩
    · go_ret
      exact ⟨some ⟨b, o + f0, none⟩, rfl, ⟨nq, rfl⟩, fun _ => ⟨b, o, rfl, rfl⟩⟩

theorem newFriendship_nat (c d : Nat) (C D : Int) (eC : C = c) (eD : D = d) (r : Nat) (hr : r = if c = 0 then 1 else d) (w : World) :
    Calls Try.prog 48 #[.int .u64 C, .int .u64 D] w fun e w' => e = .returned (.agg #[.int .u64 c, .int .u64 r]) ∧ Gr w w' := by
  subst eC; subst eD
  refine (newFriendship_any c d w).mono fun e w' ⟨he, hg⟩ => ⟨?_, hg⟩
  rw [he, hr]
  by_cases h : c = 0
  · simp [h]
  · simp [h]

set_option maxHeartbeats 1000000 in
set_option maxRecDepth 100000 in
theorem friendship_any {w : World} {g bF oF n cF : Nat} {F : Nat → Nat} {aN : Option Addr} {lN cN : Nat} {N : Nat → Int} (h : Graph w g bF oF n cF F aN lN cN N) (u v : Nat) (hu : u < n) (hv : v < n) (UI VI : Int) (eU : UI = u) (eV : VI = v)
    (aU : Asc (fun i => N (F u + i)) (F (u + 1) - F u)) (aV : Asc (fun i => N (F v + i)) (F (v + 1) - F v)) (c dd : Nat)
    (hc : c = cnt (fun i => N (F u + i)) (F (u + 1) - F u) (fun i => N (F v + i)) (F (v + 1) - F v)) (hdd : dd = if c = 0 then 1 else (F (u + 1) - F u) * (F (v + 1) - F v)) :
    Calls Try.prog 38 #[.pointer (some ⟨g, 0, none⟩), .int .i64 UI, .int .i64 VI] w fun e w' => e = .returned (.agg #[.int .u64 c, .int .u64 dd]) ∧ Gr w w' := by
  subst eU
  subst eV
  have HG : Hid (Graph w g bF oF n cF F aN lN cN N) := h
  obtain ⟨bN, oN, hadr, hcel⟩ := h.row
  have u1 := h.up u hu
  have u2 := h.top (u + 1) (by omega)
  have v1 := h.up v hv
  have v2 := h.top (v + 1) (by omega)
  have hl := h.hl
  have hadrU : F u < F (u + 1) → aN = some ⟨bN, oN, none⟩ ∧ bN < w.heap.size := fun h => hadr (by omega)
  have hadrV : F v < F (v + 1) → aN = some ⟨bN, oN, none⟩ ∧ bN < w.heap.size := fun h => hadr (by omega)
  have dcU : ∀ i, i < F (u + 1) - F u → w.cell? ⟨bN, oN + F u + i, none⟩ = some (.int .i64 (N (F u + i))) := fun i hi => by rw [Nat.add_assoc]; exact hcel _ (by omega)
  have dcV : ∀ i, i < F (v + 1) - F v → w.cell? ⟨bN, oN + F v + i, none⟩ = some (.int .i64 (N (F v + i))) := fun i hi => by rw [Nat.add_assoc]; exact hcel _ (by omega)
  have pU : ∀ w, Graph w g bF oF n cF F aN lN cN N → Calls Try.prog 36 #[.pointer (some ⟨g, 0, none⟩), .int .i64 u] w (NbPost aN (F u) (F (u + 1)) w) := fun w h => neighbours_any h u hu _ rfl
  have pV : ∀ w, Graph w g bF oF n cF F aN lN cN N → Calls Try.prog 36 #[.pointer (some ⟨g, 0, none⟩), .int .i64 v] w (NbPost aN (F v) (F (v + 1)) w) := fun w h => neighbours_any h v hv _ rfl
  unfold NbPost at pU pV
  generalize hU : (fun i => N (F u + i)) = U at *
  generalize hV : (fun i => N (F v + i)) = V at *
  have hcU : ∀ i, i < F (u + 1) - F u → w.cell? ⟨bN, oN + F u + i, none⟩ = some (.int .i64 (U i)) := fun i hi => by rw [← hU]; exact dcU i hi
  have hcV : ∀ i, i < F (v + 1) - F v → w.cell? ⟨bN, oN + F v + i, none⟩ = some (.int .i64 (V i)) := fun i hi => by rw [← hV]; exact dcV i hi
  have kU : F u < F (u + 1) → 0 < F (u + 1) - F u := fun h => by omega
  have kV : F v < F (v + 1) → 0 < F (v + 1) - F v := fun h => by omega
  have kU' : 0 < F (u + 1) - F u → F u < F (u + 1) := fun h => by omega
  have kV' : 0 < F (v + 1) - F v → F v < F (v + 1) := fun h => by omega
  have lu4 : F (u + 1) - F u ≤ 4096 := by omega
  have lv4 : F (v + 1) - F v ≤ 4096 := by omega
  generalize hlu : F (u + 1) - F u = lu at *
  generalize hlv : F (v + 1) - F v = lv at *
  have PU : Hid _ := pU
  have PV : Hid _ := pV
  have CU : Hid _ := hcU
  have CV : Hid _ := hcV
  have AU : Hid (0 < lu → aN = some ⟨bN, oN, none⟩ ∧ bN < w.heap.size) := fun h => hadrU (kU' h)
  have AV : Hid (0 < lv → aN = some ⟨bN, oN, none⟩ ∧ bN < w.heap.size) := fun h => hadrV (kV' h)
  have KU : Hid _ := kU'
  have KV : Hid _ := kV'
  have HU : Hid (Asc U lu) := aU
  have HV : Hid (Asc V lv) := aV
  have hmul : lu * lv ≤ 16777216 := Nat.mul_le_mul lu4 lv4
  have hcnt := cnt_le U lu V lv
  have HC : Hid (c = cnt U lu V lv) := hc
  have HD : Hid (dd = if c = 0 then 1 else lu * lv) := hdd
  generalize F u = fu at *
  generalize F v = fv at *
  clear aU aV hc hdd h hcel hadr hadrU hadrV dcU dcV hcU hcV pU pV kU kV kU' kV' u1 u2 v1 v2 hU hV hlu hlv
  go_enter Try.func38, Try.ntmps38
  go_wp2_with fail
  refine (PU.out _ (HG.out.gr ((Gr.refl _).alloc _))).mono ?_
  rintro e w' ⟨A, rfl, ⟨m1, rfl⟩, IU⟩
  go_wp2_with fail
  refine (PV.out _ (HG.out.gr (((Gr.refl _).alloc _).drewN m1))).mono ?_
  rintro e w' ⟨B, rfl, ⟨m2, rfl⟩, IV⟩
  have IA : Hid (0 < lu → A = some ⟨bN, oN + fu + 0, none⟩) := fun h => by
    obtain ⟨b, o, e1, e2⟩ := IU (KU.out h)
    rw [(AU.out h).1] at e1
    cases e1
    exact e2
  have IB : Hid (0 < lv → B = some ⟨bN, oN + fv + 0, none⟩) := fun h => by
    obtain ⟨b, o, e1, e2⟩ := IV (KV.out h)
    rw [(AV.out h).1] at e1
    cases e1
    exact e2
  clear IU IV PU PV KU KV
  go_wp2
  go_loopw [7, 8, 10] (fun s7 s8 s10 wr => ∃ (a b m : Nat) (A B : Option Addr), s7 = .slice A (lu - a) (lu - a) ∧ s8 = .slice B (lv - b) (lv - b) ∧ s10 = .int .u64 (cnt U lu V b : Nat) ∧ a ≤ lu ∧ b ≤ lv ∧
      wr = (w.alloc (Obj.cells #[Value.int IntKind.u64 0, Value.int IntKind.u64 0] 64)).drewN m ∧ Hid (a < lu → A = some ⟨bN, oN + fu + a, none⟩) ∧ Hid (b < lv → B = some ⟨bN, oN + fv + b, none⟩) ∧ Hid (Merge U lu V lv a b))
    (fun s7 s8 _ _ => (lenOf s7 + lenOf s8))
  case atStart => exact ⟨0, 0, m1 + m2, A, B, rfl, rfl, rfl, Nat.zero_le _, Nat.zero_le _, rfl, IA, IB, fun i j h => absurd h (Nat.not_lt_zero _), fun i j h => absurd h (Nat.not_lt_zero _)⟩
  case round =>
    clear IA IB
    obtain ⟨a, b, m, A', B', rfl, rfl, rfl, ha, hb, rfl, IA, IB, HM⟩ := hrel
    have hcb := cnt_le U lu V b
    by_cases ha' : a < lu
    case neg =>
      have hd : decide ((0 : Int) < ((lu - a : Nat) : Int)) = false := decide_eq_false (by omega)
      have hfin := HC.out.trans (merge_done HM.out ha hb (.inl (by omega))).symm
      rw [← hfin] at hcb ⊢
      clear HC hfin
      have hcb' : c ≤ 4096 := by omega
      go_wp2_with fail
      refine (newFriendship_nat c (lu * lv) _ _ rfl (M64.mulN lu lv) dd HD.out _).mono ?_
      rintro e w' ⟨rfl, hg⟩
      have hgr : Gr w w' := (((Gr.refl w).alloc _).drewN m).trans hg
      have hz : w.heap.size < w'.heap.size := by have := hg.size; simp at this; omega
      have hf0 : w'.frozen? ⟨w.heap.size, 0, none⟩ = false := by rw [hg.frozen (by simp)]; simp
      have hf1 : w'.frozen? ⟨w.heap.size, 1, none⟩ = false := by rw [hg.frozen (by simp)]; simp
      have hv0 : w'.cell? ⟨w.heap.size, 0, none⟩ = some (.int .u64 0) := by rw [hg.cell (by simp)]; simp
      have hv1 : w'.cell? ⟨w.heap.size, 1, none⟩ = some (.int .u64 0) := by rw [hg.cell (by simp)]; simp
      have HGR : Hid _ := hgr
      clear hg hgr
      go_wp2
      refine bodyPost_ret (v := .agg #[.int .u64 c, .int .u64 dd]) (by simp [results, Try.results38, go_sem, hv0, hv1]) rfl ⟨rfl, ?_⟩
      exact (HGR.out.setCell (Nat.le_refl _) _).setCell (Nat.le_refl _) _
    by_cases hb' : b < lv
    case neg =>
      have i1 : (0 : Int) < ((lu - a : Nat) : Int) := by omega
      have hd : decide ((0 : Int) < ((lv - b : Nat) : Int)) = false := decide_eq_false (by omega)
      have hfin := HC.out.trans (merge_done HM.out ha hb (.inr (by omega))).symm
      rw [← hfin] at hcb ⊢
      clear HC hfin
      have hcb' : c ≤ 4096 := by omega
      go_wp2_with fail
      refine (newFriendship_nat c (lu * lv) _ _ rfl (M64.mulN lu lv) dd HD.out _).mono ?_
      rintro e w' ⟨rfl, hg⟩
      have hgr : Gr w w' := (((Gr.refl w).alloc _).drewN m).trans hg
      have hz : w.heap.size < w'.heap.size := by have := hg.size; simp at this; omega
      have hf0 : w'.frozen? ⟨w.heap.size, 0, none⟩ = false := by rw [hg.frozen (by simp)]; simp
      have hf1 : w'.frozen? ⟨w.heap.size, 1, none⟩ = false := by rw [hg.frozen (by simp)]; simp
      have hv0 : w'.cell? ⟨w.heap.size, 0, none⟩ = some (.int .u64 0) := by rw [hg.cell (by simp)]; simp
      have hv1 : w'.cell? ⟨w.heap.size, 1, none⟩ = some (.int .u64 0) := by rw [hg.cell (by simp)]; simp
      have HGR : Hid _ := hgr
      clear hg hgr
      go_wp2
      refine bodyPost_ret (v := .agg #[.int .u64 c, .int .u64 dd]) (by simp [results, Try.results38, go_sem, hv0, hv1]) rfl ⟨rfl, ?_⟩
      exact (HGR.out.setCell (Nat.le_refl _) _).setCell (Nat.le_refl _) _
    obtain rfl := IA.out ha'
    obtain rfl := IB.out hb'
    have cU := CU.out a ha'
    have cV := CV.out b hb'
    have hbN := (AU.out (by omega)).2
    have i1 : (0 : Int) < ((lu - a : Nat) : Int) := by omega
    have i2 : (0 : Int) < ((lv - b : Nat) : Int) := by omega
    clear IA IB CU CV AU AV
    by_cases h1 : U a < V b
    · go_wp2
      go_quiet (fail)
      go_wp2
      go_roundw
      case rel => exact ⟨a + 1, b, m + nq, _, _, by rw [Nat.sub_sub], rfl, rfl, by omega, hb, by simp, fun h => by rw [if_neg (by omega), Nat.add_assoc], fun _ => rfl, merge_u HV.out HM.out h1⟩
      case measure => simp [lenOf]; omega
    by_cases h2 : V b < U a
    · go_wp2
      go_quiet (fail)
      go_wp2
      go_quiet (fail)
      go_wp2
      go_roundw
      case rel => exact ⟨a, b + 1, _, _, _, rfl, by rw [Nat.sub_sub], by rw [merge_v_cnt HU.out hb' HM.out h2], ha, by omega, by first | rfl | (simp; rfl), fun _ => rfl, fun h => by rw [if_neg (by omega), Nat.add_assoc], merge_v HU.out HM.out h2⟩
      case measure => simp [lenOf]; omega
    · go_wp2
      go_quiet (fail)
      go_wp2
      go_quiet (fail)
      go_wp2
      go_quiet (fail)
      go_wp2
      go_roundw
      case rel => exact ⟨a + 1, b + 1, _, _, _, by rw [Nat.sub_sub], by rw [Nat.sub_sub], by rw [merge_e_cnt ha' (by omega)]; go_num, by omega, by omega, by first | rfl | (simp; rfl), fun h => by rw [if_neg (by omega), Nat.add_assoc], fun h => by rw [if_neg (by omega), Nat.add_assoc], merge_e HU.out HV.out HM.out (by omega)⟩
      case measure => simp [lenOf]; omega
end Go.Proofs.Qxb6615739a
