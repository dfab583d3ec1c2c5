import Derived.Test.Qxb6608766aTx
namespace Go.Proofs.Qxb6608766a
open Go.RowKit
set_option linter.unusedSimpArgs false
set_option linter.unusedVariables false

/-- The transactions that a slice shows. -/
def TrC (w : World) (v : Value) (L : List Tr) : Prop :=
  L.length = 0 ∨ ∃ b c, v = .slice (some ⟨b, 0, none⟩) L.length c ∧ b < w.heap.size ∧ ∀ j u, (trs L)[j]? = some u → w.cell? ⟨b, j, none⟩ = some u
def AscT (L : List Tr) : Prop := L.Pairwise (fun a b => a.1 < b.1)
/-- What the sort leaves. -/
def SortPost (g : Nat) (L : List Tr) (v : Value) (w : World) (e : Ending) (w' : World) : Prop :=
  ∃ L', e = .returned (.tuple #[]) ∧ L'.Perm L ∧ AscT L' ∧ TrC w' v L' ∧ Below g w w'
def TxPost (K X : Nat → Int) (n : Nat) (w : World) (e : Ending) (w' : World) : Prop :=
  ∃ a c L', e = .returned (.slice a L'.length c) ∧ Lists K X n L' ∧ AscT L' ∧ TrC w' (.slice a L'.length c) L' ∧ (n = 0 → a = none) ∧ Below w.heap.size w w'

theorem Lists.perm {K X : Nat → Int} {n : Nat} {L L' : List Tr} (h : Lists K X n L) (p : L'.Perm L) : Lists K X n L' :=
  ⟨(p.map _).nodup_iff.2 h.nd, fun t o => by rw [p.mem_iff]; exact h.mem t o⟩

/-- The loop's state, and that nothing is there at the start. -/
def TxIn (w : World) (K X : Nat → Int) (n : Nat) (v : Value) (wr : World) : Prop :=
  ∃ (L : List Tr) (S : Nat → Prop), Lists K X n L ∧ L.length ≤ n ∧ Ready w wr w.heap.size L v S ∧ (n = 0 → v = .slice none 0 0)

theorem Ready.start (w : World) : Ready w (w.alloc (.cells #[.slice none 0 0, .slice none 0 0, .map none] 59)) w.heap.size [] (.slice none 0 0) (foot w.heap.size (.slice none 0 0) (.slice none 0 0) none) := by
  refine ⟨⟨_, _, _, [], (fun _ => none), ⟨heap_alloc_new w _, World.ownsRow_nil _ _ _ _, World.ownsRow_nil _ _ _ _, (fun b hb => by cases hb), (fun _ _ => rfl), (fun b hb => by cases hb), (fun b hb => by cases hb), Inv.empty, Nat.zero_le _, Nat.zero_le _⟩, rfl⟩, World.ownsRow_nil _ _ _ _, (fun b hb => by cases hb), (Below.refl _ _).alloc (Nat.le_refl _) _, by simp⟩

theorem map_get {L : List Tr} {i : Nat} {x : Int} (h : (L.map (·.1))[i]? = some x) : ∃ o, L[i]? = some (x, o) := by
  rw [List.getElem?_map] at h
  cases hl : L[i]? with
  | none => rw [hl] at h; cases h
  | some p =>
    rw [hl] at h
    obtain ⟨a, b⟩ := p
    injection h with h
    exact ⟨b, by rw [← show a = x from h]⟩

theorem set_same {L : List Tr} {i : Nat} {x : Tr} (h : L[i]? = some x) : L.set i x = L := by
  apply List.ext_getElem?
  intro j
  rw [List.getElem?_set]
  by_cases e : i = j
  · subst e
    rw [if_pos rfl, if_pos (List.getElem?_eq_some_iff.1 h).1, h]
  · rw [if_neg e]
theorem out3 {k o : Int} (h : k = 3) : out k o = 1 := by simp [out, h]
theorem out4 {k o : Int} (h : k = 4) : out k o = 2 := by simp [out, h]
theorem out0 {k o : Int} (h : k ≠ 3) (h' : k ≠ 4) : out k o = o := by simp [out, h, h']

set_option maxHeartbeats 4000000 in
set_option maxRecDepth 100000 in
theorem tx_any (SORT : ∀ (w W : World) (g : Nat) (L : List Tr) (v : Value) (S : Nat → Prop), Ready w W g L v S → L.length ≤ 4096 → Calls Try.prog 21 #[v, .func (.func 22) #[] #[]] W (SortPost g L v W))
    (sb so ob oo n c : Nat) (K X : Nat → Int) (w : World) (hs : w.cell? ⟨sb, so, none⟩ = some (.slice (some ⟨ob, oo, none⟩) n c)) (hsb : sb < w.heap.size) (hob : ob < w.heap.size) (hO : OpsIn w ob oo n K X) (hn : n ≤ 4096) (hwf : ∀ i, i < n → (Lit.int .i64 (X i)).wf = true) :
    Calls Try.prog 12 #[.pointer (some ⟨sb, so, none⟩)] w (TxPost K X n w) := by
  have HO : Hid (OpsIn w ob oo n K X) := hO
  have HW : Hid (∀ i, i < n → (Lit.int .i64 (X i)).wf = true) := hwf
  have HS : Hid (∀ (w W : World) (g : Nat) (L : List Tr) (v : Value) (S : Nat → Prop), Ready w W g L v S → L.length ≤ 4096 → Calls Try.prog 21 #[v, .func (.func 22) #[] #[]] W (SortPost g L v W)) := SORT
  clear hO hwf SORT
  obtain ⟨i46, hi46, hz460, hz461, hz462⟩ := info_parts info46
  go_enter Try.func12, Try.ntmps12
  go_wp2
  go_loopw [4, 13] (fun s4 s13 wr => ∃ k : Nat, s13 = .int .i64 (k : Int) ∧ k ≤ n ∧ Hid (TxIn w K X k s4 wr)) (fun _ s13 _ => ((n : Int) - intOf s13).toNat)
  case atStart => exact ⟨0, rfl, Nat.zero_le _, [], _, Lists.zero K X, Nat.le_refl _, Ready.start w, fun _ => rfl⟩
  case round =>
    obtain ⟨k, rfl, hk, T⟩ := hrel
    obtain ⟨L, S, hL, hLl, hRd, hnil⟩ := T.out
    have HL : Hid (Lists K X k L) := hL
    have RD : Hid (Ready w wr w.heap.size L u4 S) := hRd
    have HN : Hid (k = 0 → u4 = .slice none 0 0) := hnil
    clear T hL hRd hnil
    by_cases hlt : k < n
    · have hB := RD.out.bel
      have s0 := (hB.cell (p := ⟨ob, oo + k * 7, none⟩) hob).trans (HO.out k hlt 0 _ rfl)
      have s1 := (hB.cell (p := ⟨ob, oo + k * 7 + 1, none⟩) hob).trans (HO.out k hlt 1 _ rfl)
      have s2 := (hB.cell (p := ⟨ob, oo + k * 7 + 2, none⟩) hob).trans (HO.out k hlt 2 _ rfl)
      have s3 := (hB.cell (p := ⟨ob, oo + k * 7 + 3, none⟩) hob).trans (HO.out k hlt 3 _ rfl)
      have s4 := (hB.cell (p := ⟨ob, oo + k * 7 + 4, none⟩) hob).trans (HO.out k hlt 4 _ rfl)
      have s5 := (hB.cell (p := ⟨ob, oo + k * 7 + 5, none⟩) hob).trans (HO.out k hlt 5 _ rfl)
      have s6 := (hB.cell (p := ⟨ob, oo + k * 7 + 6, none⟩) hob).trans (HO.out k hlt 6 _ rfl)
      clear hB
      obtain ⟨a4, c4, hv4⟩ := own_value2 RD.out.row
      subst hv4
      go_wp2_with fail
      have hcall := of_any ((RD.out.ix).kept (Kept.of (S := fun _ => False) (World.grownBy_alloc wr (.cells #[.int .u8 (K k), .bool false, .bool false, .int .i64 (X k), .string ⟨#[]⟩, .int .i64 0, .pointer none] 34) none) (fun b hb => by cases hb)) (fun b _ h => h)) (X k) (HW.out k hlt) (by rw [List.length_map]; omega)
      refine Calls.mono hcall ?_
      clear hcall
      rintro e w2 ⟨i, M', S', rfl, hI2, hK2, hS2, hMi, hcase⟩
      have hrd := ready_of RD.out.ix RD.out.row RD.out.ap RD.out.bel RD.out.lt hI2 hK2 hS2
      have b0 : w2.cell? ⟨wr.heap.size, 0, none⟩ = some (.int .u8 (K k)) := cell_blk hrd.2.2.2.2 rfl
      have b3 : w2.cell? ⟨wr.heap.size, 3, none⟩ = some (.int .i64 (X k)) := cell_blk hrd.2.2.2.2 rfl
      rcases hcase with ⟨hmem, rfl⟩ | ⟨hnm, rfl, hi⟩
      · obtain ⟨o, hLi⟩ := map_get hMi
        have hil := (List.getElem?_eq_some_iff.1 hLi).1
        have R2 : Hid (Ready w w2 w.heap.size L (.slice a4 L.length c4) S') := ⟨hI2, hrd.1, hrd.2.1, hrd.2.2.1, hrd.2.2.2.1⟩
        have LI : Hid (L[i]? = some (X k, o)) := hLi
        obtain ⟨gm, cm, hvm, _, _⟩ := R2.out.row.form (by omega)
        have e1 : ((i : Int) == (L.length : Int)) = false := by simp; omega
        injection hvm with hv1 _ hv2
        subst hv1 hv2
        have tc : w2.cell? ⟨gm, i * 2 + 1, none⟩ = some (.int .u8 o) := by
          rw [R2.out.row.cellAt (i * 2 + 1) (by omega)]; exact (trs_at LI.out).2
        have tf := R2.out.row.frozenAt (i * 2 + 1)
        have ST : Hid (∀ q, Ready w (w2.setCell ⟨gm, i * 2 + 1, none⟩ (.int .u8 q)) w.heap.size (L.set i (X k, q)) (.slice (some ⟨gm, 0, none⟩) L.length c4) S') := fun q => by
          have := R2.out.store LI.out q
          rwa [List.length_set] at this
        have OLD : Hid (Lists K X (k + 1) (L.set i (X k, out (K k) o))) := HL.out.old LI.out
        have SL : Hid (∀ q, (L.set i (X k, q)).length ≤ k + 1) := fun q => by rw [List.length_set]; omega
        clear hI2 hK2 hS2 hMi hrd hmem hLi
        generalize hll : L.length = ll at *
        clear hll
        have i1 : (i : Int) < (ll : Int) := by omega
        by_cases k3 : K k = 3
        · have q3 : (K k == 3) = true := by simp [k3]
          have OK : Hid _ := out3 (o := o) k3
          clear k3
          go_wp2
          go_roundw
          case rel => exact ⟨k + 1, by go_num, by omega, L.set i (X k, 1), S', by have := OLD.out; rwa [OK.out] at this, SL.out _, ST.out 1, fun h => by omega⟩
          case measure => simp [intOf]; omega
        · have q3 : (K k == 3) = false := by simp [k3]
          by_cases k4 : K k = 4
          · have q4 : (K k == 4) = true := by simp [k4]
            have OK : Hid _ := out4 (o := o) k4
            clear k3 k4
            go_wp2
            go_roundw
            case rel => exact ⟨k + 1, by go_num, by omega, L.set i (X k, 2), S', by have := OLD.out; rwa [OK.out] at this, SL.out _, ST.out 2, fun h => by omega⟩
            case measure => simp [intOf]; omega
          · have q4 : (K k == 4) = false := by simp [k4]
            have OK : Hid _ := out0 (o := o) k3 k4
            clear k3 k4
            go_wp2
            go_roundw
            case rel => exact ⟨k + 1, by go_num, by omega, L, S', by have := OLD.out; rwa [OK.out, set_same LI.out] at this, by have := SL.out o; rwa [set_same LI.out] at this, R2.out, fun h => by omega⟩
            case measure => simp [intOf]; omega
      · rw [List.length_map] at hi
        subst hi
        have I2 : Hid (Ix w2 w.heap.size (L.map (·.1) ++ [X k]) S') := hI2
        have R2 : Hid (w2.ownsRow (w.heap.size + 1) 46 2 (.slice a4 L.length c4) L.length (trs L)) := hrd.1
        have A2 : Hid (∀ b, (Value.slice a4 L.length c4).ownBlock = some b → ¬ S' b) := hrd.2.1
        have B2 : Hid (Below w.heap.size w w2) := hrd.2.2.1
        have G2 : w.heap.size < w2.heap.size := hrd.2.2.2.1
        have X2 : Hid (w2.heap[wr.heap.size]? = some (.cells #[.int .u8 (K k), .bool false, .bool false, .int .i64 (X k), .string ⟨#[]⟩, .int .i64 0, .pointer none] 34 (0, 0))) := hrd.2.2.2.2
        have NX : Hid (∀ b, (Value.slice a4 L.length c4).ownBlock = some b → b ≠ wr.heap.size) := fun b hb e => by have := (RD.out.row.lt b hb).2; omega
        have NEW : Hid (Lists K X (k + 1) (L ++ [(X k, out (K k) 0)])) := HL.out.new hnm
        have MK : Hid (∀ w3 gm cm o, w3.ownsRow (w.heap.size + 1) 46 2 (.slice (some ⟨gm, 0, none⟩) (L.length + 1) cm) (L.length + 1) (trs L ++ [.int .i64 (X k), .int .u8 0]) → (w2.alloc o).grownBy w3 (Value.slice a4 L.length c4).ownBlock → ((Value.slice a4 L.length c4).ownBlock = some gm ∨ gm = w2.heap.size + 1) →
            Ready w w3 w.heap.size (L ++ [(X k, 0)]) (.slice (some ⟨gm, 0, none⟩) (L.length + 1) cm) S' ∧ w3.cell? ⟨wr.heap.size, 0, none⟩ = some (.int .u8 (K k)) ∧ w3.cell? ⟨gm, L.length * 2 + 1, none⟩ = some (.int .u8 0) ∧ w3.frozen? ⟨gm, L.length * 2 + 1, none⟩ = false ∧
            ∀ q, Ready w (w3.setCell ⟨gm, L.length * 2 + 1, none⟩ (.int .u8 q)) w.heap.size (L ++ [(X k, q)]) (.slice (some ⟨gm, 0, none⟩) (L.length + 1) cm) S') := fun w3 gm cm o o1 g1 b1 => by
          have r := ready_new I2.out R2.out A2.out B2.out G2 o1 g1 b1
          have el : (L ++ [((X k : Int), (0 : Int))]).length = L.length + 1 := List.length_append
          have hg : (L ++ [((X k : Int), (0 : Int))])[L.length]? = some (X k, 0) := by simp
          have hlw := lt_blk X2.out
          have bx : w3.heap[wr.heap.size]? = some (.cells #[.int .u8 (K k), .bool false, .bool false, .int .i64 (X k), .string ⟨#[]⟩, .int .i64 0, .pointer none] 34 (0, 0)) :=
            ((g1.block wr.heap.size (by simp; omega) (fun e => NX.out _ e.symm rfl)).trans (Below.heap_alloc w2 o _ hlw)).trans X2.out
          refine ⟨by rw [el] at r; exact r, cell_blk bx rfl, ?_, ?_, fun q => ?_⟩
          · rw [o1.cellAt (L.length * 2 + 1) (by omega)]
            have := (trs_at hg).2
            rwa [trs_append] at this
          · exact o1.frozenAt _
          · have st := r.store hg q
            have es : (L ++ [((X k : Int), (0 : Int))]).set L.length (X k, q) = L ++ [(X k, q)] := by simp
            rw [es] at st
            have el2 : (L ++ [((X k : Int), (q : Int))]).length = L.length + 1 := List.length_append
            rw [el2] at st
            exact st
        have SL : Hid (∀ q, (L ++ [((X k : Int), (q : Int))]).length ≤ k + 1) := fun q => by rw [List.length_append]; simp; omega
        clear hI2 hK2 hS2 hMi hrd hnm
        generalize hll : L.length = ll at *
        clear hll
        have e1 : ((ll : Int) == (ll : Int)) = true := by simp
        by_cases k3 : K k = 3
        · have q3 : (K k == 3) = true := by simp [k3]
          have OK : Hid _ := out3 (o := 0) k3
          clear k3
          go_wp2_with (at_builtin; refine wpList_append_lies _ rfl (.tmp 25) (.tmp 29) 41 rfl (w.heap.size + 1) 46 i46 (.agg #[.int .i64 0, .int .u8 0]) 2 16 Try.underlying41 hi46 hz460 hz461 hz462 rfl (by decide) (.slice a4 ll c4) ll (trs L) rfl (R2.out.alloc _) ⟨w2.heap.size, 0, none⟩ 1 1 [.int .i64 (X k), .int .u8 0] rfl rfl (World.news_of_block (cs := #[.int .i64 (X k), .int .u8 0]) (t := 46) (fr := (0, 0)) (heap_alloc_new w2 _)) (fun u hu => by simp at hu; rcases hu with rfl | rfl <;> rfl) (by omega) (by unfold maxLen; omega) (by omega) (by simp; omega) (w2.heap.size + 1) (by simp) ?_; intro gm cm w3 o1 g1 b1 _; have RR : Hid _ := MK.out _ _ _ _ o1 g1 b1; have y0 := RR.out.2.1; have y1 := RR.out.2.2.1; have y2 := RR.out.2.2.2.1; clear o1 g1 b1)
          go_roundw
          case rel => exact ⟨k + 1, by go_num, by omega, L ++ [(X k, 1)], S', by have := NEW.out; rwa [OK.out] at this, SL.out _, RR.out.2.2.2.2 1, fun h => by omega⟩
          case measure => simp [intOf]; omega
        · have q3 : (K k == 3) = false := by simp [k3]
          by_cases k4 : K k = 4
          · have q4 : (K k == 4) = true := by simp [k4]
            have OK : Hid _ := out4 (o := 0) k4
            clear k3 k4
            go_wp2_with (at_builtin; refine wpList_append_lies _ rfl (.tmp 25) (.tmp 29) 41 rfl (w.heap.size + 1) 46 i46 (.agg #[.int .i64 0, .int .u8 0]) 2 16 Try.underlying41 hi46 hz460 hz461 hz462 rfl (by decide) (.slice a4 ll c4) ll (trs L) rfl (R2.out.alloc _) ⟨w2.heap.size, 0, none⟩ 1 1 [.int .i64 (X k), .int .u8 0] rfl rfl (World.news_of_block (cs := #[.int .i64 (X k), .int .u8 0]) (t := 46) (fr := (0, 0)) (heap_alloc_new w2 _)) (fun u hu => by simp at hu; rcases hu with rfl | rfl <;> rfl) (by omega) (by unfold maxLen; omega) (by omega) (by simp; omega) (w2.heap.size + 1) (by simp) ?_; intro gm cm w3 o1 g1 b1 _; have RR : Hid _ := MK.out _ _ _ _ o1 g1 b1; have y0 := RR.out.2.1; have y1 := RR.out.2.2.1; have y2 := RR.out.2.2.2.1; clear o1 g1 b1)
            go_roundw
            case rel => exact ⟨k + 1, by go_num, by omega, L ++ [(X k, 2)], S', by have := NEW.out; rwa [OK.out] at this, SL.out _, RR.out.2.2.2.2 2, fun h => by omega⟩
            case measure => simp [intOf]; omega
          · have q4 : (K k == 4) = false := by simp [k4]
            have OK : Hid _ := out0 (o := 0) k3 k4
            clear k3 k4
            go_wp2_with (at_builtin; refine wpList_append_lies _ rfl (.tmp 25) (.tmp 29) 41 rfl (w.heap.size + 1) 46 i46 (.agg #[.int .i64 0, .int .u8 0]) 2 16 Try.underlying41 hi46 hz460 hz461 hz462 rfl (by decide) (.slice a4 ll c4) ll (trs L) rfl (R2.out.alloc _) ⟨w2.heap.size, 0, none⟩ 1 1 [.int .i64 (X k), .int .u8 0] rfl rfl (World.news_of_block (cs := #[.int .i64 (X k), .int .u8 0]) (t := 46) (fr := (0, 0)) (heap_alloc_new w2 _)) (fun u hu => by simp at hu; rcases hu with rfl | rfl <;> rfl) (by omega) (by unfold maxLen; omega) (by omega) (by simp; omega) (w2.heap.size + 1) (by simp) ?_; intro gm cm w3 o1 g1 b1 _; have RR : Hid _ := MK.out _ _ _ _ o1 g1 b1; have y0 := RR.out.2.1; have y1 := RR.out.2.2.1; have y2 := RR.out.2.2.2.1; clear o1 g1 b1)
            go_roundw
            case rel => exact ⟨k + 1, by go_num, by omega, L ++ [(X k, 0)], S', by have := NEW.out; rwa [OK.out] at this, SL.out _, RR.out.1, fun h => by omega⟩
            case measure => simp [intOf]; omega
    · obtain rfl : n = k := by omega
      have hd : decide ((n : Int) < (n : Int)) = false := decide_eq_false (by omega)
      obtain ⟨a4, c4, hv4⟩ := own_value2 RD.out.row
      subst hv4
      have CS : Hid (Calls Try.prog 21 #[.slice a4 L.length c4, .func (.func 22) #[] #[]] wr (SortPost w.heap.size L (.slice a4 L.length c4) wr)) := HS.out w wr w.heap.size L _ S RD.out (by omega)
      go_wp2_with fail
      refine Calls.mono CS.out ?_
      rintro e w' ⟨L', rfl, hp, ha, ho, hb⟩
      have FIN : Hid (TxPost K X n w (.returned (.slice a4 L.length c4)) w') := by
        have el : L'.length = L.length := hp.length_eq
        refine ⟨a4, c4, L', by rw [el], HL.out.perm hp, ha, by rw [el]; exact ho, fun h0 => ?_, RD.out.bel.trans hb⟩
        have := HN.out h0
        injection this
      clear hp ha ho hb CS
      go_wp2
      go_ret
      exact FIN.out
end Go.Proofs.Qxb6608766a
