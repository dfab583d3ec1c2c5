import Derived.Test.Qxb6608766aTx2
import Derived.Test.Qxb6608766aShelf
namespace Go.Proofs.Qxb6608766a
open Go.Shelf Go.RowKit Go.Lib Go.Sort
set_option linter.unusedSimpArgs false
set_option linter.unusedVariables false

def cmp3 (x y : Int) : Int := if x < y then -1 else if y < x then 1 else 0
set_option maxHeartbeats 400000 in
theorem cmp23_any (x y : Int) (w : World) :
    Calls Try.prog 23 #[.int .i64 x, .int .i64 y] w fun e w' => e = .returned (.int .i64 (cmp3 x y)) ∧ w' = w := by
  unfold cmp3
  have e1 : (x != x) = false := by simp
  have e2 : (y != y) = false := by simp
  by_cases h1 : x < y
  · go_enter Try.func23, Try.ntmps23
    go_wp2
    go_ret
    exact ⟨by simp [h1], rfl⟩
  · by_cases h2 : y < x
    · go_enter Try.func23, Try.ntmps23
      go_wp2
      go_ret
      exact ⟨by simp [h1, h2], rfl⟩
    · go_enter Try.func23, Try.ntmps23
      go_wp2
      go_ret
      exact ⟨by simp [h1, h2], rfl⟩

def encTr (x : Tr) : List Value := [.int .i64 x.1, .int .u8 x.2]
set_option maxHeartbeats 1000000 in
theorem closure22 (x y : Tr) (W : World) : Calls Try.prog 22 #[.agg #[.int .i64 x.1, .int .u8 x.2], .agg #[.int .i64 y.1, .int .u8 y.2]] W fun e w' => e = .returned (.int .i64 (cmp3 x.1 y.1)) ∧ ∃ q os', w' = grow (W.drewN q) os' := by
  have hcon := fun W' => cmp23_any x.1 y.1 W'
  generalize cmp3 x.1 y.1 = r at hcon ⊢
  go_enter Try.func22, Try.ntmps22
  go_wp2_with (go_at_call 23; refine (hcon _).mono ?_; rintro e w' ⟨rfl, rfl⟩)
  go_ret
  exact ⟨rfl, 0, _, by rw [alloc_eq_grow, alloc_eq_grow, grow_grow]; rfl⟩
theorem cmpLays22 (blk off size : Nat) (w : World) : CmpLays Try.prog 22 #[] encTr 2 (fun x y : Tr => cmp3 x.1 y.1) blk off size w :=
  fun _ _ _ _ x y => closure22 x y _
theorem ltTr (x y : Tr) : ltOf (fun x y : Tr => cmp3 x.1 y.1) x y = decide (x.1 < y.1) := by
  unfold ltOf cmp3
  by_cases h1 : x.1 < y.1
  · simp [h1]
  · by_cases h2 : y.1 < x.1 <;> simp [h1, h2]
theorem swoTr : SWO (ltOf fun x y : Tr => cmp3 x.1 y.1) where
  irrefl x := by rw [ltTr]; simp
  trans x y z h1 h2 := by rw [ltTr] at *; simp at *; omega
  ntrans x y z h1 h2 := by rw [ltTr] at *; simp at *; omega

theorem trs_flat : ∀ (L : List Tr) (t : Nat), t < L.length * 2 → (trs L)[t]? = some ((encTr L.toArray[t / 2]!)[t % 2]!)
  | [], t, h => by simp at h
  | x :: L, t, h => by
    match t with
    | 0 => rfl
    | 1 => rfl
    | t + 2 =>
      have := trs_flat L t (by simp at h; omega)
      rw [trs_cons, List.getElem?_cons_succ, List.getElem?_cons_succ, this]
      rw [show (t + 2) / 2 = t / 2 + 1 by omega, show (t + 2) % 2 = t % 2 by omega]
      simp

theorem grown_sort {w : World} {g off m : Nat} {os : Array Obj} (d : Array Tr) : w.grownBy (sortWorldK encTr 2 w g off m d os) (some g) := by
  refine ⟨rfl, rfl, rfl, size_sortWorldK_c encTr 2 w g off m d os, fun k hk hne => ?_⟩
  unfold sortWorldK putRowK
  rw [heap_grow_old _ _ (by simpa using hk)]
  have : g ≠ k := fun e => hne (by rw [e])
  simp [putRow, mapBlock, Sort.ahead, Array.getElem?_modify, this]

set_option maxHeartbeats 1000000 in
theorem sort_some (w W : World) (g : Nat) (L : List Tr) (v : Value) (S : Nat → Prop) (h : Ready w W g L v S) (hl : L.length ≤ 4096) (h0 : 0 < L.length) : Calls Try.prog 21 #[v, .func (.func 22) #[] #[]] W (SortPost g L v W) := by
  obtain ⟨gm, cm, rfl, hgm, hlt⟩ := h.row.form h0
  have eg : ∀ args w, (callFunc 22 args).run Try.prog w = .ok (.enter 22 args) w := enters_of Try.func22 (by kernel_rfl) rfl
  have hH : HoldsK encTr 2 W gm 0 L.toArray := fun t ht => by
    have ht' : t < L.length * 2 := by simpa using ht
    refine ⟨?_, ?_⟩
    · rw [Nat.zero_add, h.row.cellAt t ht', trs_flat L t ht', get_flatK encTr 2 L.toArray t (by simpa using ht')]
      rfl
    · rw [Nat.zero_add]; exact h.row.frozenAt t
  have hcon := AnyQ.slices_SortFunc sortTr 2 Try.isAgg46 Try.sizeOf46 encTr (fun _ => rfl) (fun x v hv => by simp [encTr] at hv; rcases hv with rfl | rfl <;> rfl) (fun x y : Tr => cmp3 x.1 y.1) swoTr 22 #[] gm 0 cm L.toArray W eg (cmpLays22 gm 0 L.toArray.size W) hH hlt (by simp; omega)
  change Calls Try.prog 21 _ _ _ at hcon
  have hnd : (L.map (·.1)).Nodup := by
    obtain ⟨vM, vT, r, T, f, hx, _⟩ := h.ix
    exact hx.inv.nd
  have hg := h.lt
  refine hcon.mono ?_
  rintro e w' ⟨rfl, d', n, os, hp, hs, rfl⟩
  have hsz : d'.size = L.length := by simpa using hp.1
  have hperm : d'.toList.Perm L := by
    have := hp.2.2
    have h2 : (List.take L.length d'.toList).Perm L := by simpa using this
    rwa [List.take_of_length_le (by simp [hsz])] at h2
  have hll : d'.toList.length = L.length := hperm.length_eq
  have hnd' : (d'.toList.map (·.1)).Nodup := (hperm.map _).nodup_iff.2 hnd
  have hk := holdsK_sortWorldK_c encTr 2 W gm 0 L.toArray d' n os hH hlt (by simpa using hp.1)
  have gr := grown_sort (w := W) (g := gm) (off := 0) (m := n) (os := os) d'
  refine ⟨d'.toList, rfl, hperm, ?_, .inr ⟨gm, cm, by rw [hll], Nat.lt_of_lt_of_le hlt gr.size, fun j u hu => ?_⟩, ?_⟩
  · rw [AscT, List.pairwise_iff_getElem]
    intro i j hi hj hij
    have h1 := hs i j (Nat.zero_le _) hij (by simpa [hll] using hj)
    rw [ltTr] at h1
    have hi' : i < d'.size := by simpa using hi
    have hj' : j < d'.size := by simpa using hj
    have e1 : d'[i]! = d'.toList[i] := by simp [hi']
    have e2 : d'[j]! = d'.toList[j] := by simp [hj']
    rw [e1, e2] at h1
    have h2 : ¬ d'.toList[j].1 < d'.toList[i].1 := of_decide_eq_false h1
    have h3 : d'.toList[i].1 ≠ d'.toList[j].1 := by
      have := (List.pairwise_iff_getElem.1 hnd') i j (by simpa using hi) (by simpa using hj) hij
      simpa using this
    omega
  · have hj : j < d'.toList.length * 2 := by
      have := (List.getElem?_eq_some_iff.1 hu).1
      have e : ∀ M : List Tr, (trs M).length = M.length * 2 := fun M => by
        induction M with
        | nil => rfl
        | cons x r ih => rw [trs_cons, List.length_cons, List.length_cons, ih, List.length_cons]; omega
      rwa [e] at this
    have h1 := (hk j (by simpa using hj)).1
    rw [Nat.zero_add, get_flatK encTr 2 d' j (by simpa using hj)] at h1
    have h2 := trs_flat d'.toList j hj
    rw [hu] at h2
    rw [h1]
    simpa using h2.symm
  · exact ⟨gr.os, gr.tape, gr.output, gr.size, fun k hk => gr.block k (by omega) (by intro e; injection e with e; omega)⟩
end Go.Proofs.Qxb6608766a
