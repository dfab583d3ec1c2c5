import Derived.Test.Qxb6608766aRows
import Derived.WalkKit
import Derived.WalkSpells
import Derived.WalkLawsBesides
import Derived.Below
import Derived.BigQuiet
import Derived.RegionTactic
import Derived.Deep.QuietTactic
import Derived.Deep.LoopGhost
import Derived.Deep.OwnRows
import Derived.Deep.RegionLaw
import Derived.Deep.AppendLies
import Derived.Laws.Rows
import Derived.Lib.AppendZerosOnto
import Derived.Maps.AppendAt
import Derived.Maps.OwnSet
import Derived.Maps.Keyed
namespace Go.Proofs.Qxb6608766a
open Go.RowKit
set_option linter.unusedSimpArgs false
set_option linter.unusedVariables false

theorem info3 : (Try.prog.info? 3).map (fun i => (i.zero, i.size, i.bytes)) = some (some (.int .i64 0), 1, 8) := by kernel_rfl
theorem info21 : (Try.prog.info? 21).map (fun i => (i.zero, i.size, i.bytes)) = some (some (.int .i32 0), 1, 4) := by kernel_rfl

theorem cell_blk {w : World} {b j : Nat} {cs : Array Value} {T : TypeId} {fz : Nat × Nat} {u : Value} (h : w.heap[b]? = some (.cells cs T fz)) (hu : cs[j]? = some u) : w.cell? ⟨b, j, none⟩ = some u := by
  simp [World.cell?, h, hu]
theorem frozen_blk {w : World} {b o : Nat} {cs : Array Value} {T : TypeId} (h : w.heap[b]? = some (.cells cs T (0, 0))) : w.frozen? ⟨b, o, none⟩ = false := by simp [World.frozen?, h]
theorem lt_blk {w : World} {b : Nat} {o : Obj} (h : w.heap[b]? = some o) : b < w.heap.size := (Array.getElem?_eq_some_iff.1 h).1

/-! append of k zeros onto a slice of int32 that the law owns -/
theorem zeroCells_one (u : Value) (hu : u.cells = #[u]) (k : Nat) : (Builtin.zeroCells u.cells k).toList = List.replicate k u := by
  rw [hu]
  unfold Builtin.zeroCells
  apply List.ext_getElem?
  intro j
  by_cases h : j < k
  · simp [h, Nat.mod_one]
  · simp [h]

theorem zeros_own (w : World) (base ty : Nat) (v : Value) (n k : Nat) (xs : List Value) (hown : w.ownsRow base 21 1 v n xs) (hk : 0 < k) (hn : n + k ≤ 1073741824) (hbase : base ≤ w.heap.size) :
    ∃ v' w', (Builtin.append_ #[56, 3] ty #[v, .int .i64 (k : Int)]).run Try.prog w = .ok v' w' ∧ w'.ownsRow base 21 1 v' (n + k) (xs ++ List.replicate k (.int .i32 0)) ∧ w.grownBy w' v.ownBlock ∧ (v'.ownBlock = v.ownBlock ∨ v'.ownBlock = some w.heap.size) := by
  obtain ⟨i, hi, hz, hs, hb⟩ := info_parts info21
  have zc := zeroCells_one (.int .i32 0) rfl
  have hlen : (xs ++ List.replicate k (Value.int .i32 0)).length = (n + k) * 1 := by rw [List.length_append, hown.1, List.length_replicate]; omega
  have grown : ∀ old : Nat, old < n + k → ∀ row : Option Nat,
      (w.drew.alloc (.cells (xs.toArray ++ Builtin.zeroCells (Value.int .i32 0).cells k ++ Builtin.zeroCells (Value.int .i32 0).cells (grownCap w (n + k) old 21 - (n + k))) 21)).ownsRow base 21 1 (.slice (some ⟨w.heap.size, 0, none⟩) (n + k) (grownCap w (n + k) old 21)) (n + k) (xs ++ List.replicate k (.int .i32 0)) ∧
      w.grownBy (w.drew.alloc (.cells (xs.toArray ++ Builtin.zeroCells (Value.int .i32 0).cells k ++ Builtin.zeroCells (Value.int .i32 0).cells (grownCap w (n + k) old 21 - (n + k))) 21)) row := by
    intro old ho row
    have hge := grownCap_ge w (n + k) old 21
    have hcm : grownCap w (n + k) old 21 ≤ maxLen := grownCap_le_maxLen w (n + k) old 21 (by unfold maxLen; omega)
    refine ⟨⟨hlen, .inr ⟨w.heap.size, _, _, rfl, hbase, heap_alloc_new w.drew _, hge, hcm, ?_, ?_⟩⟩, ⟨rfl, rfl, rfl, by simp, fun j hj _ => heap_alloc_old w.drew _ hj⟩⟩
    · rw [Array.size_append, Array.size_append, size_zeroCells, size_zeroCells, List.size_toArray, hown.1]
      simp [Value.cells]
      omega
    · rw [Array.toList_append, Array.toList_append, zc k, ← hlen]
      exact List.take_left
  rcases hown.2 with ⟨rfl, rfl⟩ | ⟨g, cap, cur, rfl, hbg, hg, hnc, hcm, hcs, htake⟩
  · have hx : xs = [] := List.eq_nil_of_length_eq_zero (by simpa using hown.1)
    subst hx
    have hr := Lib.run_append_nil_zeros (P := Try.prog) w 56 3 ty 21 i (.int .i32 0) .i64 .i64 Try.underlying56 Try.underlying3 hi hz k hk (by omega) (by omega) (by rw [hb]; omega)
    have hgr := grown 0 (by omega) (Value.ownBlock (.slice none 0 0))
    simp only [Nat.zero_add, List.nil_append, Array.empty_append] at hgr ⊢
    exact ⟨_, _, hr, hgr.1, hgr.2, Or.inr rfl⟩
  · by_cases hroom : n + k ≤ cap
    · have hst := run_storeCells_at Try.prog g n 21 (List.replicate k (.int .i32 0)) 0 cur w hg (by simp; omega) (fun u hu => by rw [List.mem_replicate.1 hu |>.2]; rfl)
      have hw : IntKind.i64.wrap (k : Int) = k := by rw [IntKind.wrap_i64]; omega
      have hneg : ¬ ((k : Int) < 0) := by omega
      have h48i : ¬ (281474976710656 < (k : Int) * (i.bytes : Int)) := by rw [hb]; omega
      have hns : ¬ (k * i.size = 0) := by rw [hs]; omega
      have hk0 : ¬ (k = 0) := by omega
      have hzl : (Builtin.zeroCells (Value.int .i32 0).cells k).toList = List.replicate k (.int .i32 0) := zc k
      simp only [Nat.add_zero, List.length_replicate] at hst
      refine ⟨.slice (some ⟨g, 0, none⟩) (n + k) cap, w.setRow g (cur.toList.take n ++ List.replicate k (Value.int .i32 0) ++ cur.toList.drop (n + k)).toArray, ?_, ?_, ?_, Or.inl rfl⟩
      · simp [Builtin.append_, run_underlying Try.underlying56, run_underlying Try.underlying3, sizeOf, typeInfo, zeroValue, hi, hz, asInt, asIntOf, hw, hneg, hns, hk0, h48i, hroom, hs, Addr.add_lit, hzl, hst]
      · refine ⟨hlen, .inr ⟨g, cap, _, rfl, hbg, setRow_heap w g cur _ 21 _ hg, hroom, hcm, ?_, ?_⟩⟩
        · simp
          omega
        · have : cur.toList.take n = xs := by simpa using htake
          rw [this, ← hlen]
          exact List.take_left
      · exact ⟨rfl, rfl, rfl, by simp, fun j _ hj => setRow_other w g j _ (fun e => hj (by simp [Value.ownBlock, e]))⟩
    · have hold := run_firstCells_some (P := Try.prog) w.drew i.size n ⟨g, 0, none⟩ n cap xs (by rw [hs]; exact hown.1) (hown.cells (g := g) rfl)
      have hr := Lib.run_append_grow_zeros (P := Try.prog) w 56 3 ty 21 i (.int .i32 0) .i64 .i64 Try.underlying56 Try.underlying3 hi hz (some ⟨g, 0, none⟩) n cap xs hold k hk (by omega) (by omega) (by omega) (by rw [hb]; omega) (growslice_fits (by omega) (by rw [hb]; omega))
      have hgr := grown cap (by omega) (Value.ownBlock (.slice (some ⟨g, 0, none⟩) n cap))
      exact ⟨_, _, hr, hgr.1, hgr.2, Or.inr rfl⟩

/-- An append whose run is known, at a step of a region that draws. -/
theorem step_append_run {P : Program} {ops : Array Oper} {o : Oper} {a : Act} {w : World} {K : Act → World → Prop} {Q : Exit → Act → World → Prop} {E : Prop} (hgd : o.guard = none) (s x : Operand) (t tn : TypeId)
    (ho : o.op = .call { callee := .builtin .append, args := #[s, x], argTypes := #[t, tn] }) (vs vx : Value) (hs : a.eval s = vs) (hx : a.eval x = vx)
    (v' : Value) (w' : World) (hr : (Builtin.append_ #[t, tn] o.type #[vs, vx]).run P w = .ok v' w') (h : K (a.put o.dst v') w') :
    if Region.wanted o (yielded ops a.tmps) = true then Oper.wp P o a w K Q else E := by
  have hw : Region.wanted o (yielded ops a.tmps) = true := by simp [Region.wanted, hgd]
  rw [if_pos hw]
  exact Lib.wp_append_run w s x t tn ho vs vx hs hx v' w' hr h

/-! The map, by what it says of each number -/
theorem key3 : Maps.Keyed Try.prog 3 := Maps.int_keyed Try.underlying3
def OwnM (w : World) (b n : Nat) (f : Int → Option Int) : Prop :=
  ∃ D : DataW Unit, w.ownsMap Try.prog 3 (plainElem Try.prog 21) b n D ∧ ∀ t, (Lit.int .i64 t).wf = true → Maps.has D (.int .i64 t) = (f t).isSome ∧ D.atKey (.int .i64 t) (.lit (.int .i32 0)) = .lit (.int .i32 ((f t).getD 0))
theorem zero21 (w : World) : (zeroValue 21).run Try.prog w = .ok (.int .i32 0) w := by
  obtain ⟨i, hi, hz, hs, hb⟩ := info_parts info21
  simp [zeroValue, typeInfo, hi, hz]
theorem OwnM.made (w : World) : OwnM (w.alloc (.map #[] 0)) w.heap.size 0 (fun _ => none) :=
  ⟨.map [], World.ownsMap_made w Try.prog 3 _, fun t _ => ⟨rfl, rfl⟩⟩
theorem OwnM.lt {w : World} {b n : Nat} {f : Int → Option Int} (h : OwnM w b n f) : b < w.heap.size := by
  obtain ⟨D, hD, _⟩ := h
  exact hD.lt
theorem OwnM.kept {w w' : World} {b n : Nat} {f : Int → Option Int} {row : Option Nat} (h : OwnM w b n f) (g : w.grownBy w' row) (hne : some b ≠ row) : OwnM w' b n f := by
  obtain ⟨D, hD, hf⟩ := h
  exact ⟨D, hD.kept g hne, hf⟩
theorem OwnM.look {w : World} {b n : Nat} {f : Int → Option Int} (h : OwnM w b n f) {t : Int} (ht : (Lit.int .i64 t).wf = true) :
    (Instr.lookup 57 (.map (some b)) (.int .i64 t) true).run Try.prog w = .ok (.tuple #[.int .i32 ((f t).getD 0), .bool (f t).isSome]) w := by
  obtain ⟨D, hD, hf⟩ := h
  obtain ⟨v, ps, hrun, hv⟩ := hD.look_ok key3 Try.underlying57 (zero21 w) (plainElem_int Try.underlying21 (by decide)) (Maps.keyOf_int_mk Try.underlying3 ht)
  obtain ⟨c, rfl, hc, hwc⟩ := plainElem_int_inv Try.underlying21 hv
  have h1 := (hf t ht).1
  have h2 := (hf t ht).2
  have h3 : D.atKey (.int .i64 t) (.lit (.int .i32 0)) = .lit (.int .i32 c) := congrArg Prod.fst hc
  rw [h2] at h3
  injection h3 with h3
  injection h3 with _ h3
  rw [hrun, h1, h3]
theorem look_none {t : Int} (ht : (Lit.int .i64 t).wf = true) (w : World) :
    (Instr.lookup 57 (.map none) (.int .i64 t) true).run Try.prog w = .ok (.tuple #[.int .i32 0, .bool false]) w := by
  have := Maps.look_nil (w := w) (P := Try.prog) true key3 Try.underlying57 (zero21 w) (Maps.keyOf_int_mk Try.underlying3 ht)
  exact this
theorem OwnM.put {w : World} {b n : Nat} {f : Int → Option Int} (h : OwnM w b n f) {t v : Int} (ht : (Lit.int .i64 t).wf = true) (hv : (Lit.int .i32 v).wf = true) (hn : n < maxLen) :
    ∃ w', (Instr.mapUpdate 57 (.map (some b)) (.int .i64 t) (.int .i32 v)).run Try.prog w = .ok () w' ∧ OwnM w' b (n + 1) (fun k => if k = t then some v else f k) ∧ w.grownBy w' (some b) := by
  obtain ⟨D, hD, hf⟩ := h
  obtain ⟨w', hrun, r1, r2⟩ := hD.update key3 Try.underlying57 hn (Maps.keyOf_int_mk Try.underlying3 ht) (plainElem_int Try.underlying21 hv)
  refine ⟨w', hrun, ⟨_, r1, fun k hk => ?_⟩, r2⟩
  have hm : Maps.IsMap D := hD.isMap
  by_cases e : k = t
  · subst e
    refine ⟨?_, ?_⟩
    · rw [Maps.has_put_same hm (by trivial)]; simp
    · rw [Maps.atKey_put_same hm (by trivial)]; simp
  · have hne : Lit.int .i64 k ≠ Lit.int .i64 t := fun h => by injection h with _ h; exact e h
    have := hf k hk
    refine ⟨?_, ?_⟩
    · rw [Maps.has_put_other hne, this.1]; simp [e]
    · rw [Maps.atKey_put_other hne, this.2]; simp [e]
end Go.Proofs.Qxb6608766a
