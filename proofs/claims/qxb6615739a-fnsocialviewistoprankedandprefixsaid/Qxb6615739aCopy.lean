import Derived.Test.Qxb6615739aSearch
import Derived.Laws.CopyRow
import Derived.Laws.CopyOwn
import Derived.Deep.RegionLaw
import Derived.Lib.Overlaps
import Derived.Lib.AppendZerosOnto
namespace Go.Proofs.Qxb6615739a
open Go.RowKit
set_option linter.unusedSimpArgs false
set_option linter.unusedVariables false
variable {P : Program}

/-- 'copy(d, s)' AT ELEMENTS OF k CELLS: d lies in a row that is known whole. -/
theorem run_copy_rowK (w : World) (dT sT ty elem : TypeId) (k g o dLen dCap : Nat) (a : Addr) (sLen sCap : Nat) (cur : Array Value) (t : TypeId) (cs : List Value) (n : Nat)
    (hu : P.underlying dT = some (.slice elem)) (hs : (P.info? elem).map (·.size) = some k)
    (hg : w.heap[g]? = some (.cells cur t (0, 0))) (hn : n = Nat.min sLen dLen) (hl : cs.length = n * k)
    (hsrc : ∀ j v, cs[j]? = some v → w.cell? (a.add j) = some v) (hfit : o + cs.length ≤ cur.size) (h1 : ∀ v ∈ cs, v.oneCell' = true) :
    (Builtin.copy_ #[dT, sT] ty #[.slice (some ⟨g, o, none⟩) dLen dCap, .slice (some a) sLen sCap]).run P w = .ok (goInt n) (w.setRow g (splice cur.toList o cs).toArray) := by
  have hld := run_loadCells_list (P := P) w a cs hsrc
  have hst := run_storeCells_at P g o t cs 0 cur w hg (by simpa using hfit) h1
  rw [hl] at hld
  cases hq : P.info? elem with
  | none => simp [hq] at hs
  | some i =>
    have hi : i.size = k := by simpa [hq] using hs
    simp [Builtin.copy_, run_underlying hu, Builtin.lenOf, Builtin.firstCells, sizeOf, typeInfo, hq, hi, ← hn, hld, hst, splice]

/-- .. as a step of a plain region. -/
theorem wpList_copyK {w : World} {ops : Array Oper} {rest : List Oper} {o : Oper} {a : Act} {Q : Exit → Act → World → Prop} (hgd : o.guard = none) (d s : Operand) (dT sT : TypeId)
    (ho : o.op = .call { callee := .builtin .copy, args := #[d, s], argTypes := #[dT, sT] }) (elem : TypeId) (k : Nat) (hu : P.underlying dT = some (.slice elem)) (hsz : (P.info? elem).map (·.size) = some k)
    (g off dLen dCap : Nat) (ad : Addr) (sLen sCap : Nat) (hd : a.eval d = .slice (some ⟨g, off, none⟩) dLen dCap) (hs : a.eval s = .slice (some ad) sLen sCap)
    (cur : List Value) (t : TypeId) (hg : w.heap[g]? = some (.cells cur.toArray t (0, 0))) (cs : List Value) (n : Nat) (hn : n = Nat.min sLen dLen) (hl : cs.length = n * k)
    (hsrc : ∀ j v, cs[j]? = some v → w.cell? (ad.add j) = some v) (hfit : off + cs.length ≤ cur.length) (h1 : ∀ v ∈ cs, v.oneCell' = true)
    (h : ∀ w', Hid (w'.heap[g]? = some (.cells (splice cur off cs).toArray t (0, 0))) → Hid (w.grownBy w' (some g)) → wpList P ops Q rest (a.put o.dst (goInt n)) w') : wpList P ops Q (o :: rest) a w := by
  refine wpList_plain hgd fun K hK => ?_
  have hrun := run_copy_rowK (P := P) w dT sT o.type elem k g off dLen dCap ad sLen sCap cur.toArray t cs n hu hsz hg hn hl hsrc (by simpa using hfit) h1
  unfold Oper.wp
  simp [execOp, ho, resolve, invoke, builtin, hd, hs, hrun, Result.andThen]
  exact hK _ _ (h _ (setRow_heap w g _ _ t _ hg) ⟨rfl, rfl, rfl, by simp, fun j _ hj => setRow_other w g j _ (fun e => hj (by rw [e]))⟩)

/-- .. as a step of a region that draws its order. -/
theorem step_copyK {ops : Array Oper} {o : Oper} {a : Act} {w : World} {K : Act → World → Prop} {Q : Exit → Act → World → Prop} {E : Prop} (hgd : o.guard = none) (d s : Operand) (dT sT : TypeId)
    (ho : o.op = .call { callee := .builtin .copy, args := #[d, s], argTypes := #[dT, sT] }) (elem : TypeId) (k : Nat) (hu : P.underlying dT = some (.slice elem)) (hsz : (P.info? elem).map (·.size) = some k)
    (g off dLen dCap : Nat) (ad : Addr) (sLen sCap : Nat) (hd : a.eval d = .slice (some ⟨g, off, none⟩) dLen dCap) (hs : a.eval s = .slice (some ad) sLen sCap)
    (cur : List Value) (t : TypeId) (hg : w.heap[g]? = some (.cells cur.toArray t (0, 0))) (cs : List Value) (n : Nat) (hn : n = Nat.min sLen dLen) (hl : cs.length = n * k)
    (hsrc : ∀ j v, cs[j]? = some v → w.cell? (ad.add j) = some v) (hfit : off + cs.length ≤ cur.length) (h1 : ∀ v ∈ cs, v.oneCell' = true)
    (h : ∀ w', Hid (w'.heap[g]? = some (.cells (splice cur off cs).toArray t (0, 0))) → Hid (w.grownBy w' (some g)) → K (a.put o.dst (goInt n)) w') :
    if Region.wanted o (yielded ops a.tmps) = true then Oper.wp P o a w K Q else E := by
  have hw : Region.wanted o (yielded ops a.tmps) = true := by simp [Region.wanted, hgd]
  rw [if_pos hw]
  have hrun := run_copy_rowK (P := P) w dT sT o.type elem k g off dLen dCap ad sLen sCap cur.toArray t cs n hu hsz hg hn hl hsrc (by simpa using hfit) h1
  unfold Oper.wp
  simp [execOp, ho, resolve, invoke, builtin, hd, hs, hrun, Result.andThen]
  exact h _ (setRow_heap w g _ _ t _ hg) ⟨rfl, rfl, rfl, by simp, fun j _ hj => setRow_other w g j _ (fun e => hj (by rw [e]))⟩

/-- The two copies of an insertion in place. -/
theorem splice_shift (cur xs vs : List Value) (N a m : Nat) (hx : cur.take N = xs) (hN : N + m ≤ cur.length) (ha : a ≤ N) (hv : vs.length = m) :
    (splice (splice cur (a + m) (xs.drop a)) a vs).take (N + m) = xs.take a ++ (vs ++ xs.drop a) := by
  subst hx
  simp only [splice]
  apply List.ext_getElem?
  intro j
  simp only [List.getElem?_take, List.getElem?_append, List.length_take, List.length_append, List.length_drop, List.getElem?_drop, hv]
  grind

/-- The two copies of an insertion into a new row. -/
theorem splice_grown (row xs vs : List Value) (N a m : Nat) (hxl : xs.length = N) (hr : row.take a = xs.take a) (hN : N + m ≤ row.length) (ha : a ≤ N) (hv : vs.length = m) :
    (splice (splice row a vs) (a + m) (xs.drop a)).take (N + m) = xs.take a ++ (vs ++ xs.drop a) := by
  rw [← hr]
  simp only [splice]
  apply List.ext_getElem?
  intro j
  simp only [List.getElem?_take, List.getElem?_append, List.length_take, List.length_append, List.length_drop, List.getElem?_drop, hv, hxl]
  grind

end Go.Proofs.Qxb6615739a
