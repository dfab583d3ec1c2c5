import Derived.Test.Qxb6615739aSocial3
import Derived.Maps.AppendAt
namespace Go.Proofs.Qxb6615739a
open Go.RowKit Go.Sort
set_option linter.unusedSimpArgs false
set_option linter.unusedVariables false

theorem info3 : (Try.prog.info? 3).map (fun i => (i.zero, i.size, i.bytes)) = some (some (.int .i64 0), 1, 8) := by kernel_rfl
theorem info22 : (Try.prog.info? 22).map (fun i => (i.zero, i.size, i.bytes)) = some (some (.int .u64 0), 1, 8) := by kernel_rfl

/-- Two slices that lie in no one block. -/
def Apart (u v : Value) : Prop := ∀ g, u.ownBlock = some g → v.ownBlock = some g → False
theorem Apart.symm {u v : Value} (h : Apart u v) : Apart v u := fun g h1 h2 => h g h2 h1
theorem Apart.or {u v : Value} (h : Apart u v) : u.ownBlock = none ∨ u.ownBlock ≠ v.ownBlock := by
  cases hu : u.ownBlock with
  | none => exact .inl rfl
  | some g => exact .inr fun e => h g hu e.symm
theorem Apart.next {u v v' : Value} {k : Nat} (h : Apart u v) (hb : v'.ownBlock = v.ownBlock ∨ v'.ownBlock = some k) (hu : ∀ g, u.ownBlock = some g → g < k) : Apart u v' := by
  intro g h1 h2
  rcases hb with hb | hb
  · exact h g h1 (hb ▸ h2)
  · rw [hb] at h2
    cases h2
    exact absurd (hu _ h1) (Nat.lt_irrefl _)

def ns (L : List Fr) : List Value := L.map fun x => .int .i64 x.1
def cs (L : List Fr) : List Value := L.map fun x => .int .u64 x.2.1
def ds (L : List Fr) : List Value := L.map fun x => .int .u64 x.2.2

/-- The three slices that are gathered. -/
structure Tri (base : Nat) (w wr : World) (L : List Fr) (t : Nat) (vn vc vd : Value) : Prop where
  n : wr.ownsRow base 3 1 vn t (ns (L.take t))
  c : wr.ownsRow base 22 1 vc t (cs (L.take t))
  d : wr.ownsRow base 22 1 vd t (ds (L.take t))
  nc : Apart vn vc
  nd : Apart vn vd
  cd : Apart vc vd
  bel : Below base w wr
  le : base ≤ wr.heap.size

/-- What an append on v leaves of another slice u. -/
theorem other {w w1 : World} {base e n : Nat} {u v v' : Value} {xs : List Value} (h : w.ownsRow base e 1 u n xs) (ap : Apart u v) (g : w.grownBy w1 v.ownBlock) (hb : v'.ownBlock = v.ownBlock ∨ v'.ownBlock = some w.heap.size) :
    w1.ownsRow base e 1 u n xs ∧ Apart u v' := ⟨h.kept g ap.or, ap.next hb (fun k hk => (h.lt k hk).2)⟩

/-- A block that is none of the row's is as it was. -/
theorem blk_kept {w w1 : World} {v : Value} {b : Nat} {o : Obj} (g : w.grownBy w1 v.ownBlock) (hv : ∀ k, v.ownBlock = some k → k ≠ b) (h : w.heap[b]? = some o) : w1.heap[b]? = some o :=
  (g.block b (lt_blk h) (fun e => hv b e.symm rfl)).trans h

def FriendsPost (size : Int) (L : List Fr) (w : World) (e : Ending) (w' : World) : Prop :=
  ∃ vn vc vd, e = .returned (.tuple #[.int .i64 size, vn, vc, vd]) ∧ Tri w.heap.size w w' L L.length vn vc vd

theorem take_snoc_nth (L : List Fr) (t : Nat) (h : t < L.length) : L.take (t + 1) = L.take t ++ [nth L t] := by
  rw [List.take_succ_eq_append_getElem h]
  simp [nth, h]

/-- An append on v, beside two other slices and a box. -/
theorem mid {w wb w1 : World} {base e1 e2 m1 m2 box : Nat} {u1 u2 v v' : Value} {xs1 xs2 : List Value} {o : Obj} (h1 : wb.ownsRow base e1 1 u1 m1 xs1) (h2 : wb.ownsRow base e2 1 u2 m2 xs2) (a1 : Apart u1 v) (a2 : Apart u2 v)
    (g : wb.grownBy w1 v.ownBlock) (b : v'.ownBlock = v.ownBlock ∨ v'.ownBlock = some wb.heap.size) (hbel : Below base w wb) (hle : base ≤ wb.heap.size) (hv : ∀ k, v.ownBlock = some k → base ≤ k ∧ k ≠ box) (hbox : wb.heap[box]? = some o) :
    Hid (w1.ownsRow base e1 1 u1 m1 xs1) ∧ Hid (Apart u1 v') ∧ Hid (w1.ownsRow base e2 1 u2 m2 xs2) ∧ Hid (Apart u2 v') ∧ Hid (Below base w w1) ∧ base ≤ w1.heap.size ∧ Hid (w1.heap[box]? = some o) :=
  ⟨(other h1 a1 g b).1, (other h1 a1 g b).2, (other h2 a2 g b).1, (other h2 a2 g b).2, hbel.grown g hle (fun k hk => (hv k hk).1), Nat.le_trans hle g.size, blk_kept g (fun k hk => (hv k hk).2) hbox⟩

theorem new_one {w : World} {o : Obj} {x : Value} {T : TypeId} : ∀ j u, [x][j]? = some u → ((w.alloc o).alloc (.cells #[x] T)).cell? ((⟨w.heap.size + 1, 0, none⟩ : Addr).add j) = some u := by
  have := cell_one_new (w.alloc o) x T
  have e : (w.alloc o).heap.size = w.heap.size + 1 := by simp
  rwa [e] at this

theorem one_mem (x : Value) (h : x.oneCell' = true) : ∀ u ∈ [x], u.oneCell' = true := by intro u hu; simp at hu; rw [hu]; exact h

set_option maxHeartbeats 2000000 in
set_option maxRecDepth 100000 in
theorem friends_any {w : World} {sv : Nat} {size : Int} {v : Value} {L : List Fr} (hV : View w sv size v L) (hL : L.length ≤ 4096) :
    Calls Try.prog 18 #[.pointer (some ⟨sv, 0, none⟩)] w (FriendsPost size L w) := by
  obtain ⟨i3, hi3, hz30, hz31, hz32⟩ := info_parts info3
  obtain ⟨i22, hi22, hz220, hz221, hz222⟩ := info_parts info22
  have c0 := hV.c0
  have c1 := hV.c1
  have hsv := hV.lt
  have hrow : ∃ a c, v = .slice a L.length c ∧ (0 < L.length → ∃ g, a = some ⟨g, 0, none⟩ ∧ Row w g L.length (nth L)) := by
    rcases own_form hV.own with ⟨h1, h2, _⟩ | ⟨g, cap, cur, h1, _, hg, hh, _, _, _, ht⟩
    · exact ⟨none, 0, by rw [h1, h2], fun h => by omega⟩
    · exact ⟨_, _, h1, fun _ => ⟨g, rfl, row_of_own (base := sv + 1) (cap := cap) hg hh ht⟩⟩
  obtain ⟨a, c, rfl, hR⟩ := hrow
  have HR : Hid _ := hR
  clear hV hR
  generalize hnn : L.length = n at *
  have HNN : Hid _ := hnn
  clear hnn
  go_enter Try.func18, Try.ntmps18
  go_wp2
  go_loopw [3, 4, 5, 17] (fun s3 s4 s5 s17 wr => ∃ t : Nat, s17 = .int .i64 t ∧ t ≤ n ∧ Hid (Tri w.heap.size w wr L t s3 s4 s5)) (fun _ _ _ s17 _ => ((n : Int) - intOf s17).toNat)
  case atStart => exact ⟨0, rfl, Nat.zero_le _, ⟨World.ownsRow_nil _ _ _ _, World.ownsRow_nil _ _ _ _, World.ownsRow_nil _ _ _ _, (fun g h => by cases h), (fun g h => by cases h), (fun g h => by cases h), Below.refl _ _, Nat.le_refl _⟩⟩
  case round =>
    obtain ⟨t, rfl, ht, T⟩ := hrel
    by_cases hlt : t < n
    case neg =>
      have hd : decide ((t : Int) < (n : Int)) = false := decide_eq_false (by omega)
      obtain rfl : t = n := by omega
      go_wp2
      refine bodyPost_ret (v := .tuple #[.int .i64 size, u3, u4, u5]) (by simp [results, Try.results18, go_sem]) rfl ⟨u3, u4, u5, rfl, ?_⟩
      rw [HNN.out]
      exact T.out
    obtain ⟨g, rfl, hg, hRow⟩ := HR.out (by omega)
    have r := hRow t hlt
    have hsn := take_snoc_nth L t (by rw [HNN.out]; exact hlt)
    generalize hx : nth L t = x at r hsn
    obtain ⟨xn, xc, xd⟩ := x
    obtain ⟨r0, r1, r2⟩ := r
    have q0 : wr.cell? ⟨g, t * 3, none⟩ = some (.int .i64 xn) := (T.out.bel.cell (p := ⟨g, t * 3, none⟩) hg).trans r0
    have q1 : wr.cell? ⟨g, t * 3 + 1, none⟩ = some (.int .u64 xc) := (T.out.bel.cell (p := ⟨g, t * 3 + 1, none⟩) hg).trans r1
    have q2 : wr.cell? ⟨g, t * 3 + 2, none⟩ = some (.int .u64 xd) := (T.out.bel.cell (p := ⟨g, t * 3 + 2, none⟩) hg).trans r2
    have HSN : Hid _ := hsn
    clear r0 r1 r2 hRow hsn hx
    have hle := T.out.le
    have NC : Hid (Apart u4 u3) := T.out.nc.symm
    have ND : Hid (Apart u5 u3) := T.out.nd.symm
    have CD : Hid (Apart u4 u5) := T.out.cd
    have O4 : Hid (((wr.alloc (.cells #[.int .i64 xn, .int .u64 xc, .int .u64 xd] 66)).alloc (.cells #[.int .i64 xn] 3)).ownsRow w.heap.size 22 1 u4 t (cs (L.take t))) := (T.out.c.alloc _).alloc _
    have O5 : Hid (((wr.alloc (.cells #[.int .i64 xn, .int .u64 xc, .int .u64 xd] 66)).alloc (.cells #[.int .i64 xn] 3)).ownsRow w.heap.size 22 1 u5 t (ds (L.take t))) := (T.out.d.alloc _).alloc _
    have O3 : Hid (((wr.alloc (.cells #[.int .i64 xn, .int .u64 xc, .int .u64 xd] 66)).alloc (.cells #[.int .i64 xn] 3)).ownsRow w.heap.size 3 1 u3 t (ns (L.take t))) := (T.out.n.alloc _).alloc _
    have B3 : Hid (Below w.heap.size w ((wr.alloc (.cells #[.int .i64 xn, .int .u64 xc, .int .u64 xd] 66)).alloc (.cells #[.int .i64 xn] 3))) := (T.out.bel.alloc hle _).alloc (by simp; omega) _
    have X3 : Hid (((wr.alloc (.cells #[.int .i64 xn, .int .u64 xc, .int .u64 xd] 66)).alloc (.cells #[.int .i64 xn] 3)).heap[wr.heap.size]? = some (.cells #[.int .i64 xn, .int .u64 xc, .int .u64 xd] 66 (0, 0))) := by
      show _ = _
      rw [Below.heap_alloc _ _ _ (by simp)]
      exact heap_alloc_new wr _
    have K3 : Hid (∀ k, u3.ownBlock = some k → w.heap.size ≤ k ∧ k ≠ wr.heap.size) := fun k hk => ⟨(T.out.n.lt k hk).1, by have := (T.out.n.lt k hk).2; omega⟩
    have Z3 : Hid (w.heap.size ≤ ((wr.alloc (.cells #[.int .i64 xn, .int .u64 xc, .int .u64 xd] 66)).alloc (.cells #[.int .i64 xn] 3)).heap.size) := by show _ ≤ _; simp; omega
    have K4 : Hid (∀ k, u4.ownBlock = some k → w.heap.size ≤ k ∧ k ≠ wr.heap.size) := fun k hk => ⟨(T.out.c.lt k hk).1, by have := (T.out.c.lt k hk).2; omega⟩
    have K5 : Hid (∀ k, u5.ownBlock = some k → w.heap.size ≤ k ∧ k ≠ wr.heap.size) := fun k hk => ⟨(T.out.d.lt k hk).1, by have := (T.out.d.lt k hk).2; omega⟩
    go_wp2_with (first
      | (at_builtin; refine wpList_append_own_at _ rfl (.tmp 21) (.tmp 24) 23 rfl w.heap.size 3 i3 (.int .i64 0) 1 8 Try.underlying23 hi3 hz30 hz31 hz32 rfl (by decide) u3 t (ns (L.take t)) rfl O3.out ⟨wr.heap.size + 1, 0, none⟩ 1 1 [.int .i64 xn] rfl rfl new_one (one_mem _ rfl) (by unfold maxLen; omega) (by omega) Z3.out ?_; intro v1 w1 o1 g1 _ b1; obtain ⟨m4, a4, m5, a5, bl1, z1, bx1⟩ := mid O4.out O5.out NC.out ND.out g1 b1 B3.out Z3.out K3.out X3.out; have y1 : w1.cell? ⟨wr.heap.size, 1, none⟩ = some (.int .u64 xc) := cell_blk bx1.out rfl; have o1 : Hid (w1.ownsRow w.heap.size 3 1 v1 (t + 1) (ns (L.take t) ++ [.int .i64 xn])) := o1; have l1 : wr.heap.size < w1.heap.size := lt_blk bx1.out; clear g1 b1)
      | (at_builtin; refine wpList_append_own_at _ rfl (.tmp 26) (.tmp 30) 35 rfl w.heap.size 22 i22 (.int .u64 0) 1 8 Try.underlying35 hi22 hz220 hz221 hz222 rfl (by decide) u4 t (cs (L.take t)) rfl (m4.out.alloc _) ⟨w1.heap.size, 0, none⟩ 1 1 [.int .u64 xc] rfl rfl (cell_one_new _ _ _) (one_mem _ rfl) (by unfold maxLen; omega) (by omega) (by simp; omega) ?_; intro v2 w2 o2 g2 _ b2; obtain ⟨m1', a1', m5', a5', bl2, z2, bx2⟩ := mid (o1.out.alloc _) (m5.out.alloc _) a4.out.symm CD.out.symm g2 b2 (bl1.out.alloc z1 _) (by simp; omega) K4.out ((Below.heap_alloc w1 _ _ l1).trans bx1.out); have y2 : w2.cell? ⟨wr.heap.size, 2, none⟩ = some (.int .u64 xd) := cell_blk bx2.out rfl; have o2 : Hid (w2.ownsRow w.heap.size 22 1 v2 (t + 1) (cs (L.take t) ++ [.int .u64 xc])) := o2; have l2 : wr.heap.size < w2.heap.size := lt_blk bx2.out; clear g2 b2)
      | (at_builtin; refine wpList_append_own_at _ rfl (.tmp 32) (.tmp 36) 35 rfl w.heap.size 22 i22 (.int .u64 0) 1 8 Try.underlying35 hi22 hz220 hz221 hz222 rfl (by decide) u5 t (ds (L.take t)) rfl (m5'.out.alloc _) ⟨w2.heap.size, 0, none⟩ 1 1 [.int .u64 xd] rfl rfl (cell_one_new _ _ _) (one_mem _ rfl) (by unfold maxLen; omega) (by omega) (by simp; omega) ?_; intro v3 w3 o3 g3 _ b3; obtain ⟨q1', q2', q3', q4', bl3, z3, bx3⟩ := mid (m1'.out.alloc _) (o2.out.alloc _) a5.out.symm a5'.out.symm g3 b3 (bl2.out.alloc z2 _) (by simp; omega) K5.out ((Below.heap_alloc w2 _ _ l2).trans bx2.out); have o3 : Hid (w3.ownsRow w.heap.size 22 1 v3 (t + 1) (ds (L.take t) ++ [.int .u64 xd])) := o3; clear g3 b3))
    go_roundw
    case rel =>
      refine ⟨t + 1, by go_num, by omega, ?_⟩
      have e1 : ns (L.take (t + 1)) = ns (L.take t) ++ [.int .i64 xn] := by rw [HSN.out]; simp [ns]
      have e2 : cs (L.take (t + 1)) = cs (L.take t) ++ [.int .u64 xc] := by rw [HSN.out]; simp [cs]
      have e3 : ds (L.take (t + 1)) = ds (L.take t) ++ [.int .u64 xd] := by rw [HSN.out]; simp [ds]
      exact ⟨by rw [e1]; exact q1'.out, by rw [e2]; exact q3'.out, by rw [e3]; exact o3.out, a1'.out, q2'.out, q4'.out, bl3.out, z3⟩
    case measure => simp [intOf]; omega
end Go.Proofs.Qxb6615739a
