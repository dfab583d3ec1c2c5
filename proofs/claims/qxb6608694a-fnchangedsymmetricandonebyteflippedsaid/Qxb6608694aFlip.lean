import Derived.Test.Qxb6608694aCopy
namespace Go.Proofs.Qxb6608694a
open Go.RowKit
set_option linter.unusedSimpArgs false
set_option linter.unusedVariables false

set_option maxHeartbeats 1000000 in
theorem zzBytes10_any (a : Option Addr) (n c : Nat) (b : Option Addr) (m d : Nat) (x : Int) (w : World) (h : n ≤ 9223372036854775807) (h' : m ≤ 9223372036854775807) :
    Calls Try.prog 10 #[.slice a n c, .slice b m d, .int .i64 x] w (SomeBool w) := by
  by_cases k : n ≤ 1048576
  · by_cases k2 : m ≤ 1048576
    · by_cases k3 : n + m ≤ 1048576
      · go_enter Try.func10, Try.ntmps10
        go_wp2
        go_ret
        exact ⟨_, rfl, rfl⟩
      · go_enter Try.func10, Try.ntmps10
        go_wp2
        go_ret
        exact ⟨_, rfl, rfl⟩
    · go_enter Try.func10, Try.ntmps10
      go_wp2
      go_ret
      exact ⟨_, rfl, rfl⟩
  · go_enter Try.func10, Try.ntmps10
    go_wp2
    go_ret
    exact ⟨_, rfl, rfl⟩

theorem flip_val : ∀ k : Fin 256, bits .xor .u8 ((k : Nat) : Int) 255 = 255 - ((k : Nat) : Int) := by decide +kernel

theorem flip_ne {v : Int} (h0 : 0 ≤ v) (h1 : v < 256) (h : v.toNat % 256 = (255 - v).toNat % 256) : False := by
  have e1 : v.toNat % 256 = v.toNat := Nat.mod_eq_of_lt (by omega)
  have e2 : (255 - v).toNat % 256 = (255 - v).toNat := Nat.mod_eq_of_lt (by omega)
  rw [e1, e2] at h
  have e3 : (v.toNat : Int) = ((255 - v).toNat : Int) := by rw [h]
  have e4 : (v.toNat : Int) = v := Int.toNat_of_nonneg h0
  have e5 : ((255 - v).toNat : Int) = 255 - v := Int.toNat_of_nonneg (by omega)
  rw [e4, e5] at e3
  omega

/-- One byte flipped: another text. -/
theorem flip_text {n i : Nat} {z : Nat → Int} (hi : i < n) (h0 : 0 ≤ z i) (h1 : z i < 256) : (Lib.bytesOf (nums n z) == Lib.bytesOf (nums n (fun j => if j = i then 255 - z i else z j))) = false := by
  rw [beq_eq_false_iff_ne]
  intro e
  have he : (Lib.bytesOf (nums n z))[i]? = (Lib.bytesOf (nums n (fun j => if j = i then 255 - z i else z j)))[i]? := by rw [e]
  have hz : ∀ f : Nat → Int, (Lib.bytesOf (nums n f))[i]? = some (UInt8.ofNat (f i).toNat) := fun f => by
    unfold Lib.bytesOf nums
    rw [List.getElem?_map, List.getElem?_map, List.getElem?_range hi]
    rfl
  rw [hz, hz] at he
  have he2 : UInt8.ofNat (z i).toNat = UInt8.ofNat (if i = i then 255 - z i else z i).toNat := Option.some.inj he
  rw [if_pos rfl] at he2
  have hk := congrArg UInt8.toNat he2
  rw [UInt8.toNat_ofNat', UInt8.toNat_ofNat'] at hk
  have hk2 : (z i).toNat % 256 = (255 - z i).toNat % 256 := hk
  exact flip_ne h0 h1 hk2
theorem beq_swap (a b : List UInt8) : (a == b) = (b == a) := by
  rw [Bool.eq_iff_iff, beq_iff_eq, beq_iff_eq]
  exact eq_comm

set_option maxHeartbeats 4000000 in
theorem flip_walk (a : Option Addr) (n c : Nat) (z : Nat → Int) (b : Option Addr) (m d : Nat) (y : Nat → Int) (i : Int) (w : World) (h : In w a n z) (hn : n ≤ 9223372036854775807) (hz : ∀ j, j < n → 0 ≤ z j ∧ z j < 256)
    (h' : In w b m y) (hm : m ≤ 9223372036854775807) :
    Calls Try.prog 4 #[.slice a n c, .slice b m d, .int .i64 i] w (LawPost w) := by
  have H : Hid (In w a n z) := h
  have H' : Hid (In w b m y) := h'
  have HZ : Hid (∀ j, j < n → 0 ≤ z j ∧ z j < 256) := hz
  clear h h' hz
  go_enter Try.func4, Try.ntmps4
  go_wp2_with fail
  refine (zzBytes10_any a n c b m d i w hn hm).mono ?_
  rintro e w' ⟨r, rfl, rfl⟩
  cases r
  · go_wp2
    go_ret
    exact ⟨rfl, Below.refl _ _⟩
  by_cases k : n ≤ 65536
  case neg =>
    go_wp2
    go_ret
    exact ⟨rfl, Below.refl _ _⟩
  by_cases k' : m ≤ 65536
  case neg =>
    go_wp2
    go_ret
    exact ⟨rfl, Below.refl _ _⟩
  by_cases q0 : i < 0
  case pos =>
    go_wp2
    go_ret
    exact ⟨rfl, Below.refl _ _⟩
  by_cases q1 : (n : Int) ≤ i
  case pos =>
    go_wp2
    go_ret
    exact ⟨rfl, Below.refl _ _⟩
  obtain ⟨p, rfl⟩ := Int.eq_ofNat_of_zero_le (show 0 ≤ i by omega)
  have hp : p < n := by omega
  go_wp2_with fail
  refine Calls.mono (clone_any a n c z w H.out k) ?_
  rintro e w1 ⟨a1, c1, rfl, M1, B1⟩
  obtain ⟨g1, rfl, _, K1⟩ : ∃ g, a1 = some ⟨g, 0, none⟩ ∧ w.heap.size ≤ g ∧ Blk w1 g n z := by
    rcases M1 with h | h
    · omega
    · exact h
  have K1 : Hid (Blk w1 g1 n z) := K1
  have H1 : Hid (In w1 b m y) := by
    rcases H'.out with h | h | ⟨b', o', h1, h2, h3⟩
    · exact .inl h
    · exact .inr (.inl h)
    · exact .inr (.inr ⟨b', o', h1, Nat.lt_of_lt_of_le h2 B1.size, fun j hj => (B1.cell (p := ⟨b', o' + j, none⟩) h2).trans (h3 j hj)⟩)
  have B1 : Hid (Below w.heap.size w w1) := B1
  clear H H' M1
  go_wp2_with fail
  refine Calls.mono (clone_any b m d y w1 H1.out k') ?_
  rintro e w2 ⟨a2, c2, rfl, M2, B2⟩
  have M2 : Hid (Mine w2 w1.heap.size a2 m y) := M2
  have K12 : Hid (Blk w2 g1 n z) := Blk.bel K1.out B2
  have B2 : Hid (Below w.heap.size w w2) := B1.out.trans (B2.mono B1.out.size)
  clear K1 B1 H1
  go_wp2_with fail
  refine Calls.mono (clone_any (some ⟨g1, 0, none⟩) n c1 z w2 (Mine.toIn (lo := 0) (.inr ⟨_, rfl, Nat.zero_le _, K12.out⟩)) k) ?_
  rintro e w3 ⟨a3, c3, rfl, M3, B3⟩
  obtain ⟨g3, rfl, hg3, K3⟩ : ∃ g, a3 = some ⟨g, 0, none⟩ ∧ w2.heap.size ≤ g ∧ Blk w3 g n z := by
    rcases M3 with h | h
    · omega
    · exact h
  have bc := K3.2.1 p hp
  have bf := K3.2.2 p
  have hzp := HZ.out p hp
  have hx : bits .xor .u8 (z p) 255 = 255 - z p := by
    have := flip_val ⟨(z p).toNat, by omega⟩
    simp only [Int.toNat_of_nonneg hzp.1] at this
    exact this
  have BS : Hid (Below w2.heap.size w2 (w3.setCell ⟨g3, p, none⟩ (.int .u8 (255 - z p)))) := B3.setCell hg3 _
  have K4 : Hid (Blk (w3.setCell ⟨g3, p, none⟩ (.int .u8 (255 - z p))) g3 n (fun j => if j = p then 255 - z p else z j)) := K3.set p hp _
  have FT : Hid _ := flip_text (z := z) hp hzp.1 hzp.2
  clear M3 B3 K3 HZ
  go_wp2_with fail
  clear bc bf hx hzp
  generalize w3.setCell ⟨g3, p, none⟩ (.int .u8 (255 - z p)) = w4 at *
  generalize hy3 : (fun j => if j = p then 255 - z p else z j) = y3 at FT K4
  clear hy3
  have M1 : Hid (Mine w4 0 (some ⟨g1, 0, none⟩) n z) := .inr ⟨_, rfl, Nat.zero_le _, Blk.bel K12.out BS.out⟩
  have M2' : Hid (Mine w4 w1.heap.size a2 m y) := Mine.bel M2.out BS.out
  have M3 : Hid (Mine w4 0 (some ⟨g3, 0, none⟩) n y3) := .inr ⟨_, rfl, Nat.zero_le _, K4.out⟩
  have B4 : Hid (Below w.heap.size w w4) := B2.out.trans (BS.out.mono B2.out.size)
  clear K12 M2 K4 BS B2
  have h1 := changed_any (some ⟨g1, 0, none⟩) n c1 a2 m c2 z y _ _ w4 M1.out M2'.out
  obtain ⟨r, hr⟩ : ∃ r, (Lib.bytesOf (nums n z) == Lib.bytesOf (nums m y)) = r := ⟨_, rfl⟩
  rw [hr] at h1
  have HR : Hid _ := hr
  clear hr
  refine Calls.mono h1 ?_
  clear h1
  rintro e w5 ⟨rfl, B5⟩
  have M15 : Hid (Mine w5 0 (some ⟨g1, 0, none⟩) n z) := Mine.bel M1.out B5
  have M25 : Hid (Mine w5 w1.heap.size a2 m y) := Mine.bel M2'.out B5
  have M35 : Hid (Mine w5 0 (some ⟨g3, 0, none⟩) n y3) := Mine.bel M3.out B5
  have B5 : Hid (Below w.heap.size w w5) := B4.out.trans (B5.mono B4.out.size)
  clear M1 M2' M3 B4
  go_wp2_with fail
  have h1 := changed_any a2 m c2 (some ⟨g1, 0, none⟩) n c1 y z _ _ w5 M25.out M15.out
  rw [beq_swap, HR.out] at h1
  refine Calls.mono h1 ?_
  clear h1
  rintro e w6 ⟨rfl, B6⟩
  have M16 : Hid (Mine w6 0 (some ⟨g1, 0, none⟩) n z) := Mine.bel M15.out B6
  have M26 : Hid (Mine w6 w1.heap.size a2 m y) := Mine.bel M25.out B6
  have M36 : Hid (Mine w6 0 (some ⟨g3, 0, none⟩) n y3) := Mine.bel M35.out B6
  have B6 : Hid (Below w.heap.size w w6) := B5.out.trans (B6.mono B5.out.size)
  clear M15 M25 M35 B5
  have hne : ((!r) != (!r)) = false := by simp
  go_wp2_with fail
  have h1 := changed_any (some ⟨g1, 0, none⟩) n c1 (some ⟨g3, 0, none⟩) n c3 z y3 _ _ w6 M16.out M36.out
  rw [FT.out] at h1
  refine Calls.mono h1 ?_
  clear h1
  rintro e w7 ⟨rfl, B7⟩
  have M27 : Hid (Mine w7 w1.heap.size a2 m y) := Mine.bel M26.out B7
  have M37 : Hid (Mine w7 0 (some ⟨g3, 0, none⟩) n y3) := Mine.bel M36.out B7
  have B7 : Hid (Below w.heap.size w w7) := B6.out.trans (B7.mono B6.out.size)
  clear M16 M26 M36 B6 hne
  cases r
  · go_wp2
    go_ret
    exact ⟨rfl, B7.out⟩
  · go_wp2_with fail
    have h1 := changed_any a2 m c2 (some ⟨g3, 0, none⟩) n c3 y y3 _ _ w7 M27.out M37.out
    rw [← eq_of_beq HR.out, FT.out] at h1
    refine Calls.mono h1 ?_
    clear h1
    rintro e w8 ⟨rfl, B8⟩
    have B8 : Hid (Below w.heap.size w w8) := B7.out.trans (B8.mono B7.out.size)
    go_wp2
    go_ret
    exact ⟨rfl, B8.out⟩
end Go.Proofs.Qxb6608694a
