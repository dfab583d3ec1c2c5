import Derived.Test.Qxb6615739aSocial
namespace Go.Proofs.Qxb6615739a
open Go.RowKit Go.Sort
set_option linter.unusedSimpArgs false
set_option linter.unusedVariables false

def SocialPost (s : Nat) (R : List Fr) (w : World) (e : Ending) (w' : World) : Prop :=
  ∃ sv v, e = .returned (.pointer (some ⟨sv, 0, none⟩)) ∧ View w' sv (s : Int) v R ∧ w.heap.size ≤ sv ∧ Below w.heap.size w w'

theorem view_new (w : World) (s : Nat) : View (w.alloc (.cells #[.int .i64 (s : Int), .slice none 0 0] 62)) w.heap.size (s : Int) (.slice none 0 0) [] :=
  ⟨heap_alloc_new w _, World.ownsRow_nil _ _ _ _⟩

set_option maxHeartbeats 400000 in
theorem newView_any (s : Int) (w : World) :
    Calls Try.prog 35 #[.int .i64 s] w fun e w' => e = .returned (.pointer (some ⟨w.heap.size, 0, none⟩)) ∧ w' = w.alloc (.cells #[.int .i64 s, .slice none 0 0] 62) := by
  go_enter Try.func35, Try.ntmps35
  go_wp2
  go_ret
  exact ⟨rfl, rfl⟩

set_option maxHeartbeats 1000000 in
set_option maxRecDepth 100000 in
theorem social_any {w : World} {g bF oF n cF : Nat} {F : Nat → Nat} {aN : Option Addr} {lN cN : Nat} {N : Nat → Int} (hG : Graph w g bF oF n cF F aN lN cN N) (hA : Adj n F N) (u : Nat) (hu : u < n) (s : Nat) (hs : (s : Int) ≤ 9223372036854775807)
    (ab : Nat) (a : Option Addr) (lA cA : Nat) (A : Nat → Bool) (hM : IsMask w a lA cA A) (hab : w.cell? ⟨ab, 0, none⟩ = some (.slice a lA cA)) (habl : ab < w.heap.size) :
    Calls Try.prog 29 #[.pointer (some ⟨g, 0, none⟩), .int .i64 u, .int .i64 s, .func (.func 30) #[] #[.pointer (some ⟨ab, 0, none⟩)]] w (SocialPost s ((srt (cands F N (acc A lA) u (deg F u))).take s) w) := by
  have HG : Hid _ := hG
  have HA : Hid _ := hA
  have HM : Hid _ := hM
  have HAB : Hid _ := hab
  obtain ⟨bN, oN, hadr, hcel⟩ := hG.row
  have HR : Hid _ := hadr
  have HC : Hid _ := hcel
  have u1 := hG.up u hu
  have u2 := hG.top (u + 1) (by omega)
  have hl := hG.hl
  clear hG hA hM hab hadr hcel
  go_enter Try.func29, Try.ntmps29
  go_wp2_with fail
  refine (newView_any _ _).mono ?_
  rintro e w1 ⟨rfl, hw1⟩
  have V1 : Hid (View w1 w.heap.size (s : Int) (.slice none 0 0) []) := by rw [hw1]; exact view_new w s
  have B1 : Hid (Below w.heap.size w w1) := by rw [hw1]; exact (Below.refl _ _).alloc (Nat.le_refl _) _
  clear hw1
  go_wp2_with fail
  refine (neighbours_any (HG.out.bel B1.out) u hu _ rfl).mono ?_
  rintro e w2 ⟨D, rfl, ⟨m2, rfl⟩, hD⟩
  have ID : Hid (F u < F (u + 1) → D = some ⟨bN, oN + F u, none⟩ ∧ bN < w.heap.size) := fun h => by
    obtain ⟨b, o, e1, e2⟩ := hD h
    have := HR.out (by omega)
    rw [this.1] at e1
    cases e1
    exact ⟨e2, this.2⟩
  clear hD
  go_wp2
  go_loopw [18] (fun s18 wr => ∃ (t : Nat) (v : Value), s18 = .int .i64 t ∧ t ≤ F (u + 1) - F u ∧ Hid (View wr w.heap.size (s : Int) v ((srt (cands F N (acc A lA) u t)).take s)) ∧ Hid (Below w.heap.size w wr)) (fun s18 _ => (((F (u + 1) - F u : Nat) : Int) - intOf s18).toNat)
  case atStart =>
    exact ⟨0, _, rfl, Nat.zero_le _, (show View _ _ _ _ _ by have := V1.out.gr ((Gr.refl w1).drewN m2); simpa [cands, srt] using this), (B1.out.trans (((Gr.refl w1).drewN m2).bel.mono B1.out.size))⟩
  case round =>
    obtain ⟨t, v, rfl, ht, VR, BR⟩ := hrel
    by_cases hlt : t < F (u + 1) - F u
    case neg =>
      have hd : decide ((t : Int) < ((F (u + 1) - F u : Nat) : Int)) = false := decide_eq_false (by omega)
      obtain rfl : t = F (u + 1) - F u := by omega
      go_wp2
      go_ret
      exact ⟨_, v, rfl, VR.out, Nat.le_refl _, BR.out⟩
    obtain ⟨rfl, hbN⟩ := ID.out (by omega)
    have hc := HC.out (F u + t) (by omega)
    have hcr : wr.cell? ⟨bN, oN + F u + t, none⟩ = some (.int .i64 (N (F u + t))) := by
      rw [BR.out.cell (p := ⟨bN, oN + F u + t, none⟩) hbN, Nat.add_assoc]; exact hc
    clear hc
    have MR : Hid (IsMask wr a lA cA A) := IsMask.bel HM.out BR.out
    have cab : Hid (wr.cell? ⟨ab, 0, none⟩ = some (.slice a lA cA)) := (BR.out.cell (p := ⟨ab, 0, none⟩) habl).trans HAB.out
    have hAu := HA.out u hu
    have hnode := hAu.2 t hlt
    obtain ⟨xv, hxv⟩ := Int.eq_ofNat_of_zero_le hnode.1
    obtain ⟨xc, xd, hxc, hxd, hfr⟩ : ∃ xc xd, xc = com F N u (N (F u + t)).toNat ∧ xd = (if xc = 0 then 1 else deg F u * deg F (N (F u + t)).toNat) ∧ fr F N u t = (N (F u + t), xc, xd) := ⟨_, _, rfl, rfl, rfl⟩
    have hupS := cands_up HA.out (acc A lA) hu ht
    have hsuc := cands_succ F N (acc A lA) u t
    have htv : (N (F u + t)).toNat = xv := by rw [hxv]; rfl
    rw [htv] at hxc hxd
    have hvn : xv < n := by have := hnode.2; rw [hxv] at this; omega
    have hpx : Pos (N (F u + t), xc, xd) := by rw [← hfr]; exact fr_pos _ _ _ _
    have hdu : deg F u ≤ 4096 := by unfold deg; omega
    have hdv : deg F xv ≤ 4096 := by
      have h1 := HG.out.top (xv + 1) (by omega)
      unfold deg; omega
    have okx : Fr.ok (N (F u + t), xc, xd) := by rw [← hfr]; exact fr_ok hdu (by rw [htv]; exact hdv)
    have okL : ∀ j, j < ((srt (cands F N (acc A lA) u t)).take s).length → Fr.ok (nth ((srt (cands F N (acc A lA) u t)).take s) j) := fun j hj => by
      have hm := nth_mem hj
      obtain ⟨p, hp, e, _⟩ := cands_mem (mem_srt.1 (List.mem_of_mem_take hm))
      rw [e]
      refine fr_ok hdu ?_
      have h1 := hAu.2 p (by unfold deg; omega)
      have h2 := HG.out.top ((N (F u + p)).toNat + 1) (by omega)
      unfold deg; omega
    have hlL : ((srt (cands F N (acc A lA) u t)).take s).length ≤ 4096 := by
      rw [List.length_take, srt_length]
      have := cands_length F N (acc A lA) u t
      omega
    have hup1 : acc A lA (N (F u + t)) = true → ∀ y ∈ srt (cands F N (acc A lA) u t), y.1 < N (F u + t) := fun hq y hy => by
      obtain ⟨p, hp, e, _⟩ := cands_mem (mem_srt.1 hy)
      rw [e]
      exact hAu.1 p t hp hlt
    have REL : Hid (acc A lA (N (F u + t)) = true → OfferRel (s : Int) ((srt (cands F N (acc A lA) u t)).take s) (N (F u + t), xc, xd) ((srt (cands F N (acc A lA) u (t + 1))).take s)) := fun hq => by
      rw [hsuc, hq, if_pos rfl, srt_snoc, hfr]
      exact offer_plain s (srt_sorted hupS) (fun y hy => hupS.2 y (mem_srt.1 hy)) hpx (hup1 hq)
    have NOREL : Hid (acc A lA (N (F u + t)) = false → cands F N (acc A lA) u (t + 1) = cands F N (acc A lA) u t) := fun hq => by
      rw [hsuc, hq]; simp
    have FRI : Hid (∀ W, Graph W g bF oF n cF F aN lN cN N → Calls Try.prog 38 #[.pointer (some ⟨g, 0, none⟩), .int .i64 u, .int .i64 (N (F u + t))] W fun e w' => e = .returned (.agg #[.int .u64 xc, .int .u64 xd]) ∧ Gr W w') := fun W hW => by
      exact friendship_any hW u xv hu hvn _ _ rfl hxv hAu.1 (HA.out xv hvn).1 xc xd hxc hxd
    have OKX : Hid _ := okx
    have OKL : Hid _ := okL
    have HLL : Hid _ := hlL
    have hiN : (t : Int) < ((F (u + 1) - F u : Nat) : Int) := by omega
    clear hAu hnode hxv hxc hxd hfr hupS hsuc htv hpx hdu hdv okx okL hlL hup1
    generalize hq : acc A lA (N (F u + t)) = q at REL NOREL
    have CLO : Hid (∀ W, IsMask W a lA cA A → W.cell? ⟨ab, 0, none⟩ = some (.slice a lA cA) → Calls Try.prog 30 #[.int .i64 (N (F u + t)), .pointer (some ⟨ab, 0, none⟩)] W fun e w' => e = .returned (.bool q) ∧ w' = W) := fun W h1 h2 => by
      rw [← hq]; exact closure_any ab a lA cA A _ W h1 h2
    clear hq
    go_wp2_with fail
    refine (CLO.out _ MR.out cab.out).mono ?_
    rintro e w' ⟨rfl, rfl⟩
    cases q
    · have NR : Hid _ := NOREL.out rfl
      clear NOREL REL
      go_wp2
      go_roundw
      case rel => exact ⟨t + 1, v, by go_num, by omega, (by show View _ _ _ _ _; rw [NR.out]; exact VR.out), BR.out⟩
      case measure => simp [intOf]; omega
    · have RL : Hid _ := REL.out rfl
      clear NOREL REL
      go_wp2_with fail
      refine (FRI.out _ (HG.out.bel BR.out)).mono ?_
      rintro e w3 ⟨rfl, G3⟩
      have V3 : Hid (View w3 w.heap.size (s : Int) v ((srt (cands F N (acc A lA) u t)).take s)) := VR.out.gr G3
      have B3 : Hid (Below w.heap.size w w3) := BR.out.trans (G3.bel.mono (Nat.le_of_lt VR.out.lt))
      clear G3
      go_wp2_with fail
      refine (offer_any w.heap.size (s : Int) v _ _ (N (F u + t), xc, xd) _ V3.out HLL.out OKL.out OKX.out RL.out).mono ?_
      rintro e w4 ⟨rfl, ⟨v4, V4⟩, B4⟩
      have V4 : Hid _ := V4
      have B4 : Hid (Below w.heap.size w w4) := B3.out.trans B4
      go_wp2
      go_roundw
      case rel => exact ⟨t + 1, v4, by go_num, by omega, V4, B4⟩
      case measure => simp [intOf]; omega
end Go.Proofs.Qxb6615739a
