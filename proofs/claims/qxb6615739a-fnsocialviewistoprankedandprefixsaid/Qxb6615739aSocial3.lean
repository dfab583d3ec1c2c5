import Derived.Test.Qxb6615739aSocial2
namespace Go.Proofs.Qxb6615739a
open Go.RowKit Go.Sort
set_option linter.unusedSimpArgs false
set_option linter.unusedVariables false

set_option maxHeartbeats 400000 in
theorem zzsocial_any {w : World} {g bF oF n cF : Nat} {F : Nat → Nat} {aN : Option Addr} {lN cN : Nat} {N : Nat → Int} (hG : Graph w g bF oF n cF F aN lN cN N) (hA : Adj n F N) (u : Nat) (hu : u < n) (s : Nat) (hs : (s : Int) ≤ 9223372036854775807)
    (a : Option Addr) (lA cA : Nat) (A : Nat → Bool) (hM : IsMask w a lA cA A) :
    Calls Try.prog 17 #[.pointer (some ⟨g, 0, none⟩), .int .i64 u, .int .i64 s, .slice a lA cA] w (SocialPost s ((srt (cands F N (acc A lA) u (deg F u))).take s) w) := by
  have HS : Hid (∀ W, Graph W g bF oF n cF F aN lN cN N → IsMask W a lA cA A → ∀ ab, W.cell? ⟨ab, 0, none⟩ = some (.slice a lA cA) → ab < W.heap.size → Calls Try.prog 29 #[.pointer (some ⟨g, 0, none⟩), .int .i64 u, .int .i64 s, .func (.func 30) #[] #[.pointer (some ⟨ab, 0, none⟩)]] W (SocialPost s ((srt (cands F N (acc A lA) u (deg F u))).take s) W)) :=
    fun W h1 h2 ab h3 h4 => social_any h1 hA u hu s hs ab a lA cA A h2 h3 h4
  have HG : Hid _ := hG
  have HM : Hid _ := hM
  clear hG hA hM
  generalize (srt (cands F N (acc A lA) u (deg F u))).take s = R at *
  go_enter Try.func17, Try.ntmps17
  go_wp2_with fail
  have b1 : Below w.heap.size w (w.alloc (.cells #[.slice a lA cA] 33)) := (Below.refl _ _).alloc (Nat.le_refl _) _
  refine (HS.out _ (HG.out.bel b1) (IsMask.bel HM.out b1) w.heap.size (by simp) (by simp)).mono ?_
  rintro e w' ⟨sv, v, rfl, h1, h2, h3⟩
  have H1 : Hid _ := h1
  have H2 : Hid (w.heap.size ≤ sv) := Nat.le_trans b1.size h2
  have H3 : Hid (Below w.heap.size w w') := b1.trans (h3.mono b1.size)
  clear h1 h2 h3
  go_wp2
  go_ret
  exact ⟨sv, v, rfl, H1.out, H2.out, H3.out⟩
end Go.Proofs.Qxb6615739a
