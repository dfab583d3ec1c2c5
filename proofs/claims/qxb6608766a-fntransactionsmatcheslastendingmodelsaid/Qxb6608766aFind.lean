import Derived.Test.Qxb6608766aTx2
namespace Go.Proofs.Qxb6608766a
open Go.RowKit
set_option linter.unusedSimpArgs false
set_option linter.unusedVariables false

theorem TrC.bel {w w' : World} {v : Value} {L : List Tr} (h : TrC w v L) (g : Below w.heap.size w w') : TrC w' v L := by
  rcases h with h | ⟨b, c, h1, h2, h3⟩
  · exact .inl h
  · exact .inr ⟨b, c, h1, Nat.lt_of_lt_of_le h2 g.size, fun j u hu => (g.cell (p := ⟨b, j, none⟩) h2).trans (h3 j u hu)⟩

/-- The first entry of t: its outcome, and whether there is one. -/
def find (L : List Tr) (t : Int) : Int × Bool := match L.find? (fun x => x.1 == t) with
  | some x => (x.2, true)
  | none => (0, false)
theorem find_skip {L : List Tr} {t : Int} {k : Nat} {x o : Int} (hk : L[k]? = some (x, o)) (hne : x ≠ t) : find (L.drop k) t = find (L.drop (k + 1)) t := by
  have hl := (List.getElem?_eq_some_iff.1 hk).1
  have e : L.drop k = (x, o) :: L.drop (k + 1) := by rw [List.drop_eq_getElem_cons hl, (List.getElem?_eq_some_iff.1 hk).2]
  rw [e]
  unfold find
  rw [List.find?_cons_of_neg (by simp [hne])]
theorem find_take {L : List Tr} {t : Int} {k : Nat} {o : Int} (hk : L[k]? = some (t, o)) : find (L.drop k) t = (o, true) := by
  have hl := (List.getElem?_eq_some_iff.1 hk).1
  have e : L.drop k = (t, o) :: L.drop (k + 1) := by rw [List.drop_eq_getElem_cons hl, (List.getElem?_eq_some_iff.1 hk).2]
  rw [e]
  unfold find
  rw [List.find?_cons_of_pos (by simp)]

def FindPost (L : List Tr) (t : Int) (w : World) (e : Ending) (w' : World) : Prop := e = .returned (.tuple #[.int .u8 (find L t).1, .bool (find L t).2]) ∧ w = w'

set_option maxHeartbeats 1000000 in
/-- findTxn. -/
theorem find_any (a : Option Addr) (c : Nat) (L : List Tr) (t : Int) (w : World) (h : TrC w (.slice a L.length c) L) (hl : L.length ≤ 4096) :
    Calls Try.prog 16 #[.slice a L.length c, .int .i64 t] w (FindPost L t w) := by
  have H : Hid (TrC w (.slice a L.length c) L) := h
  clear h
  obtain ⟨n, en⟩ : ∃ n, L.length = n := ⟨_, rfl⟩
  have EN : Hid (L.length = n) := en
  rw [en] at H hl ⊢
  clear en
  go_enter Try.func16, Try.ntmps16
  go_wp2
  go_loop [6] (fun s => ∃ k : Nat, s = .int .i64 (k : Int) ∧ k ≤ n ∧ Hid (find (L.drop k) t = find L t)) (fun s => ((n : Int) - intOf s).toNat)
  case atStart => exact ⟨0, rfl, Nat.zero_le _, by rw [List.drop_zero]; rfl⟩
  case round =>
    obtain ⟨k, rfl, hk, HF⟩ := hrel
    by_cases hlt : k < n
    · have hkl : k < L.length := by rw [EN.out]; exact hlt
      obtain ⟨b, hab, hcell⟩ : ∃ b, a = some ⟨b, 0, none⟩ ∧ ∀ j u, (trs L)[j]? = some u → w.cell? ⟨b, j, none⟩ = some u := by
        rcases H.out with h | ⟨b, c', h1, _, h3⟩
        · omega
        · injection h1 with h1 _ _
          exact ⟨b, h1, h3⟩
      subst hab
      generalize hx : L[k] = x
      obtain ⟨xt, xo⟩ := x
      have hg : L[k]? = some (xt, xo) := by rw [List.getElem?_eq_getElem hkl, hx]
      have c0 := hcell _ _ (trs_at hg).1
      have c1 := hcell _ _ (trs_at hg).2
      have HG : Hid _ := hg
      clear hcell hg hx hkl
      by_cases e : xt = t
      · subst e
        have z : (xt == xt) = true := by simp
        have FT : Hid _ := (find_take HG.out).symm.trans HF.out
        go_wp2
        refine bodyPost_ret (v := .tuple #[.int .u8 xo, .bool true]) (by simp [results, Try.results16, go_sem]) rfl ⟨?_, rfl⟩
        rw [← FT.out]
      · have z : (xt == t) = false := by simp [e]
        have FS : Hid _ := (find_skip HG.out e).symm.trans HF.out
        clear e
        go_wp2
        go_round
        case rel => exact ⟨k + 1, by go_num, by omega, FS.out⟩
        case measure => simp [intOf]; omega
    · obtain rfl : n = k := by omega
      have hd : decide ((n : Int) < (n : Int)) = false := decide_eq_false (by omega)
      have FE : Hid (find L t = (0, false)) := by
        have := HF.out
        rw [List.drop_eq_nil_of_le (by rw [EN.out]; exact Nat.le_refl _)] at this
        exact this.symm
      go_wp2
      refine bodyPost_ret (v := .tuple #[.int .u8 0, .bool false]) (by simp [results, Try.results16, go_sem]) rfl ⟨?_, rfl⟩
      rw [FE.out]
end Go.Proofs.Qxb6608766a
