/- zzlaws_root_b1.FnBase64TextMatchesLineModel: the walk. -/
import Derived.Test.Qxb6603002aDoorText
namespace Go.Proofs.Qxb6603002aDoor
open Go Go.RowKit Go.Shelf

theorem clone2 (p : Option Addr) (n c : Nat) (l : List UInt8) (w : World) (hat : At w p n l) (hnil : p = none → n = 0 ∧ c = 0) (hn : n ≤ 1048576) :
    Calls Tryd.prog 7 #[.slice p n c] w fun e w' => ∃ p', e = .returned (.slice p' n n) ∧ Own w' p' n n l ∧ w.grownBy w' none := by
  cases p with
  | none =>
    obtain ⟨rfl, rfl⟩ := hnil rfl
    have := hat.none_len
    subst this
    refine (clone_nil w).mono ?_
    rintro e w' ⟨rfl, rfl⟩
    exact ⟨_, rfl, Own.nil _, World.grownBy.refl _ _⟩
  | some a =>
    refine (clone_some a n c l w hat hn).mono ?_
    rintro e w' ⟨rfl, ho, hg⟩
    exact ⟨_, rfl, ho, hg⟩
theorem off_none_of_own {w w' : World} {p : Option Addr} {n c : Nat} {l : List UInt8} (h : Own w p n c l) (hs : w.heap.size ≤ w'.heap.size) : Off none w'.heap.size p := by
  intro ad e
  have := h.lt ad e
  exact ⟨by simp, by omega⟩
theorem At.grown0 {w w' : World} {p : Option Addr} {n : Nat} {l : List UInt8} (h : At w p n l) (hg : w.grownBy w' none) : At w' p n l := h.grown hg (by intro _ _ h; cases h)
theorem Own.grown0 {w w' : World} {p : Option Addr} {n c : Nat} {l : List UInt8} (h : Own w p n c l) (hg : w.grownBy w' none) : Own w' p n c l := h.grown hg (by intro _ _ h; cases h)

theorem tokS_len (t : List UInt8) (i : Nat) (k : Tok) (s : St) : (tokS t i k s).out.length ≤ s.out.length + 1 := by
  unfold tokS
  split
  · simp [cutS]
  · split
    · unfold freeS
      split
      · simp; omega
      · split <;> simp
    · omega
theorem scan_len (t m : List UInt8) (br : Int) : ∀ (f i : Nat) (s : St), (scan t m br f i s).length ≤ s.out.length + f
  | 0, _, s => by simp [scan]
  | f + 1, i, s => by
    unfold scan
    split
    · have h1 := scan_len t m br f (step t m br i).nx (tokS t i (step t m br i) s)
      have h2 := tokS_len t i (step t m br i) s
      omega
    · omega

theorem text8_calls (p0 p1 : Option Addr) (n c0 m c1 : Nat) (t mk : List UInt8) (br : Int) (w : World) (h0 : At w p0 n t) (h1 : At w p1 m mk) (hnc : n ≤ c0) (hcb : c0 ≤ 9223372036854775807) (hnm : n + m ≤ 1048576)
    (o0 : Off none w.heap.size p0) (o1 : Off none w.heap.size p1) (hbr : -9223372036854775808 ≤ br) (hbr' : br ≤ 9223372036854775807) :
    Calls Tryd.prog 8 #[.slice p0 n c0, .slice p1 m c1, .int .i64 br] w fun e w' => ∃ p n' cap, e = .returned (.slice p n' cap) ∧ Acc w none w' p n' cap (model t mk br) := by
  have ht := text_calls p0 p1 n c0 m c1 t mk br w h0 h1 hnc hcb hnm o0 o1 hbr hbr'
  rw [scan_eq_model] at ht
  go_enter Tryd.func8, Tryd.ntmps8
  go_wp2_with (go_at_call 14; refine ht.mono ?_; rintro e w1 ⟨p, n', cap, rfl, ac⟩)
  go_ret
  exact ⟨_, _, _, rfl, ac⟩

set_option maxHeartbeats 2000000 in
theorem law_walk (p0 p1 : Option Addr) (n0 c0 n1 c1 : Nat) (br : Int) (t mk : List UInt8) (w : World) (h0 : At w p0 n0 t) (h1 : At w p1 n1 mk)
    (z0 : p0 = none → n0 = 0 ∧ c0 = 0) (z1 : p1 = none → n1 = 0 ∧ c1 = 0) (b0 : n0 ≤ 9223372036854775807) (b1 : n1 ≤ 9223372036854775807) (hbr : -9223372036854775808 ≤ br) (hbr' : br ≤ 9223372036854775807) :
    Calls Tryd.prog 3 #[.slice p0 n0 c0, .slice p1 n1 c1, .int .i64 br] w fun e w' => e = .returned (.bool true) ∧ Below w.heap.size w w' := by
  have h5 := bytes_calls p0 p1 n0 c0 n1 c1 br w b0 b1
  by_cases hs : n0 + n1 ≤ 1048576
  · have hd : decide (n0 + n1 ≤ 1048576) = true := by simp [hs]
    rw [hd] at h5
    clear hd b0 b1
    go_enter Tryd.func3, Tryd.ntmps3
    go_wp2_with (go_at_call 6; refine h5.mono ?_; rintro e w' ⟨rfl, hw⟩; have hw := hw.symm; subst hw)
    refine (clone2 p0 n0 c0 t w h0 z0 (by omega)).mono ?_
    rintro e w1 ⟨q0, rfl, hq0, g1⟩
    have h1' := h1.grown0 g1
    go_wp2_with fail
    refine (clone2 p1 n1 c1 mk w1 h1' z1 (by omega)).mono ?_
    rintro e w2 ⟨q1, rfl, hq1, g2⟩
    have B2 : Below w.heap.size w w2 := (grown_below g1).trans ((grown_below g2).mono g1.size)
    have S2 := B2.size
    have hq0' := hq0.grown0 g2
    clear h0 h1 h1' z0 z1 h5
    go_wp2_with fail
    refine (text8_calls q0 q1 n0 n0 n1 n1 t mk br w2 hq0'.at hq1.at (Nat.le_refl _) (by omega) hs (off_none_of_own hq0' (Nat.le_refl _)) (off_none_of_own hq1 (Nat.le_refl _)) hbr hbr').mono ?_
    rintro e w3 ⟨p3, n3, cap3, rfl, a3⟩
    go_wp2_with fail
    have S3 := a3.grown.size
    have d0 := hq0'.grown0 a3.grown
    have d1 := hq1.grown0 a3.grown
    refine (model_calls q0 q1 n0 n0 n1 n1 t mk br w3 d0.at d1.at (Nat.le_refl _) hs (off_none_of_own hq0' S3) (off_none_of_own hq1 S3) hbr hbr').mono ?_
    rintro e w4 ⟨p4, n4, cap4, rfl, a4⟩
    go_wp2_with fail
    have hl3 := a3.own.len
    have hl4 := a4.own.len
    have hlt := hq0'.len
    have hln : (model t mk br).length ≤ t.length := by
      have := scan_len t mk br t.length 0 ⟨[], 0, false⟩
      rw [scan_eq_model] at this
      simpa using this
    refine (eq_calls p3 p4 n3 cap3 n4 cap4 _ _ w4 (a3.own.grown0 a4.grown).at a4.own.at (by omega) (by omega)).mono ?_
    rintro e w5 ⟨rfl, k5, rfl⟩
    go_wp2
    go_ret
    refine ⟨by simp, ?_⟩
    have B3 : Below w.heap.size w w3 := B2.trans ((grown_below a3.grown).mono S2)
    exact (B3.trans ((grown_below a4.grown).mono (by omega))).trans (below_drewN (Below.refl _ _) k5)
  · have hd : decide (n0 + n1 ≤ 1048576) = false := by simp; omega
    rw [hd] at h5
    go_enter Tryd.func3, Tryd.ntmps3
    go_wp2_with (go_at_call 6; refine h5.mono ?_; rintro e w' ⟨rfl, rfl⟩)
    go_ret
    exact ⟨rfl, Below.refl _ _⟩
end Go.Proofs.Qxb6603002aDoor
