/- zzlaws_sse_b1.FnAppendEventWire: the walk. -/
import Derived.Test.Qxb6602806aDoorEvent
namespace Go.Proofs.Qxb6602806aDoor
open Go Go.RowKit Go.Shelf

theorem clone2 (p : Option Addr) (n c : Nat) (l : List UInt8) (w : World) (hat : At w p n l) (hnil : p = none → n = 0 ∧ c = 0) (hn : n ≤ 1048576) :
    Calls Tryd.prog 6 #[.slice p n c] w fun e w' => ∃ p', e = .returned (.slice p' n n) ∧ Own w' p' n n l ∧ w.grownBy w' none ∧ Lies none w.heap.size p' ∧ (p' = none → n = 0) := by
  cases p with
  | none =>
    obtain ⟨rfl, rfl⟩ := hnil rfl
    have := hat.none_len
    subst this
    refine (clone_nil w).mono ?_
    rintro e w' ⟨rfl, rfl⟩
    exact ⟨_, rfl, Own.nil _, World.grownBy.refl _ _, (fun _ h => by cases h), fun _ => rfl⟩
  | some a =>
    refine (clone_some a n c l w hat hn).mono ?_
    rintro e w' ⟨rfl, ho, hg⟩
    exact ⟨_, rfl, ho, hg, (fun ad h => by cases h; exact .inr (Nat.le_refl _)), fun h => by cases h⟩

theorem wire_length (b name data : List UInt8) : (wire b name data).length ≤ b.length + name.length + 7 * data.length + 16 := by
  have h1 := evt_length name
  have h2 := enc_length data
  simp [wire, sData]
  omega

theorem event_calls (p0 p1 p2 : Option Addr) (n0 c0 n1 c1 n2 c2 : Nat) (b name data : List UInt8) (w : World) (h0 : Own w p0 n0 c0 b) (h1 : At w p1 n1 name) (h2 : At w p2 n2 data)
    (hb : n0 ≤ 16777216) (hb1 : n1 + n2 ≤ 1048576) (o1 : Off (blk p0) w.heap.size p1) (o2 : Off (blk p0) w.heap.size p2) (hz2 : p2 = none → c2 = 0) (hc2 : n2 ≤ c2) (hc3 : c2 ≤ 140737488355328) :
    Calls Tryd.prog 7 #[.slice p0 n0 c0, .agg #[.slice p1 n1 c1, .slice p2 n2 c2]] w fun e w' => ∃ p n cap, e = .returned (.slice p n cap) ∧ Acc w (blk p0) w' p n cap (wire b name data) :=
  callsIn_wide.1 (event_in 5 (Nat.le_refl _) p0 p1 p2 n0 c0 n1 c1 n2 c2 b name data w h0 h1 h2 hb hb1 o1 o2 hz2 hc2 hc3)

theorem off_of_own {w w' : World} {p : Option Addr} {n c : Nat} {l : List UInt8} (h : Own w p n c l) (hs : w.heap.size ≤ w'.heap.size) (g : Nat) (hg : w.heap.size ≤ g) : Off (some g) w'.heap.size p := by
  intro ad e
  have := h.lt ad e
  exact ⟨by simp; omega, by omega⟩
theorem off_none_of_own {w w' : World} {p : Option Addr} {n c : Nat} {l : List UInt8} (h : Own w p n c l) (hs : w.heap.size ≤ w'.heap.size) : Off none w'.heap.size p := by
  intro ad e
  have := h.lt ad e
  exact ⟨by simp, by omega⟩
theorem At.grown0 {w w' : World} {p : Option Addr} {n : Nat} {l : List UInt8} (h : At w p n l) (hg : w.grownBy w' none) : At w' p n l := h.grown hg (by intro _ _ h; cases h)
theorem Own.grown0 {w w' : World} {p : Option Addr} {n c : Nat} {l : List UInt8} (h : Own w p n c l) (hg : w.grownBy w' none) : Own w' p n c l := h.grown hg (by intro _ _ h; cases h)

set_option maxHeartbeats 2000000 in
theorem lawA_walk (p0 p1 p2 : Option Addr) (n0 c0 n1 c1 n2 c2 : Nat) (r : Int) (b name data : List UInt8) (w : World) (h0 : At w p0 n0 b) (h1 : At w p1 n1 name) (h2 : At w p2 n2 data)
    (z0 : p0 = none → n0 = 0 ∧ c0 = 0) (z1 : p1 = none → n1 = 0 ∧ c1 = 0) (z2 : p2 = none → n2 = 0 ∧ c2 = 0) (b0 : n0 ≤ 9223372036854775807) (b1 : n1 ≤ 9223372036854775807) (b2 : n2 ≤ 9223372036854775807) :
    Calls Tryd.prog 3 #[.slice p0 n0 c0, .slice p1 n1 c1, .slice p2 n2 c2, .int .i64 r] w fun e w' => e = .returned (.bool true) ∧ Below w.heap.size w w' := by
  have h5 := f5_calls p0 p1 p2 n0 c0 n1 c1 n2 c2 r w b0 b1 b2
  by_cases hs : n0 + n1 + n2 ≤ 1048576
  · have hd : decide (n0 + n1 + n2 ≤ 1048576) = true := by simp [hs]
    rw [hd] at h5
    clear hd b0 b1 b2
    by_cases hr : 0 ≤ r ∧ r ≤ 65536
    · obtain ⟨hr0, hr1⟩ := hr
      obtain ⟨rn, rfl⟩ := Int.eq_ofNat_of_zero_le hr0
      go_enter Tryd.func3, Tryd.ntmps3
      go_wp2_with (go_at_call 5; refine h5.mono ?_; rintro e w' ⟨rfl, hw⟩; have hw := hw.symm; subst hw)
      refine (clone2 p0 n0 c0 b w h0 z0 (by omega)).mono ?_
      rintro e w1 ⟨q0, rfl, hq0, g1, l1, y0⟩
      have h1' := h1.grown0 g1
      have h2' := h2.grown0 g1
      go_wp2_with fail
      refine (clone2 p1 n1 c1 name w1 h1' z1 (by omega)).mono ?_
      rintro e w2 ⟨q1, rfl, hq1, g2, l2, y1⟩
      have h2'' := h2'.grown0 g2
      go_wp2_with fail
      refine (clone2 p2 n2 c2 data w2 h2'' z2 (by omega)).mono ?_
      rintro e w3 ⟨q2, rfl, hq2, g3, l3, y2⟩
      have B3 : Below w.heap.size w w3 := (grown_below g1).trans (((grown_below g2).mono g1.size).trans ((grown_below g3).mono (Nat.le_trans g1.size g2.size)))
      have S3 := B3.size
      have a0 : At w3 q0 n0 b := ((hq0.grown0 g2).grown0 g3).at
      clear h0 h1 h2 h1' h2' h2'' z0 z1 z2 h5
      go_wp2_with (first
        | (at_make; refine wpList_make_b bt rfl _ _ rfl rfl rfl n0 (n0 + rn) (by omega) (by omega) (by omega) (by omega) ?_; intro w4 o4 g4)
        | (refine wpList_copy_b bt rfl _ _ rfl rfl rfl o4 (a0.grown0 g4) (Nat.le_refl _) ?_; intro w5 o5 g5))
      have hbl : b ++ (List.replicate n0 (0 : UInt8)).drop n0 = b := by simp
      rw [hbl] at o5
      have hblk : blk (some ⟨w3.heap.size, 0, none⟩) = some w3.heap.size := rfl
      have S4 := g4.size
      have S5 := g5.size
      have S1 := g1.size
      have S2 := g2.size
      have S33 := g3.size
      have g35 : w3.grownBy w5 (some w3.heap.size) := grown_chain (w1 := w4) ⟨g4.os, g4.tape, g4.output, g4.size, fun k hk _ => g4.block k hk (by simp)⟩ g5 (fun b e => by rw [hblk] at e; cases e; exact .inl rfl)
      have ne : ∀ {q : Option Addr} {n : Nat} {l : List UInt8}, Own w3 q n n l → ∀ ad, q = some ad → some ad.block ≠ some w3.heap.size := fun h ad e => by have := h.lt ad e; simp; omega
      have c0' := (hq0.grown0 g2).grown0 g3
      have c1' := hq1.grown0 g3
      have d0 := c0'.grown g35 (ne c0')
      have d1 := c1'.grown g35 (ne c1')
      have d2 := hq2.grown g35 (ne hq2)
      refine (event_calls _ q1 q2 n0 (n0 + rn) n1 n1 n2 n2 b name data w5 o5 d1.at d2.at (by omega) (by omega) (off_of_own c1' (by omega) _ (Nat.le_refl _)) (off_of_own hq2 (by omega) _ (Nat.le_refl _)) y2 (Nat.le_refl _) (by omega)).mono ?_
      rintro e w6 ⟨p6, n6, cap6, rfl, a6⟩
      go_wp2_with fail
      have g36 : w3.grownBy w6 (some w3.heap.size) := grown_chain g35 a6.grown (fun b e => by rw [hblk] at e; cases e; exact .inl rfl)
      have e0 := c0'.grown g36 (ne c0')
      have e1 := c1'.grown g36 (ne c1')
      have e2 := hq2.grown g36 (ne hq2)
      have S6 := a6.grown.size
      refine (wire_calls q0 q1 q2 n0 n0 n1 n1 n2 n2 b name data w6 e0.at e1.at e2.at hs (off_none_of_own c0' (by omega)) (off_none_of_own c1' (by omega)) (off_none_of_own hq2 (by omega))).mono ?_
      rintro e w7 ⟨p7, n7, cap7, rfl, a7⟩
      go_wp2_with fail
      have hl6 := a6.own.len
      have hl7 := a7.own.len
      have hwl := wire_length b name data
      have hb0 := d0.len
      have hb1 := d1.len
      have hb2 := d2.len
      refine (eq_calls p6 p7 n6 cap6 n7 cap7 _ _ w7 (a6.own.grown0 a7.grown).at a7.own.at (by omega) (by omega)).mono ?_
      rintro e w8 ⟨rfl, k8, rfl⟩
      go_wp2
      go_ret
      refine ⟨by simp, ?_⟩
      have B6 : Below w.heap.size w w6 := B3.grown g36 S3 (fun k e => by cases e; exact S3)
      exact (B6.trans ((grown_below a7.grown).mono (by omega))).trans (below_drewN (Below.refl _ _) k8)
    · have hor : (decide (r < 0) || decide (65536 < r)) = true := by simp; omega
      go_enter Tryd.func3, Tryd.ntmps3
      go_wp2_with (go_at_call 5; refine h5.mono ?_; rintro e w' ⟨rfl, rfl⟩)
      all_goals
        go_ret
        first | exact ⟨rfl, Below.refl _ _⟩ | omega
  · have hd : decide (n0 + n1 + n2 ≤ 1048576) = false := by simp; omega
    rw [hd] at h5
    go_enter Tryd.func3, Tryd.ntmps3
    go_wp2_with (go_at_call 5; refine h5.mono ?_; rintro e w' ⟨rfl, rfl⟩)
    go_ret
    exact ⟨rfl, Below.refl _ _⟩
end Go.Proofs.Qxb6602806aDoor
