/- zzlaws_sse_b1.FnAppendThenNextRoundTrip: the walk. -/
import Derived.Test.Qxb6602806aDoorNext
import Derived.Test.Qxb6602806aDoorNext0
import Derived.Test.Qxb6602806aDoorLawA
import Derived.Deep.RegionHeld3
namespace Go.Proofs.Qxb6602806aDoor
open Go Go.RowKit Go.Shelf
attribute [local go_sem ↓] Go.wp_at_zero Go.wp_at_succ

theorem joinT_length (ls : List (List UInt8)) : (joinT ls).length ≤ (ls.map fun l => l.length + 1).sum := by
  cases ls with
  | nil => simp [joinT]
  | cons d r =>
    rw [joinT_cons]
    have h1 := trimCR_length d
    have h2 : (r.flatMap fun d => 10 :: trimCR d).length ≤ (r.map fun l => l.length + 1).sum := by
      induction r with
      | nil => simp
      | cons a r ih => have := trimCR_length a; simp at ih ⊢; omega
    simp at h2 ⊢
    omega

theorem wire_rend (name data : List UInt8) : wire [] name data = rend (items name (lines data)) ++ [10] := by
  rw [rend_items, flat_lines]; simp [wire]
theorem wire_append (a name data : List UInt8) : wire a name data = a ++ wire [] name data := by simp [wire]

theorem items_no (name data : List UInt8) (h : hasNL name = false) : ∀ it ∈ items name (lines data), ∀ c ∈ it.2, c ≠ 10 := by
  intro it hit
  unfold items at hit
  rcases List.mem_append.1 hit with hit | hit
  · split at hit
    · cases hit
    · simp at hit
      subst hit
      intro c hc e
      subst e
      unfold hasNL at h
      rw [← Bool.not_eq_true, List.contains_iff_mem] at h
      exact h hc
  · obtain ⟨d, hd, rfl⟩ := List.mem_map.1 hit
    exact lines_nl data d hd

theorem Own.spot {w : World} {p : Option Addr} {n c : Nat} {l : List UInt8} (h : Own w p n c l) : ∀ ad, p = some ad → ad.spot = none := by
  intro ad e
  rcases h.shape with ⟨h0, _⟩ | ⟨g, cur, h0, _⟩
  · rw [e] at h0; cases h0
  · rw [e] at h0; cases h0; rfl

theorem grown_drewN {w0 w1 : World} {g0 : Option Nat} (h : w0.grownBy w1 g0) (q : Nat) : w0.grownBy (w1.drewN q) g0 := ⟨h.os, h.tape, h.output, h.size, h.block⟩
theorem grown_trans0 {a b c : World} (h : a.grownBy b none) (k : b.grownBy c none) : a.grownBy c none := grown_chain h k (fun _ e => by cases e)

/-- What a callee of the test leaves: nothing that was there has turned. -/
theorem at_end {w6 w7 w8 : World} {Br : Nat} (h7 : ∀ j, j < w6.heap.size → w7.heap[j]? = w6.heap[j]?) (hs : w6.heap.size ≤ w7.heap.size) (he : NextEnd w7 Br w8) (hBr : w6.heap.size ≤ Br) {q : Option Addr} {n c : Nat} {l : List UInt8} (h : Own w6 q n c l) : Own w8 q n c l :=
  h.keep fun ad e hl => (he.kept _ (by omega) (by omega)).trans (h7 _ hl)

/-- zzEq on two equal readings. -/
theorem eq_true_calls (w9 : World) (p q : Option Addr) (n c m d : Nat) (l : List UInt8) (W : World) (hg : w9.grownBy W none) (ha : At W p n l) (hb : At W q m l) (hn : l.length ≤ 140737488355328) :
    Calls Tryd.prog 8 #[.slice p n c, .slice q m d] W fun e w' => e = .returned (.bool true) ∧ w9.grownBy w' none := by
  refine (eq_calls p q n c m d l l W ha hb (by have := ha.len; omega) (by have := hb.len; omega)).mono ?_
  rintro e w' ⟨rfl, k, rfl⟩
  exact ⟨by simp, grown_drewN hg k⟩

theorem trim_at_calls (w9 : World) (q : Option Addr) (n : Nat) (l : List UInt8) (W : World) (hg : w9.grownBy W none) (ha : At w9 q n l) (hn : n ≤ 1048576) :
    Calls Tryd.prog 13 #[.slice q n n] W fun e w' => e = .returned (.slice q (trimCR l).length n) ∧ w9.grownBy w' none := by
  refine (trim_calls q n n l W (ha.grown0 hg) hn (Nat.le_refl _)).mono ?_
  rintro e w' ⟨rfl, rfl⟩
  exact ⟨rfl, hg⟩

theorem dr_at_calls (w9 : World) (q : Option Addr) (n : Nat) (l : List UInt8) (W : World) (hg : w9.grownBy W none) (ha : Own w9 q n n l) (hz : q = none → n = 0) (hn : n ≤ 1048576) :
    Calls Tryd.prog 14 #[.slice q n n] W fun e w' => ∃ p m cap, e = .returned (.slice p m cap) ∧ At w' p m (joinT (lines l)) ∧ w9.grownBy w' none := by
  refine (dr_calls q n n l W (ha.at.grown0 hg) hz hn (Nat.le_refl _) (by omega) ha.spot ?_).mono ?_
  · intro ad e
    have := ha.lt ad e
    have := hg.size
    exact ⟨by simp, by omega⟩
  · rintro e w' ⟨p, m, cap, rfl, a⟩
    exact ⟨p, m, cap, rfl, a.own.at, grown_trans0 hg a.grown⟩

/-- A reading of bytes lies in no cell that holds a slice. -/
theorem at_not_box {w W : World} {B : Nat} {p : Option Addr} {n : Nat} {l : List UInt8} {a1 a2 : Option Addr} {x1 x2 y1 y2 : Nat} (h : At w p n l) (hB : w.heap[B]? = some (.cells #[.slice a1 x1 y1, .slice a2 x2 y2] 27 (0, 0))) (hk : ∀ j, j ≠ B → W.heap[j]? = w.heap[j]?) : At W p n l := by
  refine ⟨h.len, fun j hj => ?_⟩
  obtain ⟨b, o, hp, hc⟩ := h.cells j hj
  refine ⟨b, o, hp, ?_⟩
  have hne : b ≠ B := by
    rintro rfl
    simp only [World.cell?, hB] at hc
    rcases Nat.lt_or_ge (o + j) 2 with h2 | h2
    · have h3 : o + j = 0 ∨ o + j = 1 := by omega
      rcases h3 with h3 | h3 <;> rw [h3] at hc <;> simp [bv] at hc
    · rw [Array.getElem?_eq_none (by simpa using h2)] at hc
      cases hc
  rw [cell_of_heap (hk b hne) (o + j)]
  exact hc

theorem cell_at_grown {w9 W : World} (hg : w9.grownBy W none) {B o : Nat} {v : Value} (h : w9.cell? ⟨B, o, none⟩ = some v) : W.cell? ⟨B, o, none⟩ = some v := hg.cell h (by simp)

set_option maxRecDepth 100000 in
set_option maxHeartbeats 4000000 in
theorem lawB_walk (p0 p1 p2 p3 : Option Addr) (n0 c0 n1 c1 n2 c2 n3 c3 : Nat) (a0 a1 a2 a3 : List UInt8) (w : World) (h0 : At w p0 n0 a0) (h1 : At w p1 n1 a1) (h2 : At w p2 n2 a2) (h3 : At w p3 n3 a3)
    (z0 : p0 = none → n0 = 0 ∧ c0 = 0) (z1 : p1 = none → n1 = 0 ∧ c1 = 0) (z2 : p2 = none → n2 = 0 ∧ c2 = 0) (z3 : p3 = none → n3 = 0 ∧ c3 = 0) (b0 : n0 ≤ 9223372036854775807) (b1 : n1 ≤ 9223372036854775807) (b2 : n2 ≤ 9223372036854775807) (b3 : n3 ≤ 9223372036854775807) :
    Calls Tryd.prog 4 #[.slice p0 n0 c0, .slice p1 n1 c1, .slice p2 n2 c2, .slice p3 n3 c3] w fun e w' => e = .returned (.bool true) ∧ Below w.heap.size w w' := by
  have h10 := f10_calls p0 p1 p2 p3 n0 c0 n1 c1 n2 c2 n3 c3 w b0 b1 b2 b3
  by_cases hs : n0 + n1 + n2 + n3 ≤ 1048576
  · have hd : decide (n0 + n1 + n2 + n3 ≤ 1048576) = true := by simp [hs]
    rw [hd] at h10
    clear hd b0 b1 b2 b3
    have hx0 := has_calls p0 n0 c0 a0 w h0 (by omega)
    have hx2 := has_calls p2 n2 c2 a2 w h2 (by omega)
    by_cases hh : hasNL a0 = false ∧ hasNL a2 = false
    · obtain ⟨hh0, hh2⟩ := hh
      rw [hh0] at hx0
      rw [hh2] at hx2
      have N0 : Hid (hasNL a0 = false) := hh0
      have N2 : Hid (hasNL a2 = false) := hh2
      clear hh0 hh2
      go_enter Tryd.func4, Tryd.ntmps4
      go_wp2_with (go_at_call 10; refine h10.mono ?_; rintro e w' ⟨rfl, hw⟩; have hw := hw.symm; subst hw)
      refine hx0.mono ?_
      rintro e w' ⟨rfl, hw⟩
      have hw := hw.symm
      subst hw
      go_wp2_with fail
      refine hx2.mono ?_
      rintro e w' ⟨rfl, hw⟩
      have hw := hw.symm
      subst hw
      go_wp2_with fail
      refine (clone2 p0 n0 c0 a0 w h0 z0 (by omega)).mono ?_
      rintro e w1 ⟨q0, rfl, hq0, g1, l1, y0⟩
      go_wp2_with fail
      refine (clone2 p1 n1 c1 a1 w1 (h1.grown0 g1) z1 (by omega)).mono ?_
      rintro e w2 ⟨q1, rfl, hq1, g2, l2, y1⟩
      go_wp2_with fail
      refine (clone2 p2 n2 c2 a2 w2 ((h2.grown0 g1).grown0 g2) z2 (by omega)).mono ?_
      rintro e w3 ⟨q2, rfl, hq2, g3, l3, y2⟩
      go_wp2_with fail
      refine (clone2 p3 n3 c3 a3 w3 (((h3.grown0 g1).grown0 g2).grown0 g3) z3 (by omega)).mono ?_
      rintro e w4 ⟨q3, rfl, hq3, g4, l4, y3⟩
      have B4 : Below w.heap.size w w4 := grown_below (grown_trans0 (grown_trans0 (grown_trans0 g1 g2) g3) g4)
      have S1 := g1.size
      have S2 := g2.size
      have S3 := g3.size
      have S4 := g4.size
      have k0 := ((hq0.grown0 g2).grown0 g3).grown0 g4
      have k1 := (hq1.grown0 g3).grown0 g4
      have k2 := hq2.grown0 g4
      clear h0 h1 h2 h3 z0 z1 z2 z3 h10 hx0 hx2 hq0 hq1 hq2 g1 g2 g3 g4 l1 l2 l3 l4
      go_wp2_with fail
      refine (event_calls none q0 q1 0 0 n0 n0 n1 n1 [] a0 a1 w4 (Own.nil _) k0.at k1.at (by omega) (by omega) (off_none_of_own k0 (Nat.le_refl _)) (off_none_of_own k1 (Nat.le_refl _)) y1 (Nat.le_refl _) (by omega)).mono ?_
      rintro e w5 ⟨p5, n5, c5, rfl, x5⟩
      have S5 := x5.grown.size
      have m0 := k0.grown0 x5.grown
      have m1 := k1.grown0 x5.grown
      have m2 := k2.grown0 x5.grown
      have m3 := hq3.grown0 x5.grown
      have hl5 := x5.own.len
      have hw5 := wire_length [] a0 a1
      have e0 := k0.len
      have e1 := k1.len
      have e2 := k2.len
      have e3 := hq3.len
      have hn5 : n5 ≤ n0 + 7 * n1 + 16 := by rw [hl5]; simp at hw5; omega
      have off5 : ∀ {q : Option Addr} {n : Nat} {l : List UInt8}, Own w4 q n n l → Off (blk p5) w5.heap.size q := fun h ad e => by
        have := h.lt ad e
        refine ⟨fun e' => ?_, by omega⟩
        cases p5 with
        | none => cases e'
        | some a =>
          simp [blk] at e'
          rcases x5.lies a rfl with h9 | h9
          · cases h9
          · omega
      have H5 : Hid (n5 = (wire [] a0 a1).length) := hl5
      have E0 : Hid (n0 = a0.length ∧ n1 = a1.length ∧ n2 = a2.length ∧ n3 = a3.length) := ⟨e0, e1, e2, e3⟩
      clear hl5 hw5 e0 e1 e2 e3
      go_wp2_with fail
      refine (event_calls p5 q2 q3 n5 c5 n2 n2 n3 n3 _ a2 a3 w5 x5.own m2.at m3.at (by omega) (by omega) (off5 k2) (off5 hq3) y3 (Nat.le_refl _) (by omega)).mono ?_
      rintro e w6 ⟨p6, n6, c6, rfl, x6⟩
      have hL : wire (wire [] a0 a1) a2 a3 = rend (items a0 (lines a1)) ++ 10 :: wire [] a2 a3 := by rw [wire_append, wire_rend a0 a1]; simp
      have hsz : (rend (items a0 (lines a1))).length + 1 = n5 := by rw [H5.out, wire_rend a0 a1]; simp
      have hl6 := x6.own.len
      have hw6 := wire_length (wire [] a0 a1) a2 a3
      have hn6 : n6 ≤ 16777216 := by have := E0.out; have := H5.out; omega
      have hj1 : (joinT (lines a1)).length ≤ 1048577 := by have e := joinT_length (lines a1); rw [lines_sum] at e; have := E0.out; omega
      have hj3 : (joinT (lines a3)).length ≤ 1048577 := by have e := joinT_length (lines a3); rw [lines_sum] at e; have := E0.out; omega
      have h56 : n5 < n6 := by
        rw [hl6, hL, H5.out, wire_rend a0 a1]
        have : 0 < (wire [] a2 a3).length := by simp [wire]; omega
        simp; omega
      have hpos6 : 0 < n6 := by omega
      rcases x6.own.shape with ⟨_, hz, _⟩ | ⟨g6, cur6, rfl, hg6, hnc6, hcm6, _, _⟩
      · omega
      have hcm6' : c6 ≤ 9223372036854775807 := by unfold maxLen at hcm6; omega
      have hglt : g6 < w6.heap.size := (Array.getElem?_eq_some_iff.1 hg6).1
      have hat6 : At w6 (some ⟨g6, 0, none⟩) n6 (rend (items a0 (lines a1)) ++ 10 :: wire [] a2 a3) := by rw [← hL]; exact x6.own.at
      have hnx := next_ok w6.heap.size g6 0 n6 c6 _ (wire [] a2 a3) (items a0 (lines a1)) (trimCR a0) (joinT (lines a1)) (w6.alloc (.cells #[.int .i64 0, .int .i64 0, .slice none 0 0, .slice none 0 0, .bool false] 33)) (hat6.alloc _) rfl (items_no a0 a1 N0.out) (runIt_items a0 (lines a1) (lines_ne a1)) hn6 hnc6 hcm6' (by omega) (by omega) (by simp; omega) (heap_alloc_new w6 _)
      rw [hsz] at hnx
      have C6 : Hid (n6 = (wire (wire [] a0 a1) a2 a3).length) := hl6
      have C7 : Hid ((rend (items a0 (lines a1))).length + 1 = n5) := hsz
      have C8 : Hid (wire (wire [] a0 a1) a2 a3 = rend (items a0 (lines a1)) ++ 10 :: wire [] a2 a3) := hL
      have S6 := x6.grown.size
      -- the clones, still there behind the two events
      have ne5 : ∀ {q : Option Addr} {n : Nat} {l : List UInt8}, Own w4 q n n l → ∀ ad, q = some ad → some ad.block ≠ blk p5 := fun h ad e => (off5 h ad e).1
      have r0 := m0.grown x6.grown (ne5 k0)
      have r1 := m1.grown x6.grown (ne5 k1)
      have r2 := m2.grown x6.grown (ne5 k2)
      have r3 := m3.grown x6.grown (ne5 hq3)
      have B6 : Below w.heap.size w w6 := by
        have B5 : Below w.heap.size w w5 := B4.trans ((grown_below x5.grown).mono (by omega))
        refine B5.grown x6.grown (by omega) (fun k e => ?_)
        cases p5 with
        | none => cases e
        | some a =>
          simp [blk] at e
          subst e
          rcases x5.lies a rfl with h9 | h9
          · cases h9
          · omega
      have fresh2 : ∀ ad, q2 = some ad → ad.block < w6.heap.size := r2.lt
      have fresh3 : ∀ ad, q3 = some ad → ad.block < w6.heap.size := r3.lt
      have F2 : Hid (∀ ad, q2 = some ad → ad.block < w6.heap.size) := fresh2
      have F3 : Hid (∀ ad, q3 = some ad → ad.block < w6.heap.size) := fresh3
      clear fresh2 fresh3 hl6 hsz hL hw6 off5 ne5 hpos6 m0 m1 m2 m3 k0 k1 k2 hq3 B4 x5 x6
      go_wp2_with fail
      refine hnx.mono ?_
      rintro e w8 ⟨pn, nn, cn, pd, nd, cd, rfl, atn, atd, end8⟩
      have S8 := end8.size
      simp only [World.size_alloc] at S8
      go_upto_region 25 with fail
      have ow : ∀ {q : Option Addr} {n : Nat} {l : List UInt8}, Own w6 q n n l → Own (w8.alloc (.cells #[.slice pn nn cn, .slice pd nd cd] 27)) q n n l := fun h => (at_end (fun j hj => Below.heap_alloc _ _ _ hj) (by simp) end8 (Nat.le_refl _) h).alloc _
      have t0 := ow r0
      have t1 := ow r1
      have t2 := ow r2
      have t3 := ow r3
      have atn9 := atn.alloc (.cells #[.slice pn nn cn, .slice pd nd cd] 27)
      have atd9 := atd.alloc (.cells #[.slice pn nn cn, .slice pd nd cd] 27)
      have hE : (w8.alloc (.cells #[.slice pn nn cn, .slice pd nd cd] 27)).heap[w8.heap.size]? = some (.cells #[.slice pn nn cn, .slice pd nd cd] 27 (0, 0)) := heap_alloc_new w8 _
      have hR9 : (w8.alloc (.cells #[.slice pn nn cn, .slice pd nd cd] 27)).heap[w6.heap.size]? = some (.cells #[.int .i64 0, .int .i64 0, .slice none 0 0, .slice none 0 0, .bool false] 33 (0, 0)) := (Below.heap_alloc _ _ _ (by omega)).trans end8.rd
      have hb9 : At (w8.alloc (.cells #[.slice pn nn cn, .slice pd nd cd] 27)) (some ⟨g6, 0, none⟩) n6 (rend (items a0 (lines a1)) ++ 10 :: wire [] a2 a3) := ((hat6.alloc _).keep (fun ad e hl => by cases e; exact end8.kept _ hl (by show g6 ≠ _; omega))).alloc _
      have B9 : Below w.heap.size w (w8.alloc (.cells #[.slice pn nn cn, .slice pd nd cd] 27)) := by
        refine (B6.trans ⟨end8.os, end8.tape, end8.output, by omega, fun j hj => ?_⟩).alloc (by omega) _
        exact (end8.kept j (by simp; omega) (by omega)).trans (Below.heap_alloc _ _ _ (by omega))
      obtain ⟨w9, hw9⟩ : ∃ w9, w8.alloc (.cells #[.slice pn nn cn, .slice pd nd cd] 27) = w9 := ⟨_, rfl⟩
      have S9 : w9.heap.size = w8.heap.size + 1 := by rw [← hw9]; simp
      rw [hw9] at t0 t1 t2 t3 atn9 atd9 hE hR9 hb9 B9 ⊢
      have S9' : Hid (w9.heap.size = w8.heap.size + 1) := S9
      obtain ⟨Be, hBe⟩ : ∃ Be, w8.heap.size = Be := ⟨_, rfl⟩
      rw [hBe] at hE ⊢
      have hBlt : w6.heap.size < Be ∧ Be < w9.heap.size := ⟨by omega, by omega⟩
      clear hw9 hBe S9 ow atn atd end8 hnx r0 r1 r2 r3 B6 S8
      have hc0 : w9.cell? ⟨Be, 0, none⟩ = some (.slice pn nn cn) := by simp [World.cell?, hE]
      have hc1 : w9.cell? ⟨Be, 1, none⟩ = some (.slice pd nd cd) := by simp [World.cell?, hE]
      obtain ⟨tn, htn⟩ : ∃ tn, tn = (trimCR a0).length := ⟨_, rfl⟩
      have htl := trimCR_length a0
      have htb : (trimCR a0).length ≤ 1048576 := by have := t0.len; omega
      have K0 : Hid (∀ W, w9.grownBy W none → Calls Tryd.prog 13 #[.slice q0 n0 n0] W fun e w' => e = .returned (.slice q0 tn n0) ∧ w9.grownBy w' none) := fun W hg => by rw [htn]; exact trim_at_calls w9 q0 n0 a0 W hg t0.at (by omega)
      have hq0t : At w9 q0 tn (trimCR a0) := by rw [htn]; have := t0.at.take (trimCR a0).length (by have := t0.len; omega); rwa [← trimCR_take] at this
      have K1 : Hid (∀ W, w9.grownBy W none → Calls Tryd.prog 8 #[.slice pn nn cn, .slice q0 tn n0] W fun e w' => e = .returned (.bool true) ∧ w9.grownBy w' none) := fun W hg => eq_true_calls w9 pn q0 nn cn tn n0 (trimCR a0) W hg (atn9.grown0 hg) (hq0t.grown0 hg) (by omega)
      have K2 : Hid (∀ W, w9.grownBy W none → Calls Tryd.prog 14 #[.slice q1 n1 n1] W fun e w' => ∃ p m cap, e = .returned (.slice p m cap) ∧ At w' p m (joinT (lines a1)) ∧ w9.grownBy w' none) := fun W hg => dr_at_calls w9 q1 n1 a1 W hg t1 y1 (by omega)
      have K3 : Hid (∀ W p m cap, w9.grownBy W none → At W p m (joinT (lines a1)) → Calls Tryd.prog 8 #[.slice pd nd cd, .slice p m cap] W fun e w' => e = .returned (.bool true) ∧ w9.grownBy w' none) := fun W p m cap hg ha => eq_true_calls w9 pd p nd cd m cap _ W hg (atd9.grown0 hg) ha (by omega)
      have Z : Hid (Own w9 q2 n2 n2 a2 ∧ Own w9 q3 n3 n3 a3 ∧ w9.heap[Be]? = some (.cells #[.slice pn nn cn, .slice pd nd cd] 27 (0, 0)) ∧ w9.heap[w6.heap.size]? = some (.cells #[.int .i64 0, .int .i64 0, .slice none 0 0, .slice none 0 0, .bool false] 33 (0, 0)) ∧ At w9 (some ⟨g6, 0, none⟩) n6 (rend (items a0 (lines a1)) ++ 10 :: wire [] a2 a3) ∧ Below w.heap.size w w9) := ⟨t2, t3, hE, hR9, hb9, B9⟩
      clear htn htl htb t0 t1 t2 t3 hE hR9 hb9 B9 hat6 hg6 atn9 atd9 hq0t
      go_cut [100] (fun v W => v = .bool false ∧ w9.grownBy W none)
      case first =>
        go_region_held3 (fun W => W.cell? ⟨Be, 0, none⟩ = some (.slice pn nn cn) ∧ W.cell? ⟨Be, 1, none⟩ = some (.slice pd nd cd)) (go_keep) (first
          | (go_at_call 13; refine (K0.out _ (by first | exact grown_drew (World.grownBy.refl _ _) | assumption)).mono ?_; rintro e wx ⟨rfl, gx⟩; have cx0 := cell_at_grown gx hc0; have cx1 := cell_at_grown gx hc1)
          | (go_at_call 14; refine (K2.out _ (by first | exact grown_drew (World.grownBy.refl _ _) | assumption)).mono ?_; rintro e wy ⟨p7, m7, c7, rfl, at7, gy⟩; have cy0 := cell_at_grown gy hc0; have cy1 := cell_at_grown gy hc1)
          | (go_at_call_of 8 (Value.slice q0 tn n0); refine (K1.out _ (by first | exact grown_drew (World.grownBy.refl _ _) | assumption)).mono ?_; rintro e wz ⟨rfl, gz⟩; have cz0 := cell_at_grown gz hc0; have cz1 := cell_at_grown gz hc1)
          | (go_at_call_of 8 (Value.slice pd nd cd); refine (K3.out _ _ _ _ (by assumption) (by assumption)).mono ?_; rintro e wv ⟨rfl, gv⟩; have cv0 := cell_at_grown gv hc0; have cv1 := cell_at_grown gv hc1))
        all_goals (try go_wp2_with fail)
        all_goals go_meet
        all_goals exact ⟨rfl, gv⟩
      case rest =>
        obtain ⟨rfl, gc⟩ := hcut
        obtain ⟨t2, t3, hE, hR9, hb9, B9⟩ := Z.out
        have u2 := t2.grown0 gc
        have u3 := t3.grown0 gc
        have hRc : wc.heap[w6.heap.size]? = some (.cells #[.int .i64 0, .int .i64 0, .slice none 0 0, .slice none 0 0, .bool false] 33 (0, 0)) := (gc.block _ (by omega) (by simp)).trans hR9
        have hEc : wc.heap[Be]? = some (.cells #[.slice pn nn cn, .slice pd nd cd] 27 (0, 0)) := (gc.block _ (by omega) (by simp)).trans hE
        have Bc : Below w.heap.size w wc := B9.trans ((grown_below gc).mono (by have := B9.size; omega))
        have Sc := gc.size
        have hw2 : wire [] a2 a3 = rend (items a2 (lines a3)) ++ 10 :: [] := wire_rend a2 a3
        have hrest : At wc (some ⟨g6, n5, none⟩) (n6 - n5) (rend (items a2 (lines a3)) ++ 10 :: []) := by
          have := (hb9.grown0 gc).drop n5 (n6 - n5) (by omega)
          rw [Nat.zero_add] at this
          have e : (rend (items a0 (lines a1)) ++ 10 :: wire [] a2 a3).drop n5 = wire [] a2 a3 := by
            rw [← C7.out, show rend (items a0 (lines a1)) ++ 10 :: wire [] a2 a3 = (rend (items a0 (lines a1)) ++ [10]) ++ wire [] a2 a3 by simp, List.drop_left' (by simp)]
          rw [e, hw2] at this
          exact this
        have hsz2 : (rend (items a2 (lines a3))).length + 1 = n6 - n5 := by have := hrest.len; simp at this; omega
        have hnx2 := next_ok w6.heap.size g6 n5 (n6 - n5) (c6 - n5) _ [] (items a2 (lines a3)) (trimCR a2) (joinT (lines a3)) wc hrest rfl (items_no a2 a3 N2.out) (runIt_items a2 (lines a3) (lines_ne a3)) (by omega) (by omega) (by omega) (by omega) (by omega) (by omega) hRc
        rw [hsz2] at hnx2
        have i1 : (n5 : Int) ≤ (n6 : Int) := by omega
        have i2 : ¬ c6 = n5 := by omega
        have i3 : (n6 : Int) ≤ (c6 : Int) := by omega
        clear hsz2 hrest hw2 hb9 gc t2 t3 hE hR9 B9 Z K0 K1 K2 K3 hc0 hc1
        go_wp2_with fail
        refine hnx2.mono ?_
        rintro e w10 ⟨pn2, nn2, cn2, pd2, nd2, cd2, rfl, atn2, atd2, end2⟩
        have S10 := end2.size
        have hE10 : w10.heap[Be]? = some (.cells #[.slice pn nn cn, .slice pd nd cd] 27 (0, 0)) := (end2.kept Be (by omega) (by omega)).trans hEc
        have d0 : w10.cell? ⟨Be, 0, none⟩ = some (.slice pn nn cn) := by simp [World.cell?, hE10]
        have d1 : w10.cell? ⟨Be, 1, none⟩ = some (.slice pd nd cd) := by simp [World.cell?, hE10]
        have d2 : w10.frozen? ⟨Be, 0, none⟩ = false := by simp [World.frozen?, hE10]
        have d3 : w10.frozen? ⟨Be, 1, none⟩ = false := by simp [World.frozen?, hE10]
        have HE10 : Hid (w10.heap[Be]? = some (.cells #[.slice pn nn cn, .slice pd nd cd] 27 (0, 0))) := hE10
        have HRc := hRc
        clear hE10 hEc hRc hnx2
        go_upto_region 29 with fail
        obtain ⟨w11, hw11⟩ : ∃ w11, (w10.setCell ⟨Be, 0, none⟩ (.slice pn2 nn2 cn2)).setCell ⟨Be, 1, none⟩ (.slice pd2 nd2 cd2) = w11 := ⟨_, rfl⟩
        have o11 : ∀ j, j ≠ Be → w11.heap[j]? = w10.heap[j]? := fun j hj => by rw [← hw11]; exact set2_heap _ _ _ _ _ hj
        have E11 : w11.heap[Be]? = some (.cells #[.slice pn2 nn2 cn2, .slice pd2 nd2 cd2] 27 (0, 0)) := by
          rw [← hw11]
          have := heap_setCell_at (i := 1) (heap_setCell_at (i := 0) HE10.out (.slice pn2 nn2 cn2)) (.slice pd2 nd2 cd2)
          simpa using this
        have Z11 : w11.heap.size = w10.heap.size ∧ w11.os = w10.os ∧ w11.tape = w10.tape ∧ w11.output = w10.output := by rw [← hw11]; exact ⟨by simp [World.setCell], rfl, rfl, rfl⟩
        rw [hw11]
        have k11 : ∀ j, j < wc.heap.size → j ≠ w6.heap.size → j ≠ Be → w11.heap[j]? = wc.heap[j]? := fun j h1 h2 h3 => (o11 j h3).trans (end2.kept j h1 h2)
        have R11 : w11.heap[w6.heap.size]? = some (.cells #[.int .i64 0, .int .i64 0, .slice none 0 0, .slice none 0 0, .bool false] 33 (0, 0)) := (o11 _ (by omega)).trans end2.rd
        have v2 : Own w11 q2 n2 n2 a2 := u2.keep fun ad e hl => by
          have h1 := F2.out ad e
          exact k11 _ hl (by omega) (by omega)
        have v3 : Own w11 q3 n3 n3 a3 := u3.keep fun ad e hl => by
          have h1 := F3.out ad e
          exact k11 _ hl (by omega) (by omega)
        have atn11 : At w11 pn2 nn2 (trimCR a2) := at_not_box atn2 HE10.out o11
        have atd11 : At w11 pd2 nd2 (joinT (lines a3)) := at_not_box atd2 HE10.out o11
        have B11 : Below w.heap.size w w11 := Bc.trans ⟨Z11.2.1.trans end2.os, Z11.2.2.1.trans end2.tape, Z11.2.2.2.trans end2.output, by omega, fun j hj => k11 j (by have := Bc.size; omega) (by omega) (by omega)⟩
        have hc0 : w11.cell? ⟨Be, 0, none⟩ = some (.slice pn2 nn2 cn2) := by simp [World.cell?, E11]
        have hc1 : w11.cell? ⟨Be, 1, none⟩ = some (.slice pd2 nd2 cd2) := by simp [World.cell?, E11]
        obtain ⟨tn, htn⟩ : ∃ tn, tn = (trimCR a2).length := ⟨_, rfl⟩
        have htl := trimCR_length a2
        have htb : (trimCR a2).length ≤ 1048576 := by have := v2.len; omega
        have K0 : Hid (∀ W, w11.grownBy W none → Calls Tryd.prog 13 #[.slice q2 n2 n2] W fun e w' => e = .returned (.slice q2 tn n2) ∧ w11.grownBy w' none) := fun W hg => by rw [htn]; exact trim_at_calls w11 q2 n2 a2 W hg v2.at (by omega)
        have hq2t : At w11 q2 tn (trimCR a2) := by rw [htn]; have := v2.at.take (trimCR a2).length (by have := v2.len; omega); rwa [← trimCR_take] at this
        have K1 : Hid (∀ W, w11.grownBy W none → Calls Tryd.prog 8 #[.slice pn2 nn2 cn2, .slice q2 tn n2] W fun e w' => e = .returned (.bool true) ∧ w11.grownBy w' none) := fun W hg => eq_true_calls w11 pn2 q2 nn2 cn2 tn n2 (trimCR a2) W hg (atn11.grown0 hg) (hq2t.grown0 hg) (by omega)
        have K2 : Hid (∀ W, w11.grownBy W none → Calls Tryd.prog 14 #[.slice q3 n3 n3] W fun e w' => ∃ p m cap, e = .returned (.slice p m cap) ∧ At w' p m (joinT (lines a3)) ∧ w11.grownBy w' none) := fun W hg => dr_at_calls w11 q3 n3 a3 W hg v3 y3 (by omega)
        have K3 : Hid (∀ W p m cap, w11.grownBy W none → At W p m (joinT (lines a3)) → Calls Tryd.prog 8 #[.slice pd2 nd2 cd2, .slice p m cap] W fun e w' => e = .returned (.bool true) ∧ w11.grownBy w' none) := fun W p m cap hg ha => eq_true_calls w11 pd2 p nd2 cd2 m cap _ W hg (atd11.grown0 hg) ha (by omega)
        have Z : Hid (w11.heap[Be]? = some (.cells #[.slice pn2 nn2 cn2, .slice pd2 nd2 cd2] 27 (0, 0)) ∧ w11.heap[w6.heap.size]? = some (.cells #[.int .i64 0, .int .i64 0, .slice none 0 0, .slice none 0 0, .bool false] 33 (0, 0)) ∧ Below w.heap.size w w11 ∧ w6.heap.size < Be ∧ Be < w11.heap.size) := ⟨E11, R11, B11, by omega, by omega⟩
        clear htn htl htb v2 v3 hq2t atn11 atd11 E11 R11 B11 Z11 k11 o11 hw11 u2 u3 HRc Bc HE10 d0 d1 d2 d3 atn2 atd2 end2
        go_cut [133] (fun v W => v = .bool false ∧ w11.grownBy W none)
        case first =>
          go_region_held3 (fun W => W.cell? ⟨Be, 0, none⟩ = some (.slice pn2 nn2 cn2) ∧ W.cell? ⟨Be, 1, none⟩ = some (.slice pd2 nd2 cd2)) (go_keep) (first
            | (go_at_call 13; refine (K0.out _ (by first | exact grown_drew (World.grownBy.refl _ _) | assumption)).mono ?_; rintro e wx ⟨rfl, gx⟩; have cx0 := cell_at_grown gx hc0; have cx1 := cell_at_grown gx hc1)
            | (go_at_call 14; refine (K2.out _ (by first | exact grown_drew (World.grownBy.refl _ _) | assumption)).mono ?_; rintro e wy ⟨p7, m7, c7, rfl, at7, gy⟩; have cy0 := cell_at_grown gy hc0; have cy1 := cell_at_grown gy hc1)
            | (go_at_call_of 8 (Value.slice q2 tn n2); refine (K1.out _ (by first | exact grown_drew (World.grownBy.refl _ _) | assumption)).mono ?_; rintro e wz ⟨rfl, gz⟩; have cz0 := cell_at_grown gz hc0; have cz1 := cell_at_grown gz hc1)
            | (go_at_call_of 8 (Value.slice pd2 nd2 cd2); refine (K3.out _ _ _ _ (by assumption) (by assumption)).mono ?_; rintro e wv ⟨rfl, gv⟩; have cv0 := cell_at_grown gv hc0; have cv1 := cell_at_grown gv hc1))
          all_goals (try go_wp2_with fail)
          all_goals go_meet
          all_goals exact ⟨rfl, gv⟩
        case rest =>
          obtain ⟨rfl, gc⟩ := hcut
          obtain ⟨E11, R11, B11, hB1, hB2⟩ := Z.out
          have hRd := (gc.block _ (by omega) (by simp)).trans R11
          have hEd := (gc.block _ (by omega) (by simp)).trans E11
          have Sd := gc.size
          have Bd : Below w.heap.size w wc := B11.trans ((grown_below gc).mono (by have := B11.size; omega))
          have SB := Bd.size
          have HRd : Hid (wc.heap[w6.heap.size]? = some (.cells #[.int .i64 0, .int .i64 0, .slice none 0 0, .slice none 0 0, .bool false] 33 (0, 0))) := hRd
          have HEd : Hid (wc.heap[Be]? = some (.cells #[.slice pn2 nn2 cn2, .slice pd2 nd2 cd2] 27 (0, 0))) := hEd
          clear hRd hEd E11 R11 B11 gc Z K0 K1 K2 K3 hc0 hc1
          go_wp2_with fail
          all_goals
            refine (next_empty w6.heap.size _ _ wc (fun h => by cases h) (fun ad e => by cases e; rfl) (by omega) HRd.out).mono ?_
            rintro e w12 ⟨rfl, k12, o12, tp12, out12, s12⟩
            have hE12 := (k12 Be (by omega) (by omega)).trans HEd.out
            have d0 : w12.cell? ⟨Be, 0, none⟩ = some (.slice pn2 nn2 cn2) := by simp [World.cell?, hE12]
            have d1 : w12.cell? ⟨Be, 1, none⟩ = some (.slice pd2 nd2 cd2) := by simp [World.cell?, hE12]
            have d2 : w12.frozen? ⟨Be, 0, none⟩ = false := by simp [World.frozen?, hE12]
            have d3 : w12.frozen? ⟨Be, 1, none⟩ = false := by simp [World.frozen?, hE12]
            have Bf : Below w.heap.size w ((w12.setCell ⟨Be, 0, none⟩ (.slice none 0 0)).setCell ⟨Be, 1, none⟩ (.slice none 0 0)) := by
              have B12 : Below w.heap.size w w12 := Bd.trans ⟨o12, tp12, out12, s12, fun j hj => k12 j (by omega) (by omega)⟩
              exact (B12.setCell (p := ⟨Be, 0, none⟩) (by show _ ≤ Be; omega) _).setCell (p := ⟨Be, 1, none⟩) (by show _ ≤ Be; omega) _
            clear hE12 k12
            go_wp2
            go_ret
            exact ⟨rfl, Bf⟩
    · have hor : hasNL a0 = true ∨ (hasNL a0 = false ∧ hasNL a2 = true) := by
        cases e1 : hasNL a0 with
        | true => exact .inl rfl
        | false => cases e2 : hasNL a2 with
          | true => exact .inr ⟨rfl, rfl⟩
          | false => exact absurd ⟨e1, e2⟩ hh
      clear hh
      rcases hor with e1 | ⟨e1, e2⟩
      · rw [e1] at hx0
        clear e1 hx2
        go_enter Tryd.func4, Tryd.ntmps4
        go_wp2_with (go_at_call 10; refine h10.mono ?_; rintro e w' ⟨rfl, hw⟩; have hw := hw.symm; subst hw)
        refine hx0.mono ?_
        rintro e w' ⟨rfl, rfl⟩
        go_wp2_with fail
        go_ret
        exact ⟨rfl, Below.refl _ _⟩
      · rw [e1] at hx0
        rw [e2] at hx2
        clear e1 e2
        go_enter Tryd.func4, Tryd.ntmps4
        go_wp2_with (go_at_call 10; refine h10.mono ?_; rintro e w' ⟨rfl, hw⟩; have hw := hw.symm; subst hw)
        refine hx0.mono ?_
        rintro e w' ⟨rfl, hw⟩
        have hw := hw.symm
        subst hw
        go_wp2_with fail
        refine hx2.mono ?_
        rintro e w' ⟨rfl, rfl⟩
        go_wp2_with fail
        go_ret
        exact ⟨rfl, Below.refl _ _⟩
  · have hd : decide (n0 + n1 + n2 + n3 ≤ 1048576) = false := by simp; omega
    rw [hd] at h10
    go_enter Tryd.func4, Tryd.ntmps4
    go_wp2_with (go_at_call 10; refine h10.mono ?_; rintro e w' ⟨rfl, rfl⟩)
    go_ret
    exact ⟨rfl, Below.refl _ _⟩
end Go.Proofs.Qxb6602806aDoor
