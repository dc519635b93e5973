/- THE ROW AND THE CARD of zzlaws_sse_b1.FnAppendThenNextRoundTrip. -/
import Derived.Test.Qxb6602806aDoorLawB
import Derived.Test.Qxb6602806aDoorRows
import Derived.Test.Qxb6602806aDoorTie
import Derived.Test.Qxb6602806aDoorCards
import Derived.ProofKit
import Derived.OpenShut
import Derived.Lay
import Derived.LaidOnce
import Derived.SevenTiedAt
namespace Go.Proofs.Qxb6602806aDoor
open Go Go.ChangeShapes Go.WideShapes Go.ChangeAt Go.RowKit

theorem ownKnobNone : ownKnob Tryd.prog.godebug = none := by kernel_rfl
theorem laidOut : laidOutB Tryd.prog = true := by kernel_rfl
def laidL : List (String × DataW Unit) := Rows.fnAppendThenNextRoundTripRow.laid

/-- A []byte that came in, as the walk wants it. -/
theorem opened {H : Type} {enc : TypeId × Value → H} {W : World} {a : Option Addr} {len cap : Nat} {d : DataW H} {p : List MemPlace} (h : DataW.Trod enc Tryd.prog W 0 (fun _ => true) true 22 (.slice a len cap) d p) :
    ∃ l : List UInt8, At W a len l ∧ (a = none → len = 0 ∧ cap = 0) ∧ len ≤ cap ∧ cap ≤ 9223372036854775807 ∧ (∀ ad, a = some ad → 0 < len → ad.block < W.heap.size) := by
  obtain ⟨fuel, hf⟩ := h
  rcases open_ints Tryd.underlying22 Tryd.underlying5 (by kernel_rfl) hf with ⟨hcs, _⟩ | ⟨x, l, c, zs, hcs, _, hl, hm, hz, _, hcell, hwz⟩
  · simp [Value.cells] at hcs
    obtain ⟨rfl, rfl, rfl⟩ := hcs
    exact ⟨[], At.nil _, fun _ => ⟨rfl, rfl⟩, Nat.le_refl _, by omega, fun _ h => by cases h⟩
  · simp [Value.cells] at hcs
    obtain ⟨rfl, rfl, rfl⟩ := hcs
    have hz' : zs.length = cap := by simpa using hz
    have hAt : At W (some x) len ((zs.take len).map fun n => UInt8.ofNat n.toNat) := by
      refine ⟨by simp; omega, fun j hj => ?_⟩
      simp at hj
      have hc := hcell j (by omega)
      have hsp : x.spot = none := by
        have := World.cell?_spot hc
        unfold Addr.add at this
        split at this
        · exact this
        · rename_i hj0
          have hc0 := hcell 0 (by omega)
          have := World.cell?_spot hc0
          simpa [Addr.add] using this
      obtain ⟨xb, xo, xs⟩ := x
      simp only at hsp
      subst hsp
      refine ⟨xb, xo, rfl, ?_⟩
      rw [Addr.add_lit] at hc
      rw [hc]
      have hw := hwz (zs.getD j 0) (by rw [List.getD_eq_getElem?_getD, List.getElem?_eq_getElem (by omega)]; exact List.getElem_mem _)
      have hb := bounds_u8 hw
      simp only [bv, List.getElem_map, List.getElem_take]
      rw [List.getD_eq_getElem?_getD, List.getElem?_eq_getElem (by omega)] at hb ⊢
      simp only [Option.getD_some] at hb ⊢
      congr 2
      rw [UInt8.toNat_ofNat_of_lt' (by show _ < 256; omega)]
      omega
    refine ⟨_, hAt, (fun h => by cases h), hl, (by unfold maxLen at hm; simp at hm; omega), fun ad e hp => ?_⟩
    cases e
    obtain ⟨b, o, e, hc⟩ := hAt.cells 0 (by simp; omega)
    cases e
    exact World.block_lt_of_cell? W _ hc

set_option maxRecDepth 100000 in
theorem liftedB (os : Os) (started : os.Started) (H : Type) (enc : TypeId × Value → H) :
    ReturnsInHanded {} Tryd.checked os 4 .any (fun w args => (Rows.fnAppendThenNextRoundTripSpec.pre enc Tryd.prog Tryd.f4 [] false w args ∧ laidMetH Tryd.prog laidL w) ∧ sizedMet enc Tryd.prog Tryd.f4 (OpenSpec.ofChange Rows.fnAppendThenNextRoundTripSpec) false w args)
      (Rows.fnAppendThenNextRoundTripSpec.post enc Tryd.prog Tryd.f4 false true false false) := by
  refine returnsInHanded_of_change_and (C := Tryd.checked) (X := fun w _ => laidMetH Tryd.prog laidL w) (fun _ _ _ hh h => h.of_heap hh) ownKnobNone started (by kernel_rfl) Tryd.func4
    (ChangeSpec.witness_shaped (enc := enc) (C := Tryd.checked) (os := os) (X := fun w _ => laidMetH Tryd.prog laidL w) false (World.laidAll Tryd.prog os laidL) #[.slice none 0 0, .slice none 0 0, .slice none 0 0, .slice none 0 0] 8 (World.laidAll_os _ _ _)
      (World.shaped_of_ZipB (by kernel_rfl) (by kernel_rfl)) (by kernel_rfl) (by kernel_rfl) (by kernel_rfl)
      (by rw [MakeChecks.laidMetH_plain _ _ _ (by kernel_rfl)]; exact laidMet_laidAll _ (by kernel_rfl) (by kernel_rfl))) ?_
  intro W base args ds gs before hval0 hW _ _ _ _
  have hval : ∀ (j : Nat) t v, Tryd.f4.params[j]? = some t → args[j]? = some v → Value.okWide Tryd.prog W .any base t v := hval0
  have hW' := hW
  obtain ⟨p, q, hA0, hV, rfl, _, _⟩ := hW
  have hA : DataW.TrodAll enc Tryd.prog W 0 (fun _ => true) true Tryd.f4.params.toList args.toList ds p := hA0
  rw [Tryd.params4] at hA hval
  obtain ⟨v0, vs0, d0, ds0, p0, q0, hargs, rfl, rfl, h0, r0⟩ := trodAll_cons hA
  obtain ⟨v1, vs1, d1, ds1, p1, q1, rfl, rfl, rfl, h1, r1⟩ := trodAll_cons r0
  obtain ⟨v2, vs2, d2, ds2, p2, q2, rfl, rfl, rfl, h2, r2⟩ := trodAll_cons r1
  obtain ⟨v3, vs3, d3, ds3, p3, q3, rfl, rfl, rfl, h3, r3⟩ := trodAll_cons r2
  obtain ⟨rfl, rfl, rfl⟩ := trodAll_nil r3
  obtain rfl : args = #[v0, v1, v2, v3] := by cases args; simp_all
  obtain ⟨rfl, rfl⟩ := trodVars_none hV
  obtain ⟨a0, len0, cap0, rfl⟩ := okWide_slice Tryd.underlying22 (hval 0 22 v0 rfl rfl)
  obtain ⟨a1, len1, cap1, rfl⟩ := okWide_slice Tryd.underlying22 (hval 1 22 v1 rfl rfl)
  obtain ⟨a2, len2, cap2, rfl⟩ := okWide_slice Tryd.underlying22 (hval 2 22 v2 rfl rfl)
  have lt0 : ∀ x ∈ p0, x.block < W.heap.size := by obtain ⟨m, hm⟩ := h0; exact DataW.trod_lt m _ _ _ hm
  have lt1 : ∀ x ∈ p1, x.block < W.heap.size := by obtain ⟨m, hm⟩ := h1; exact DataW.trod_lt m _ _ _ hm
  obtain ⟨a3, len3, cap3, rfl⟩ := okWide_slice Tryd.underlying22 (hval 3 22 v3 rfl rfl)
  have lt3 : ∀ x ∈ p3, x.block < W.heap.size := by obtain ⟨m, hm⟩ := h3; exact DataW.trod_lt m _ _ _ hm
  have lt2 : ∀ x ∈ p2, x.block < W.heap.size := by obtain ⟨m, hm⟩ := h2; exact DataW.trod_lt m _ _ _ hm
  obtain ⟨l0, t0, z0, c0, m0, _⟩ := opened h0
  obtain ⟨l1, t1, z1, c1, m1, _⟩ := opened h1
  obtain ⟨l2, t2, z2, c2, m2, _⟩ := opened h2
  obtain ⟨l3, t3, z3, c3, m3, _⟩ := opened h3
  clear hA0 hval0
  refine (lawB_walk a0 a1 a2 a3 len0 cap0 len1 cap1 len2 cap2 len3 cap3 l0 l1 l2 l3 W t0 t1 t2 t3 z0 z1 z2 z3 (by omega) (by omega) (by omega) (by omega)).mono fun e W' ⟨he, bel⟩ => ?_
  subst he
  exact ⟨_, rfl, _, _, _, [], _, [], hW', trodAll_mk1 (shut_bool Tryd.underlying4 _), (trodAll_cons_mk (Below.trod laidOut (by kernel_rfl) (of_decide_eq_true (by kernel_rfl)) h0 bel lt0) (trodAll_cons_mk (Below.trod laidOut (by kernel_rfl) (of_decide_eq_true (by kernel_rfl)) h1 bel lt1) (trodAll_cons_mk (Below.trod laidOut (by kernel_rfl) (of_decide_eq_true (by kernel_rfl)) h2 bel lt2) (trodAll_cons_mk (Below.trod laidOut (by kernel_rfl) (of_decide_eq_true (by kernel_rfl)) h3 bel lt3) trodAll_mk0)))), rfl, bel.frame _, fun h => by cases h⟩

theorem holdsB : Rows.FnAppendThenNextRoundTripSaid :=
  OpenClaim.holds_of_wide 4 Tryd.f4 rfl rfl rfl rfl rfl rfl rfl ⟨rfl, rfl, rfl, rfl, rfl⟩ rfl rfl rfl rfl rfl (by kernel_rfl) Tryd.func4 (by kernel_rfl)
    (of_decide_eq_true (by kernel_rfl)) (by unfold Func.isWrapper; first | (rw [if_pos (by decide +kernel)]; kernel_rfl) | (rw [if_neg (by decide +kernel)]; exact ⟨rfl, rfl⟩))
    (fun os started H enc _ => liftedB os started H enc)

theorem cardB : Rows.FnAppendThenNextRoundTripCardSaid :=
  Claim7.holds_tied_plain_at .later [] [.data, .pinned] true Rows.fnAppendThenNextRoundTripCard.stood.harness false holdsB (fun _ h => by cases h) (by kernel_rfl) (fun _ h => by cases h) fnAppendThenNextRoundTrip_row_tie rfl ⟨rfl, rfl⟩ (by kernel_rfl) rfl
    (fun f fn hf hfn => by
      obtain rfl : f = 4 := Option.some.inj ((show Tryd.prog.funcNamed Rows.fnAppendThenNextRoundTripRow.func = some 4 by kernel_rfl).symm.trans hf) |>.symm
      obtain rfl : fn = Tryd.f4 := (Option.some.inj (Tryd.func4.symm.trans hfn)).symm
      exact ⟨by kernel_rfl, fun j t ht => by
        rw [Tryd.params4] at ht
        have hm : t ∈ [22, 22, 22, 22] := by simpa using Array.mem_of_getElem? ht
        have hall : ([22, 22, 22, 22].all fun u => !Tryd.prog.wantsStandIn u) = true := by kernel_rfl
        exact (show Tryd.prog.wantsStandIn t = false by simpa using List.all_eq_true.1 hall t hm)⟩)
    (by kernel_rfl)
end Go.Proofs.Qxb6602806aDoor
