/- THE ROW AND THE CARD of zzlaws_root_b1.FnBase64TextMatchesLineModel. -/
import Derived.Test.Qxb6603002aDoorLaw
import Derived.Test.Qxb6603002aDoorRows
import Derived.Test.Qxb6603002aDoorTie
import Derived.Test.Qxb6603002aDoorCards
import Derived.ProofKit
import Derived.OpenShut
import Derived.Lay
import Derived.LaidOnce
import Derived.SevenTiedAt
namespace Go.Proofs.Qxb6603002aDoor
open Go Go.ChangeShapes Go.WideShapes Go.ChangeAt Go.RowKit

theorem ownKnobNone : ownKnob Tryd.prog.godebug = none := by kernel_rfl
theorem laidOut : laidOutB Tryd.prog = true := by kernel_rfl
def laidL : List (String × DataW Unit) := Rows.fnBase64TextMatchesLineModelRow.laid

/-- A []byte that came in, as the walk wants it. -/
theorem opened {H : Type} {enc : TypeId × Value → H} {W : World} {a : Option Addr} {len cap : Nat} {d : DataW H} {p : List MemPlace} (h : DataW.Trod enc Tryd.prog W 0 (fun _ => true) true 22 (.slice a len cap) d p) :
    ∃ l : List UInt8, At W a len l ∧ (a = none → len = 0 ∧ cap = 0) ∧ len ≤ cap ∧ cap ≤ 9223372036854775807 ∧ (∀ ad, a = some ad → 0 < len → ad.block < W.heap.size) := by
  obtain ⟨fuel, hf⟩ := h
  rcases open_ints Tryd.underlying22 Tryd.underlying5 (by kernel_rfl) hf with ⟨hcs, _⟩ | ⟨x, l, c, zs, hcs, _, hl, hm, hz, _, hcell, hwz⟩
  · simp [Value.cells] at hcs
    obtain ⟨rfl, rfl, rfl⟩ := hcs
    exact ⟨[], At.nil _, fun _ => ⟨rfl, rfl⟩, Nat.le_refl _, by omega, fun _ h => by cases h⟩
  · simp [Value.cells] at hcs
    obtain ⟨rfl, rfl, rfl⟩ := hcs
    have hz' : zs.length = cap := by simpa using hz
    have hAt : At W (some x) len ((zs.take len).map fun n => UInt8.ofNat n.toNat) := by
      refine ⟨by simp; omega, fun j hj => ?_⟩
      simp at hj
      have hc := hcell j (by omega)
      have hsp : x.spot = none := by
        have := World.cell?_spot hc
        unfold Addr.add at this
        split at this
        · exact this
        · rename_i hj0
          have hc0 := hcell 0 (by omega)
          have := World.cell?_spot hc0
          simpa [Addr.add] using this
      obtain ⟨xb, xo, xs⟩ := x
      simp only at hsp
      subst hsp
      refine ⟨xb, xo, rfl, ?_⟩
      rw [Addr.add_lit] at hc
      rw [hc]
      have hw := hwz (zs.getD j 0) (by rw [List.getD_eq_getElem?_getD, List.getElem?_eq_getElem (by omega)]; exact List.getElem_mem _)
      have hb := bounds_u8 hw
      simp only [bv, List.getElem_map, List.getElem_take]
      rw [List.getD_eq_getElem?_getD, List.getElem?_eq_getElem (by omega)] at hb ⊢
      simp only [Option.getD_some] at hb ⊢
      congr 2
      rw [UInt8.toNat_ofNat_of_lt' (by show _ < 256; omega)]
      omega
    refine ⟨_, hAt, (fun h => by cases h), hl, (by unfold maxLen at hm; simp at hm; omega), fun ad e hp => ?_⟩
    cases e
    obtain ⟨b, o, e, hc⟩ := hAt.cells 0 (by simp; omega)
    cases e
    exact World.block_lt_of_cell? W _ hc

set_option maxRecDepth 100000 in
theorem liftedA (os : Os) (started : os.Started) (H : Type) (enc : TypeId × Value → H) :
    ReturnsInHanded {} Tryd.checked os 3 .any (fun w args => (Rows.fnBase64TextMatchesLineModelSpec.pre enc Tryd.prog Tryd.f3 [] false w args ∧ laidMetH Tryd.prog laidL w) ∧ sizedMet enc Tryd.prog Tryd.f3 (OpenSpec.ofChange Rows.fnBase64TextMatchesLineModelSpec) false w args)
      (Rows.fnBase64TextMatchesLineModelSpec.post enc Tryd.prog Tryd.f3 false true false false) := by
  refine returnsInHanded_of_change_and (C := Tryd.checked) (X := fun w _ => laidMetH Tryd.prog laidL w) (fun _ _ _ hh h => h.of_heap hh) ownKnobNone started (by kernel_rfl) Tryd.func3
    (ChangeSpec.witness_shaped (enc := enc) (C := Tryd.checked) (os := os) (X := fun w _ => laidMetH Tryd.prog laidL w) false (World.laidAll Tryd.prog os laidL) #[.slice none 0 0, .slice none 0 0, .int .i64 0] 8 (World.laidAll_os _ _ _)
      (World.shaped_of_ZipB (by kernel_rfl) (by kernel_rfl)) (by kernel_rfl) (by kernel_rfl) (by kernel_rfl)
      (by rw [MakeChecks.laidMetH_plain _ _ _ (by kernel_rfl)]; exact laidMet_laidAll _ (by kernel_rfl) (by kernel_rfl))) ?_
  intro W base args ds gs before hval0 hW _ _ _ _
  have hval : ∀ (j : Nat) t v, Tryd.f3.params[j]? = some t → args[j]? = some v → Value.okWide Tryd.prog W .any base t v := hval0
  have hW' := hW
  obtain ⟨p, q, hA0, hV, rfl, _, _⟩ := hW
  have hA : DataW.TrodAll enc Tryd.prog W 0 (fun _ => true) true Tryd.f3.params.toList args.toList ds p := hA0
  rw [Tryd.params3] at hA hval
  obtain ⟨v0, vs0, d0, ds0, p0, q0, hargs, rfl, rfl, h0, r0⟩ := trodAll_cons hA
  obtain ⟨v1, vs1, d1, ds1, p1, q1, rfl, rfl, rfl, h1, r1⟩ := trodAll_cons r0
  obtain ⟨v2, vs2, d2, ds2, p2, q2, rfl, rfl, rfl, h2, r2⟩ := trodAll_cons r1
  obtain ⟨rfl, rfl, rfl⟩ := trodAll_nil r2
  obtain rfl : args = #[v0, v1, v2] := by cases args; simp_all
  obtain ⟨rfl, rfl⟩ := trodVars_none hV
  obtain ⟨a0, len0, cap0, rfl⟩ := okWide_slice Tryd.underlying22 (hval 0 22 v0 rfl rfl)
  obtain ⟨a1, len1, cap1, rfl⟩ := okWide_slice Tryd.underlying22 (hval 1 22 v1 rfl rfl)
  have lt0 : ∀ x ∈ p0, x.block < W.heap.size := by obtain ⟨m, hm⟩ := h0; exact DataW.trod_lt m _ _ _ hm
  have lt1 : ∀ x ∈ p1, x.block < W.heap.size := by obtain ⟨m, hm⟩ := h1; exact DataW.trod_lt m _ _ _ hm
  obtain ⟨l0, t0, z0, c0, m0, _⟩ := opened h0
  obtain ⟨l1, t1, z1, c1, m1, _⟩ := opened h1
  obtain ⟨r, rfl, rfl, rfl, wr⟩ := open_int Tryd.underlying3 (hval 2 3 v2 rfl rfl) h2
  clear hA0 hval0
  refine (law_walk a0 a1 len0 cap0 len1 cap1 r l0 l1 W t0 t1 z0 z1 (by omega) (by omega) (bounds_i64 wr).1 (bounds_i64 wr).2).mono fun e W' ⟨he, bel⟩ => ?_
  subst he
  exact ⟨_, rfl, _, _, _, [], _, [], hW', trodAll_mk1 (shut_bool Tryd.underlying4 _), (trodAll_cons_mk (Below.trod laidOut (by kernel_rfl) (of_decide_eq_true (by kernel_rfl)) h0 bel lt0) (trodAll_cons_mk (Below.trod laidOut (by kernel_rfl) (of_decide_eq_true (by kernel_rfl)) h1 bel lt1) (trodAll_cons_mk (shut_int Tryd.underlying3 wr) trodAll_mk0))), rfl, bel.frame _, fun h => by cases h⟩

theorem holdsA : Rows.FnBase64TextMatchesLineModelSaid :=
  OpenClaim.holds_of_wide 3 Tryd.f3 rfl rfl rfl rfl rfl rfl rfl ⟨rfl, rfl, rfl, rfl, rfl⟩ rfl rfl rfl rfl rfl (by kernel_rfl) Tryd.func3 (by kernel_rfl)
    (of_decide_eq_true (by kernel_rfl)) (by unfold Func.isWrapper; first | (rw [if_pos (by decide +kernel)]; kernel_rfl) | (rw [if_neg (by decide +kernel)]; exact ⟨rfl, rfl⟩))
    (fun os started H enc _ => liftedA os started H enc)

theorem cardA : Rows.FnBase64TextMatchesLineModelCardSaid :=
  Claim7.holds_tied_plain_at .later [] [.data, .pinned] true Rows.fnBase64TextMatchesLineModelCard.stood.harness false holdsA (fun _ h => by cases h) (by kernel_rfl) (fun _ h => by cases h) fnBase64TextMatchesLineModel_row_tie rfl ⟨rfl, rfl⟩ (by kernel_rfl) rfl
    (fun f fn hf hfn => by
      obtain rfl : f = 3 := Option.some.inj ((show Tryd.prog.funcNamed Rows.fnBase64TextMatchesLineModelRow.func = some 3 by kernel_rfl).symm.trans hf) |>.symm
      obtain rfl : fn = Tryd.f3 := (Option.some.inj (Tryd.func3.symm.trans hfn)).symm
      exact ⟨by kernel_rfl, fun j t ht => by
        rw [Tryd.params3] at ht
        have hm : t ∈ [22, 22, 3] := by simpa using Array.mem_of_getElem? ht
        have hall : ([22, 22, 3].all fun u => !Tryd.prog.wantsStandIn u) = true := by kernel_rfl
        exact (show Tryd.prog.wantsStandIn t = false by simpa using List.all_eq_true.1 hall t hm)⟩)
    (by kernel_rfl)
end Go.Proofs.Qxb6603002aDoor
