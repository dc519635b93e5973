/- THE ROW AND THE CARD of zzlaws_record_b1.FnUpperASCIIMatchesByteModel. -/
import Derived.Test.Qxb6603370aDoorLaw
import Derived.Test.Qxb6603370aDoorRows
import Derived.Test.Qxb6603370aDoorTie
import Derived.Test.Qxb6603370aDoorCards
import Derived.ProofKit
import Derived.OpenShut
import Derived.Lay
import Derived.LaidOnce
import Derived.SevenTiedAt
import Derived.ChangeMaps5
import Derived.Lib.LaidU8T
import Derived.PinnedBridge
namespace Go.Proofs.Qxb6603370aDoor
open Go Go.ChangeShapes Go.WideShapes Go.ChangeAt Go.RowKit Go.ChangeMaps

theorem ownKnobNone : ownKnob Tryd.prog.godebug = none := by kernel_rfl
theorem laidOut : laidOutB Tryd.prog = true := by kernel_rfl
def laidL : List (String × DataW Unit) := Rows.fnUpperASCIIMatchesByteModelRow.laid

theorem u8types : U8Types Tryd.prog Tryd.lays230_ren := ⟨Tryd.lays230.t5, Tryd.lays230.t119, Tryd.lays230.t138, Tryd.lays230.t139⟩
theorem u8extra : U8Extra Tryd.prog Tryd.lays230_ren := ⟨by kernel_rfl, by kernel_rfl, by kernel_rfl, by kernel_rfl, by kernel_rfl, by kernel_rfl, by kernel_rfl⟩
/-- The two listed tables, as strings.Map's contract wants them. -/
theorem tabs_of (W : World) (h : laidMetH Tryd.prog laidL W) : Lib.Utf8Tabs 0 1 W := by
  rw [MakeChecks.laidMetH_plain _ _ _ (by kernel_rfl)] at h
  have h3 : Lib.VarReads Tryd.prog W "unicode/utf8.first" Lib.firstData := by
    rw [← Pinned.utf8First_eq]
    exact Lib.laidMet.reads h (.tail _ (.head _))
  have h4 : Lib.VarReads Tryd.prog W "unicode/utf8.acceptRanges" Lib.acceptData := by
    have e : (Rows.laid_unicode_utf8_acceptRanges : DataW Unit) = Lib.acceptData := by kernel_rfl
    rw [← e]
    exact Lib.laidMet.reads h (.head _)
  exact utf8Tabs_of_readsT u8types u8extra h3 h4

set_option maxRecDepth 100000 in
theorem liftedA (os : Os) (started : os.Started) (H : Type) (enc : TypeId × Value → H) :
    ReturnsInHanded {} Tryd.checked os 3 .any (fun w args => (Rows.fnUpperASCIIMatchesByteModelSpec.pre enc Tryd.prog Tryd.f3 [] false w args ∧ laidMetH Tryd.prog laidL w) ∧ sizedMet enc Tryd.prog Tryd.f3 (OpenSpec.ofChange Rows.fnUpperASCIIMatchesByteModelSpec) false w args)
      (Rows.fnUpperASCIIMatchesByteModelSpec.post enc Tryd.prog Tryd.f3 false true false false) := by
  refine returnsInHanded_of_change_and (C := Tryd.checked) (X := fun w _ => laidMetH Tryd.prog laidL w) (fun _ _ _ hh h => h.of_heap hh) ownKnobNone started (by kernel_rfl) Tryd.func3
    (ChangeSpec.witness_shaped (enc := enc) (C := Tryd.checked) (os := os) (X := fun w _ => laidMetH Tryd.prog laidL w) false (World.laidAll Tryd.prog os laidL) #[.string ⟨#[]⟩] 8 (World.laidAll_os _ _ _)
      (World.shaped_of_ZipB (by kernel_rfl) (by kernel_rfl)) (by kernel_rfl) (by kernel_rfl) (by kernel_rfl)
      (by rw [MakeChecks.laidMetH_plain _ _ _ (by kernel_rfl)]; exact laidMet_laidAll _ (by kernel_rfl) (by kernel_rfl))) ?_
  intro W base args ds gs before hval0 hW _ _ hlaid _
  have hval : ∀ (j : Nat) t v, Tryd.f3.params[j]? = some t → args[j]? = some v → Value.okWide Tryd.prog W .any base t v := hval0
  have hW' := hW
  obtain ⟨p, q, hA0, hV, rfl, _, _⟩ := hW
  have hA : DataW.TrodAll enc Tryd.prog W 0 (fun _ => true) true Tryd.f3.params.toList args.toList ds p := hA0
  rw [Tryd.params3] at hA hval
  obtain ⟨v0, vs0, d0, ds0, p0, q0, hargs, rfl, rfl, h0, r0⟩ := trodAll_cons hA
  obtain ⟨rfl, rfl, rfl⟩ := trodAll_nil r0
  obtain rfl : args = #[v0] := by cases args; simp_all
  obtain ⟨rfl, rfl⟩ := trodVars_none hV
  obtain ⟨s, rfl, rfl, rfl, hs⟩ := open_string Tryd.underlying9 (hval 0 9 v0 rfl rfl) h0
  clear hA0 hval0
  refine (law_calls s W (by unfold maxLen at hs; omega) (tabs_of W hlaid)).mono fun e W' ⟨he, bel⟩ => ?_
  subst he
  exact ⟨_, rfl, _, _, _, [], _, [], hW', trodAll_mk1 (shut_bool Tryd.underlying4 _), trodAll_cons_mk (shut_string Tryd.underlying9 hs) trodAll_mk0, rfl, bel.frame _, fun h => by cases h⟩

theorem holdsA : Rows.FnUpperASCIIMatchesByteModelSaid :=
  OpenClaim.holds_of_wide 3 Tryd.f3 rfl rfl rfl rfl rfl rfl rfl ⟨rfl, rfl, rfl, rfl, rfl⟩ rfl rfl rfl rfl rfl (by kernel_rfl) Tryd.func3 (by kernel_rfl)
    (of_decide_eq_true (by kernel_rfl)) (by unfold Func.isWrapper; first | (rw [if_pos (by decide +kernel)]; kernel_rfl) | (rw [if_neg (by decide +kernel)]; exact ⟨rfl, rfl⟩))
    (fun os started H enc _ => liftedA os started H enc)

theorem cardA : Rows.FnUpperASCIIMatchesByteModelCardSaid :=
  Claim7.holds_tied_plain_at .later [] [.data, .pinned] true Rows.fnUpperASCIIMatchesByteModelCard.stood.harness false holdsA (fun _ h => by cases h) (by kernel_rfl) (fun _ h => by cases h) fnUpperASCIIMatchesByteModel_row_tie rfl ⟨rfl, rfl⟩ (by kernel_rfl) rfl
    (fun f fn hf hfn => by
      obtain rfl : f = 3 := Option.some.inj ((show Tryd.prog.funcNamed Rows.fnUpperASCIIMatchesByteModelRow.func = some 3 by kernel_rfl).symm.trans hf) |>.symm
      obtain rfl : fn = Tryd.f3 := (Option.some.inj (Tryd.func3.symm.trans hfn)).symm
      exact ⟨by kernel_rfl, fun j t ht => by
        rw [Tryd.params3] at ht
        have hm : t ∈ [9] := by simpa using Array.mem_of_getElem? ht
        have hall : ([9].all fun u => !Tryd.prog.wantsStandIn u) = true := by kernel_rfl
        exact (show Tryd.prog.wantsStandIn t = false by simpa using List.all_eq_true.1 hall t hm)⟩)
    (by kernel_rfl)
end Go.Proofs.Qxb6603370aDoor
