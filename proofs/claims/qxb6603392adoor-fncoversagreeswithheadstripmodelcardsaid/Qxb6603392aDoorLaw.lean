import Derived.Test.Qxb6603392aDoorWalkB
namespace Go.Proofs.Qxb6603392aDoor
open Go Go.RowKit
theorem top_list : (⟨#[42]⟩ : ByteArray).data.toList = [42] := rfl
theorem ex_take (s : ByteArray) (k : Nat) : (s.extract 0 k).toList = s.data.toList.take k := by rw [Lib.toList_data, Lib.extract_from_zero]
theorem ex_drop (s : ByteArray) (k : Nat) : (s.extract k s.size).data.toList = s.data.toList.drop k := Lib.extract_to_end s k
set_option maxHeartbeats 2000000 in
theorem model_calls (g r : ByteArray) (w : World) (hg : g.size ≤ 1048576) (hr : r.size ≤ 1048576) :
    Calls Tryd.prog 8 #[.string g, .string r] w fun e w' => e = .returned (.bool (model g.data.toList r.data.toList)) ∧ w' = w := by
  have hvg := wf_calls g w hg
  have hvr := wf_calls r w hr
  obtain ⟨V, hV⟩ : ∃ V, model g.data.toList r.data.toList = V := ⟨_, rfl⟩
  rw [hV]
  have HV : Hid ((wf g.data.toList && wf r.data.toList && sl (segs g.data.toList) (segs r.data.toList)) = V) := hV
  clear hV
  cases hwg : wf g.data.toList with
  | false =>
    rw [hwg] at hvg
    have HF : Hid (V = false) := by show _ = _; rw [← HV.out, hwg]; rfl
    clear HV hwg
    go_enter Tryd.func8, Tryd.ntmps8
    go_wp2_with (go_at_call 13; refine hvg.mono ?_; rintro e w1 ⟨rfl, hw⟩; have hw := hw.symm; subst hw)
    go_ret
    exact ⟨by rw [HF.out]; rfl, by trivial⟩
  | true =>
    rw [hwg] at hvg
    cases hwr : wf r.data.toList with
    | false =>
      rw [hwr] at hvr
      have HF : Hid (V = false) := by show _ = _; rw [← HV.out, hwg, hwr]; rfl
      clear HV hwg hwr
      go_enter Tryd.func8, Tryd.ntmps8
      go_wp2_with (first | (go_at_call 13; refine hvg.mono ?_; clear hvg; rintro e w1 ⟨rfl, hw⟩; have hw := hw.symm; subst hw) | (go_at_call 13; refine hvr.mono ?_; rintro e w1 ⟨rfl, hw⟩; have hw := hw.symm; subst hw))
      go_ret
      exact ⟨by rw [HF.out]; rfl, by trivial⟩
    | true =>
      rw [hwr] at hvr
      have HF : Hid (sl (segs g.data.toList) (segs r.data.toList) = V) := by show _ = _; rw [← HV.out, hwg, hwr]; rfl
      clear HV hwg hwr
      go_enter Tryd.func8, Tryd.ntmps8
      go_wp2_with (first | (go_at_call 13; refine hvg.mono ?_; clear hvg; rintro e w1 ⟨rfl, hw⟩; have hw := hw.symm; subst hw) | (go_at_call 13; refine hvr.mono ?_; rintro e w1 ⟨rfl, hw⟩; have hw := hw.symm; subst hw))
      clear hvr
      go_loop [5, 6] (fun a b => ∃ A B : ByteArray, a = .string A ∧ b = .string B ∧ A.size ≤ 1048576 ∧ B.size ≤ 1048576 ∧ Hid (sl (segs A.data.toList) (segs B.data.toList) = V)) (fun a _ => match a with | .string A => A.size | _ => 0)
      case atStart => exact ⟨g, r, rfl, rfl, hg, hr, HF.out⟩
      case round =>
        obtain ⟨A, B, rfl, rfl, hA, hB, hsl⟩ := hrel
        have hfa := fc_calls A w hA
        have hfb := fc_calls B w hB
        obtain ⟨ka, hka⟩ : ∃ k, fc A.data.toList = k := ⟨_, rfl⟩
        obtain ⟨kb, hkb⟩ : ∃ k, fc B.data.toList = k := ⟨_, rfl⟩
        have hla := fc_le A.data.toList
        have hlb := fc_le B.data.toList
        rw [ulen, hka] at hla
        rw [ulen, hkb] at hlb
        unfold fcI at hfa hfb
        rw [ulen, hka] at hfa
        rw [ulen, hkb] at hfb
        by_cases h1 : ka < A.size
        · rw [if_pos h1] at hfa
          by_cases h2 : kb < B.size
          · rw [if_pos h2] at hfb
            have HK : Hid (sl (segs A.data.toList) (segs B.data.toList) = if (A.extract 0 ka).toList ≠ [42] ∧ (A.extract 0 ka).toList ≠ (B.extract 0 kb).toList then false else sl (segs (A.extract (ka + 1) A.size).data.toList) (segs (B.extract (kb + 1) B.size).data.toList)) := by
              show _ = _
              rw [sl_step (by rw [hka, ulen]; exact h1) (by rw [hkb, ulen]; exact h2), hka, hkb, ex_take, ex_take, ex_drop, ex_drop]
            clear hka hkb
            by_cases hS : (A.extract 0 ka).toList = [42]
            · have a1 : ((A.extract 0 ka).toList == [42]) = true := by rw [hS]; rfl
              have HT : Hid (sl (segs (A.extract (ka + 1) A.size).data.toList) (segs (B.extract (kb + 1) B.size).data.toList) = V) := by
                show _ = _
                rw [← hsl.out, HK.out, if_neg (fun h => h.1 hS)]
              clear hS HK hsl
              go_wp2_with (first | (go_at_call 14; refine hfa.mono ?_; clear hfa; rintro e w1 ⟨rfl, hw⟩; have hw := hw.symm; subst hw) | (go_at_call 14; refine hfb.mono ?_; rintro e w1 ⟨rfl, hw⟩; have hw := hw.symm; subst hw))
              exact ⟨⟨_, _, rfl, rfl, by rw [ByteArray.size_extract]; omega, by rw [ByteArray.size_extract]; omega, HT.out⟩, by show (A.extract _ _).size < A.size; rw [ByteArray.size_extract]; omega⟩
            · have a1 : ((A.extract 0 ka).toList == [42]) = false := by rw [beq_eq_false_iff_ne]; exact hS
              by_cases hX : (A.extract 0 ka).toList = (B.extract 0 kb).toList
              · have a2 : ((A.extract 0 ka).toList == (B.extract 0 kb).toList) = true := by rw [beq_iff_eq]; exact hX
                have HT : Hid (sl (segs (A.extract (ka + 1) A.size).data.toList) (segs (B.extract (kb + 1) B.size).data.toList) = V) := by
                  show _ = _
                  rw [← hsl.out, HK.out, if_neg (fun h => h.2 hX)]
                clear hS hX HK hsl
                go_wp2_with (first | (go_at_call 14; refine hfa.mono ?_; clear hfa; rintro e w1 ⟨rfl, hw⟩; have hw := hw.symm; subst hw) | (go_at_call 14; refine hfb.mono ?_; rintro e w1 ⟨rfl, hw⟩; have hw := hw.symm; subst hw))
                exact ⟨⟨_, _, rfl, rfl, by rw [ByteArray.size_extract]; omega, by rw [ByteArray.size_extract]; omega, HT.out⟩, by show (A.extract _ _).size < A.size; rw [ByteArray.size_extract]; omega⟩
              · have a2 : ((A.extract 0 ka).toList == (B.extract 0 kb).toList) = false := by rw [beq_eq_false_iff_ne]; exact hX
                have HT : Hid (V = false) := by
                  show _ = _
                  rw [← hsl.out, HK.out, if_pos ⟨hS, hX⟩]
                clear hS hX HK hsl
                go_wp2_with (first | (go_at_call 14; refine hfa.mono ?_; clear hfa; rintro e w1 ⟨rfl, hw⟩; have hw := hw.symm; subst hw) | (go_at_call 14; refine hfb.mono ?_; rintro e w1 ⟨rfl, hw⟩; have hw := hw.symm; subst hw))
                go_ret
                exact ⟨by rw [HT.out]; rfl, by trivial⟩
          · rw [if_neg h2] at hfb
            have HT : Hid (V = false) := by
              show _ = _
              rw [← hsl.out, sl_short (by rw [hka, ulen]; exact h1) (by rw [hkb, ulen]; omega)]
            clear hsl hka hkb
            go_wp2_with (first | (go_at_call 14; refine hfa.mono ?_; clear hfa; rintro e w1 ⟨rfl, hw⟩; have hw := hw.symm; subst hw) | (go_at_call 14; refine hfb.mono ?_; rintro e w1 ⟨rfl, hw⟩; have hw := hw.symm; subst hw))
            go_ret
            exact ⟨by rw [HT.out]; rfl, by trivial⟩
        · rw [if_neg h1] at hfa
          have HT : Hid (V = (A.toList == [42] || A.toList == B.toList)) := by
            show _ = _
            rw [← hsl.out, sl_last (by rw [hka, ulen]; omega), Lib.toList_data, Lib.toList_data]
          clear hsl hka hkb hfb
          by_cases hS : A.toList = [42]
          · have a1 : (A.toList == [42]) = true := by rw [hS]; rfl
            clear hS
            go_wp2_with (go_at_call 14; refine hfa.mono ?_; rintro e w1 ⟨rfl, hw⟩; have hw := hw.symm; subst hw)
            go_ret
            exact ⟨by rw [HT.out, a1]; rfl, by trivial⟩
          · have a1 : (A.toList == [42]) = false := by rw [beq_eq_false_iff_ne]; exact hS
            clear hS
            go_wp2_with (go_at_call 14; refine hfa.mono ?_; rintro e w1 ⟨rfl, hw⟩; have hw := hw.symm; subst hw)
            go_ret
            exact ⟨by rw [HT.out, a1]; rfl, by trivial⟩

/-- FnCoversAgreesWithHeadStripModel returns true. -/
theorem law3_calls (g r : ByteArray) (w : World) (hg : g.size ≤ 9223372036854775807) (hr : r.size ≤ 9223372036854775807) (hm : Mx w) :
    Calls Tryd.prog 3 #[.string g, .string r] w fun e w' => e = .returned (.bool true) ∧ Below w.heap.size w w' := by
  have hb := bytes2_calls g r w hg hr
  by_cases h1 : g.size + r.size ≤ 1048576
  · rw [decide_eq_true h1] at hb
    by_cases h2 : g.size ≤ 524288
    · by_cases h3 : r.size ≤ 524288
      · have hc := covers_calls g r w (by omega) (by omega) hm
        rw [covers_model] at hc
        have hmo := fun W => model_calls g r W (by omega) (by omega)
        generalize model g.data.toList r.data.toList = V at hc hmo
        cases V with
        | true =>
          go_enter Tryd.func3, Tryd.ntmps3
          go_wp2_with (first | (go_at_call 6; refine hb.mono ?_; rintro e w1 ⟨rfl, hw⟩; have hw := hw.symm; subst hw) | (go_at_call 7; refine hc.mono ?_; rintro e w2 ⟨rfl, hB⟩) | (go_at_call 8; refine (hmo _).mono ?_; rintro e w3 ⟨rfl, hw⟩; have hw := hw.symm; subst hw))
          go_ret
          exact ⟨rfl, hB⟩
        | false =>
          go_enter Tryd.func3, Tryd.ntmps3
          go_wp2_with (first | (go_at_call 6; refine hb.mono ?_; rintro e w1 ⟨rfl, hw⟩; have hw := hw.symm; subst hw) | (go_at_call 7; refine hc.mono ?_; rintro e w2 ⟨rfl, hB⟩) | (go_at_call 8; refine (hmo _).mono ?_; rintro e w3 ⟨rfl, hw⟩; have hw := hw.symm; subst hw))
          go_ret
          exact ⟨rfl, hB⟩
      · go_enter Tryd.func3, Tryd.ntmps3
        go_wp2_with (go_at_call 6; refine hb.mono ?_; rintro e w1 ⟨rfl, hw⟩; have hw := hw.symm; subst hw)
        go_ret
        exact ⟨rfl, Below.refl _ _⟩
    · go_enter Tryd.func3, Tryd.ntmps3
      go_wp2_with (go_at_call 6; refine hb.mono ?_; rintro e w1 ⟨rfl, hw⟩; have hw := hw.symm; subst hw)
      go_ret
      exact ⟨rfl, Below.refl _ _⟩
  · rw [decide_eq_false h1] at hb
    go_enter Tryd.func3, Tryd.ntmps3
    go_wp2_with (go_at_call 6; refine hb.mono ?_; rintro e w1 ⟨rfl, hw⟩; have hw := hw.symm; subst hw)
    go_ret
    exact ⟨rfl, Below.refl _ _⟩

/-- FnCoversSelfAndTopAgreeWithValid returns true. -/
theorem law4_calls (s : ByteArray) (w : World) (hs : s.size ≤ 9223372036854775807) (hm : Mx w) :
    Calls Tryd.prog 4 #[.string s] w fun e w' => e = .returned (.bool true) ∧ Below w.heap.size w w' := by
  have hb := bytes1_calls s w hs
  by_cases h1 : s.size ≤ 1048576
  · rw [decide_eq_true h1] at hb
    have hv := valid_calls s w h1 hm
    have hc := fun W (h : Mx W) => covers_calls s s W h1 h1 h
    have ht := fun W (h : Mx W) => covers_calls ⟨#[42]⟩ s W (by decide) h1 h
    rw [covers_self] at hc
    rw [top_list, covers_top] at ht
    generalize wf s.data.toList = V at hv hc ht
    cases V with
    | true =>
      go_enter Tryd.func4, Tryd.ntmps4
      go_wp2_with (first
        | (go_at_call 9; refine hb.mono ?_; rintro e w1 ⟨rfl, hw⟩; have hw := hw.symm; subst hw)
        | (go_at_call 10; refine hv.mono ?_; rintro e w2 ⟨rfl, hB⟩; have hm2 := hm.below hB; have hc2 := hc _ hm2; clear hc)
        | (go_at_call 7; refine hc2.mono ?_; clear hc2; rintro e w3 ⟨rfl, hB3⟩; have hm3 := hm2.below hB3; have ht2 := ht _ hm3; clear ht)
        | (go_at_call 7; refine ht2.mono ?_; clear ht2; rintro e w4 ⟨rfl, hB4⟩))
      go_ret
      exact ⟨rfl, (hB.trans (hB3.mono hB.size)).trans (hB4.mono (Nat.le_trans hB.size hB3.size))⟩
    | false =>
      go_enter Tryd.func4, Tryd.ntmps4
      go_wp2_with (first
        | (go_at_call 9; refine hb.mono ?_; rintro e w1 ⟨rfl, hw⟩; have hw := hw.symm; subst hw)
        | (go_at_call 10; refine hv.mono ?_; rintro e w2 ⟨rfl, hB⟩; have hm2 := hm.below hB; have hc2 := hc _ hm2; clear hc)
        | (go_at_call 7; refine hc2.mono ?_; clear hc2; rintro e w3 ⟨rfl, hB3⟩; have hm3 := hm2.below hB3; have ht2 := ht _ hm3; clear ht)
        | (go_at_call 7; refine ht2.mono ?_; clear ht2; rintro e w4 ⟨rfl, hB4⟩))
      go_ret
      exact ⟨rfl, (hB.trans (hB3.mono hB.size)).trans (hB4.mono (Nat.le_trans hB.size hB3.size))⟩
  · rw [decide_eq_false h1] at hb
    go_enter Tryd.func4, Tryd.ntmps4
    go_wp2_with (go_at_call 9; refine hb.mono ?_; rintro e w1 ⟨rfl, hw⟩; have hw := hw.symm; subst hw)
    go_ret
    exact ⟨rfl, Below.refl _ _⟩
end Go.Proofs.Qxb6603392aDoor
