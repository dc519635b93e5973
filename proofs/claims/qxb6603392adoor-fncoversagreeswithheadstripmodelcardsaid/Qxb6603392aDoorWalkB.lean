import Derived.Test.Qxb6603392aDoorWalkA
namespace Go.Proofs.Qxb6603392aDoor
open Go Go.RowKit
theorem Parts.keep {w w' : World} {b n : Nat} {l : List UInt8} {zs : List ByteArray} (h : Parts w b n l zs) (hB : Below w.heap.size w w') : Parts w' b n l zs :=
  ⟨h.len, h.is, fun j hj => (hB.cell h.lt).trans (h.cell j hj), Nat.lt_of_lt_of_le h.lt hB.size⟩
theorem drop_at {zs : List ByteArray} {k : Nat} {x : ByteArray} (hx : zs.getD k ByteArray.empty = x) (h : k < zs.length) : (zs.map (·.data.toList)).drop k = x.toList :: (zs.map (·.data.toList)).drop (k + 1) := by
  rw [List.drop_eq_getElem_cons (by rw [List.length_map]; exact h)]
  congr 1
  rw [List.getElem_map, Lib.toList_data, ← hx, List.getD_eq_getElem?_getD, List.getElem?_eq_getElem h]
  rfl
set_option maxHeartbeats 2000000 in
theorem covers_calls (g r : ByteArray) (w : World) (hg : g.size ≤ 1048576) (hr : r.size ≤ 1048576) (hm : Mx w) :
    Calls Tryd.prog 7 #[.string g, .string r] w fun e w' => e = .returned (.bool (covers g.data.toList r.data.toList)) ∧ Below w.heap.size w w' := by
  have hv := valid_calls r w hr hm
  have HC : Hid (covers g.data.toList r.data.toList = (wf r.data.toList && cov (segs g.data.toList) (segs r.data.toList))) := rfl
  obtain ⟨V, hV⟩ : ∃ V, covers g.data.toList r.data.toList = V := ⟨_, rfl⟩
  rw [hV]
  have HV : Hid ((wf r.data.toList && cov (segs g.data.toList) (segs r.data.toList)) = V) := hV
  clear hV HC
  cases hwf : wf r.data.toList with
  | false =>
    rw [hwf] at hv
    have HF : Hid (V = false) := by show _ = _; rw [← HV.out, hwf]; rfl
    clear HV hwf
    go_enter Tryd.func7, Tryd.ntmps7
    go_wp2_with (go_at_call 10; refine hv.mono ?_; rintro e w1 ⟨rfl, hB⟩)
    go_ret
    exact ⟨by rw [HF.out]; rfl, hB⟩
  | true =>
    rw [hwf] at hv
    have HF : Hid (cov (segs g.data.toList) (segs r.data.toList) = V) := by show _ = _; rw [← HV.out, hwf]; rfl
    clear HV hwf
    go_enter Tryd.func7, Tryd.ntmps7
    go_wp2_with (first
      | (go_at_call 10; refine hv.mono ?_; rintro e w1 ⟨rfl, hB⟩; have hm1 := hm.below hB; have hs1 := split_calls r w1 hr hm1)
      | (go_at_call 12; refine hs1.mono ?_; rintro e w2 ⟨b1, n1, zr, rfl, hB1, hP1, hn1⟩; have hm2 := hm1.below hB1; have hs2 := split_calls g w2 hg hm2; clear hs1)
      | (go_at_call 12; refine hs2.mono ?_; rintro e w3 ⟨b2, n2, zg, rfl, hB2, hP2, hn2⟩))
    have hBB : Below w.heap.size w w3 := (hB.trans (hB1.mono hB.size)).trans (hB2.mono (Nat.le_trans hB.size hB1.size))
    have hP1' := hP1.keep hB2
    clear hv hs2 hm hm1 hm2 hP1 hB hB1 hB2
    have HG : Hid (zg.map (·.data.toList) = segs g.data.toList) := hP2.is
    have HRr : Hid (zr.map (·.data.toList) = segs r.data.toList) := hP1'.is
    have HLg : Hid (zg.length = n2) := hP2.len
    have HLr : Hid (zr.length = n1) := hP1'.len
    go_loop [18] (fun i => ∃ k : Nat, k ≤ n2 ∧ k ≤ n1 ∧ i = .int .i64 k ∧ Hid (cov ((zg.map (·.data.toList)).drop k) ((zr.map (·.data.toList)).drop k) = V)) (fun i => n2 - (intOf i).toNat)
    case atStart => exact ⟨0, Nat.zero_le _, Nat.zero_le _, rfl, by rw [HG.out, HRr.out]; exact HF.out⟩
    case round =>
      obtain ⟨k, hk, hk1, rfl, hcov⟩ := hrel
      by_cases hlt : k < n2
      · have hcg := hP2.cell k hlt
        obtain ⟨x, hx⟩ : ∃ x, zg.getD k ByteArray.empty = x := ⟨_, rfl⟩
        rw [hx] at hcg
        by_cases hk2 : k < n1
        · have hcr := hP1'.cell k hk2
          obtain ⟨y, hy⟩ : ∃ y, zr.getD k ByteArray.empty = y := ⟨_, rfl⟩
          rw [hy] at hcr
          have g1 : ((k : Int) == (n1 : Int)) = false := by rw [beq_eq_false_iff_ne]; omega
          have HD1 : Hid ((zg.map (·.data.toList)).drop k = x.toList :: (zg.map (·.data.toList)).drop (k + 1)) := drop_at hx (by rw [HLg.out]; exact hlt)
          have HD2 : Hid ((zr.map (·.data.toList)).drop k = y.toList :: (zr.map (·.data.toList)).drop (k + 1)) := drop_at hy (by rw [HLr.out]; exact hk2)
          clear hx hy
          have HE : Hid (cov (x.toList :: (zg.map (·.data.toList)).drop (k + 1)) (y.toList :: (zr.map (·.data.toList)).drop (k + 1)) = V) := by
            show _ = _; rw [← hcov.out, HD1.out, HD2.out]
          clear hcov HD1 HD2
          by_cases hA : x.toList = [42]
          · have a1 : (x.toList == [42]) = true := by rw [hA]; rfl
            by_cases hL : k = n2 - 1
            · have a2 : ((k : Int) == (n2 : Int) - 1) = true := by rw [beq_iff_eq]; omega
              have HT : Hid (V = true) := by
                show _ = _
                rw [← HE.out, cov, if_pos ⟨hA, List.drop_of_length_le (by rw [List.length_map, HLg.out]; omega)⟩]
              clear hA hL
              go_wp2
              go_ret
              exact ⟨by rw [HT.out]; rfl, hBB⟩
            · have a2 : ((k : Int) == (n2 : Int) - 1) = false := by rw [beq_eq_false_iff_ne]; omega
              have HT : Hid (cov ((zg.map (·.data.toList)).drop (k + 1)) ((zr.map (·.data.toList)).drop (k + 1)) = V) := by
                show _ = _
                rw [← HE.out, cov, if_neg (fun h => by have := congrArg List.length h.2; rw [List.length_drop, List.length_map, HLg.out] at this; simp at this; omega), if_neg (fun h => h.1 hA)]
              clear hA hL
              go_wp2
              go_round
              case rel => exact ⟨k + 1, by omega, by omega, by go_num, HT.out⟩
              case measure => simp [intOf]; omega
          · have a1 : (x.toList == [42]) = false := by rw [beq_eq_false_iff_ne]; exact hA
            by_cases hX : x.toList = y.toList
            · have a2 : (x.toList == y.toList) = true := by rw [beq_iff_eq]; exact hX
              have HT : Hid (cov ((zg.map (·.data.toList)).drop (k + 1)) ((zr.map (·.data.toList)).drop (k + 1)) = V) := by
                show _ = _
                rw [← HE.out, cov, if_neg (fun h => hA h.1), if_neg (fun h => h.2 hX)]
              clear hA hX
              go_wp2
              go_round
              case rel => exact ⟨k + 1, by omega, by omega, by go_num, HT.out⟩
              case measure => simp [intOf]; omega
            · have a2 : (x.toList == y.toList) = false := by rw [beq_eq_false_iff_ne]; exact hX
              have HT : Hid (V = false) := by
                show _ = _
                rw [← HE.out, cov, if_neg (fun h => hA h.1), if_pos ⟨hA, hX⟩]
              clear hA hX
              go_wp2
              go_ret
              exact ⟨by rw [HT.out]; rfl, hBB⟩
        · have g1 : ((k : Int) == (n1 : Int)) = true := by rw [beq_iff_eq]; omega
          have HT : Hid (V = false) := by
            show _ = _
            rw [← hcov.out, drop_at hx (by rw [HLg.out]; exact hlt), List.drop_of_length_le (l := zr.map _) (by rw [List.length_map, HLr.out]; omega)]
            rfl
          clear hx hcov
          go_wp2
          go_ret
          exact ⟨by rw [HT.out]; rfl, hBB⟩
      · have HT : Hid (V = decide (n2 = n1)) := by
          show _ = _
          rw [← hcov.out, List.drop_of_length_le (l := zg.map _) (by rw [List.length_map, HLg.out]; omega)]
          simp only [cov]
          rw [Bool.eq_iff_iff, List.isEmpty_iff, decide_eq_true_eq, List.drop_eq_nil_iff, List.length_map, HLr.out]
          omega
        clear hcov
        go_wp2
        go_ret
        refine ⟨?_, hBB⟩
        rw [HT.out]
        show Ending.returned (.bool ((n2 : Int) == (n1 : Int))) = _
        congr 2
        rw [Bool.eq_iff_iff, beq_iff_eq, decide_eq_true_eq]
        omega

end Go.Proofs.Qxb6603392aDoor
