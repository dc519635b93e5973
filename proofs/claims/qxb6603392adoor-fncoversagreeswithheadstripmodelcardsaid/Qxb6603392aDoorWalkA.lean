/- The walks of the small functions. -/
import Derived.Test.Qxb6603392aDoorLeaf
namespace Go.Proofs.Qxb6603392aDoor
open Go Go.RowKit

theorem bytes2_calls (s r : ByteArray) (w : World) (hs : s.size ≤ 9223372036854775807) (hr : r.size ≤ 9223372036854775807) :
    Calls Tryd.prog 6 #[.string s, .string r] w fun e w' => e = .returned (.bool (decide (s.size + r.size ≤ 1048576))) ∧ w' = w := by
  by_cases h1 : s.size ≤ 1048576
  · by_cases h2 : r.size ≤ 1048576
    · by_cases h3 : s.size + r.size ≤ 1048576
      · go_enter Tryd.func6, Tryd.ntmps6
        go_wp2
        go_ret
        exact ⟨by simp [h3], rfl⟩
      · go_enter Tryd.func6, Tryd.ntmps6
        go_wp2
        go_ret
        exact ⟨by simp [h3], rfl⟩
    · go_enter Tryd.func6, Tryd.ntmps6
      go_wp2
      go_ret
      exact ⟨by simp; omega, rfl⟩
  · go_enter Tryd.func6, Tryd.ntmps6
    go_wp2
    go_ret
    exact ⟨by simp; omega, rfl⟩
theorem bytes1_calls (s : ByteArray) (w : World) (hs : s.size ≤ 9223372036854775807) :
    Calls Tryd.prog 9 #[.string s] w fun e w' => e = .returned (.bool (decide (s.size ≤ 1048576))) ∧ w' = w := by
  by_cases h1 : s.size ≤ 1048576
  · go_enter Tryd.func9, Tryd.ntmps9
    go_wp2
    go_ret
    exact ⟨by simp [h1], rfl⟩
  · go_enter Tryd.func9, Tryd.ntmps9
    go_wp2
    go_ret
    exact ⟨by simp; omega, rfl⟩

theorem full_contains (zs : List ByteArray) (l : List (List UInt8)) (h : zs.map (·.data.toList) = l) : (!Lib.containsS zs ⟨#[]⟩) = full l := by
  subst h
  rw [Bool.eq_iff_iff, Bool.not_eq_true', ← Bool.not_eq_true, Lib.containsS_iff]
  simp only [full, List.all_map, List.all_eq_true, Function.comp]
  constructor
  · intro h x hx
    cases hd : x.data.toList with
    | nil =>
      exfalso
      apply h
      have : x = ⟨#[]⟩ := by
        cases x with
        | mk d => simp at hd; rw [hd]
      rw [← this]
      exact hx
    | cons _ _ => rfl
  · intro h hx
    have := h _ hx
    simp at this
theorem valid_calls (s : ByteArray) (w : World) (hs : s.size ≤ 1048576) (hm : Mx w) :
    Calls Tryd.prog 10 #[.string s] w fun e w' => e = .returned (.bool (wf s.data.toList)) ∧ Below w.heap.size w w' := by
  have hsp := split_calls s w hs hm
  go_enter Tryd.func10, Tryd.ntmps10
  go_wp2_with (first
    | (go_at_call 12; refine hsp.mono ?_; rintro e w1 ⟨b, n, zs, rfl, hB, hP, hn⟩)
    | (go_at_call 15; refine (Tryd.slices_Contains_string b 0 n n zs ⟨#[]⟩ w1 (Nat.le_of_eq hP.len.symm) (by omega) (fun j hj => by rw [Nat.zero_add]; exact hP.cell j (by rw [← hP.len]; exact hj))).mono ?_; rintro e w' ⟨rfl, hw⟩; have hw := hw.symm; subst hw))
  go_ret
  refine ⟨?_, hB⟩
  rw [List.take_of_length_le (Nat.le_of_eq hP.len), wf, full_contains zs _ hP.is]
  rfl
theorem getb (s : ByteArray) (k : Nat) (h : k < s.size) : s.data.toList[k]? = some s[k] := by
  simp [ByteArray.getElem_eq_getElem_data]
theorem ulen (s : ByteArray) : s.data.toList.length = s.size := (Lib.size_eq s).symm
theorem beq8 {c : UInt8} {k : Nat} (hk : k < 256) (h : c = UInt8.ofNat k) : ((c.toNat : Int) == (k : Int)) = true := by
  subst h
  have : (UInt8.ofNat k).toNat = k := by simp [Nat.mod_eq_of_lt hk]
  rw [this]; simp
theorem bne8 {c : UInt8} {k : Nat} (h : c ≠ UInt8.ofNat k) : ((c.toNat : Int) == (k : Int)) = false := by
  rw [beq_eq_false_iff_ne]
  intro e
  apply h
  have e2 : c.toNat = k := by omega
  rw [← e2]
  simp
def fcI (l : List UInt8) : Int := if fc l < l.length then (fc l : Int) else -1
set_option maxHeartbeats 1000000 in
theorem fc_calls (s : ByteArray) (w : World) (hs : s.size ≤ 1048576) :
    Calls Tryd.prog 14 #[.string s] w fun e w' => e = .returned (.int .i64 (fcI s.data.toList)) ∧ w' = w := by
  obtain ⟨R, hR⟩ : ∃ R, fcI s.data.toList = R := ⟨_, rfl⟩
  have HR : Hid (fcI s.data.toList = R) := hR
  rw [hR]
  clear hR
  go_enter Tryd.func14, Tryd.ntmps14
  go_wp2
  go_loop [3] (fun i => ∃ k : Nat, k ≤ s.size ∧ i = .int .i64 k ∧ Hid (∀ j, j < k → s.data.toList[j]? ≠ some 58)) (fun i => s.size - (intOf i).toNat)
  case atStart => exact ⟨0, Nat.zero_le _, rfl, fun j hj => absurd hj (Nat.not_lt_zero _)⟩
  case round =>
    obtain ⟨k, hk, rfl, hne⟩ := hrel
    by_cases hlt : k < s.size
    · have hg := getb s k hlt
      have HG : Hid (s.data.toList[k]? = some s[k]) := hg
      clear hg
      by_cases h58 : s[k] = 58
      · have q : ((s[k].toNat : Int) == 58) = true := beq8 (k := 58) (by omega) h58
        have H58 : Hid (s[k] = 58) := h58
        clear h58
        go_wp2
        go_ret
        refine ⟨?_, rfl⟩
        have e : fc s.data.toList = k := fc_at (by rw [ulen]; exact hlt) hne.out (by rw [HG.out, H58.out])
        rw [← HR.out, fcI, e, if_pos (by rw [ulen]; exact hlt)]
        rfl
      · have q : ((s[k].toNat : Int) == 58) = false := bne8 (k := 58) h58
        have H58 : Hid (s[k] ≠ 58) := h58
        clear h58
        go_wp2
        go_round
        case rel =>
          refine ⟨k + 1, by omega, by go_num, fun j hj => ?_⟩
          by_cases hjk : j = k
          · subst hjk
            rw [HG.out]
            intro e
            exact H58.out (Option.some.inj e)
          · exact hne.out j (by omega)
        case measure => simp [intOf]; omega
    · go_wp2
      go_ret
      refine ⟨?_, rfl⟩
      have hn : fc s.data.toList = s.data.toList.length := fc_none (fun j hj => hne.out j (by rw [ulen] at hj; omega))
      rw [← HR.out, fcI, hn, if_neg (by omega)]
      rfl

set_option maxHeartbeats 1000000 in
theorem wf_calls (s : ByteArray) (w : World) (hs : s.size ≤ 1048576) :
    Calls Tryd.prog 13 #[.string s] w fun e w' => e = .returned (.bool (wf s.data.toList)) ∧ w' = w := by
  obtain ⟨R, hR⟩ : ∃ R, wf s.data.toList = R := ⟨_, rfl⟩
  have HR : Hid (wfF true s.data.toList = R) := by show _ = _; rw [wfF_true]; exact hR
  rw [hR]
  clear hR
  by_cases h0 : s.size = 0
  · go_enter Tryd.func13, Tryd.ntmps13
    go_wp2
    go_ret
    refine ⟨?_, rfl⟩
    have : s.data.toList = [] := List.eq_nil_of_length_eq_zero (by rw [ulen]; exact h0)
    rw [← HR.out, this]
    rfl
  · have h0' : ((s.size : Int) == 0) = false := by rw [beq_eq_false_iff_ne]; omega
    go_enter Tryd.func13, Tryd.ntmps13
    go_wp2
    go_loop [3] (fun i => ∃ (k : Nat) (b : Bool), k ≤ s.size ∧ i = .int .i64 k ∧ (k = 0 → b = true) ∧ (∀ h : k - 1 < s.size, 0 < k → b = decide (s[k - 1] = 58)) ∧ (k = s.size → b = false) ∧ Hid (wfF b (s.data.toList.drop k) = R)) (fun i => s.size - (intOf i).toNat)
    case atStart => exact ⟨0, true, Nat.zero_le _, rfl, fun _ => rfl, fun _ h => absurd h (Nat.lt_irrefl _), fun h => absurd h.symm h0, HR.out⟩
    case round =>
      obtain ⟨k, b, hk, rfl, hb0, hb1, hb2, hrest⟩ := hrel
      by_cases hlt : k < s.size
      · have HD : Hid (s.data.toList.drop k = s[k] :: s.data.toList.drop (k + 1)) := by
          show _ = _
          have h' : k < s.data.toList.length := by rw [ulen]; exact hlt
          rw [List.drop_eq_getElem_cons h']
          congr 1
        by_cases h58 : s[k] = 58
        · have q : ((s[k].toNat : Int) == 58) = true := beq8 (k := 58) (by omega) h58
          have HN : Hid (b = true → R = false) := by
            intro e
            rw [← hrest.out, HD.out, h58, e]
            rfl
          have HN2 : Hid (b = false → wfF true (s.data.toList.drop (k + 1)) = R) := by
            intro e
            rw [← hrest.out, HD.out, h58, e]
            rfl
          have H58 : Hid (s[k] = 58) := h58
          clear hrest h58 HD
          by_cases hk0 : k = 0
          · have hR : Hid (R = false) := HN.out (hb0 hk0)
            subst hk0
            clear hb0 hb1 hb2
            go_wp2
            go_ret
            exact ⟨by rw [hR.out]; rfl, rfl⟩
          · by_cases hkl : k = s.size - 1
            · have hR : Hid (R = false) := by
                show R = false
                cases b with
                | true => exact HN.out rfl
                | false =>
                  rw [← HN2.out rfl, List.drop_of_length_le (by rw [ulen]; omega)]
                  rfl
              have g1 : ((k : Int) == 0) = false := by rw [beq_eq_false_iff_ne]; omega
              have g2 : ((k : Int) == (s.size : Int) - 1) = true := by rw [beq_iff_eq]; omega
              clear hb0 hb1 hb2 hkl
              go_wp2
              go_ret
              exact ⟨by rw [hR.out]; rfl, rfl⟩
            · have hk1 : k - 1 < s.size := by omega
              have hb := hb1 hk1 (by omega)
              obtain ⟨j, rfl⟩ : ∃ j, k = j + 1 := ⟨k - 1, by omega⟩
              have g1 : ((j : Int) + 1 == 0) = false := by rw [beq_eq_false_iff_ne]; omega
              have g2 : ((j : Int) + 1 == (s.size : Int) - 1) = false := by rw [beq_eq_false_iff_ne]; omega
              clear hb0 hb1 hb2
              simp only [Nat.add_sub_cancel] at hb hk1
              by_cases hp : s[j] = 58
              · have r : ((s[j].toNat : Int) == 58) = true := beq8 (k := 58) (by omega) hp
                have hR : Hid (R = false) := HN.out (by rw [hb]; simpa using hp)
                clear hb hp
                go_wp2
                go_ret
                exact ⟨by rw [hR.out]; rfl, rfl⟩
              · have r : ((s[j].toNat : Int) == 58) = false := bne8 (k := 58) hp
                have HX : Hid (j + 1 ≠ s.size - 1) := hkl
                clear hkl
                have HR2 : Hid (wfF true (s.data.toList.drop (j + 1 + 1)) = R) := HN2.out (by rw [hb]; simpa using hp)
                clear hb hp
                go_wp2
                go_round
                case rel => exact ⟨j + 2, true, by omega, by go_num, fun _ => rfl, fun _ _ => by simpa using H58.out, fun h => by have := HX.out; omega, HR2.out⟩
                case measure => simp [intOf]; omega
        · have q : ((s[k].toNat : Int) == 58) = false := bne8 (k := 58) h58
          have HR2 : Hid (wfF false (s.data.toList.drop (k + 1)) = R) := by
            show _ = _
            rw [← hrest.out, HD.out]
            simp only [wfF, if_neg h58]
          have H58 : Hid (s[k] ≠ 58) := h58
          clear hrest h58 HD hb0 hb1 hb2
          go_wp2
          go_round
          case rel => exact ⟨k + 1, false, by omega, by go_num, fun h => by omega, fun _ _ => by simpa using H58.out, fun _ => rfl, HR2.out⟩
          case measure => simp [intOf]; omega
      · have hks : k = s.size := by omega
        have hb := hb2 hks
        subst hb
        clear hb0 hb1 hb2
        go_wp2
        go_ret
        refine ⟨?_, rfl⟩
        rw [← hrest.out, List.drop_of_length_le (by rw [ulen]; omega)]
        rfl
end Go.Proofs.Qxb6603392aDoor
