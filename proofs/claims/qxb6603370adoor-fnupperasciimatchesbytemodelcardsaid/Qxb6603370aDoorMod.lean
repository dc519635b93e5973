/- zzUpperModel computes mapD upR. -/
import Derived.Test.Qxb6603370aDoorLenD
namespace Go.Proofs.Qxb6603370aDoor
open Go Go.RowKit
theorem at_bad (w : World) : At (w.alloc (.cells #[.int .u8 239, .int .u8 191, .int .u8 189] 5)) (some ⟨w.heap.size, 0, none⟩) 3 [239, 191, 189] := at_three w 239 191 189
theorem upB_low {c : UInt8} (h : 97 ≤ c.toNat) (h2 : c.toNat ≤ 122) : (c.toNat : Int) - 32 = ((upB c).toNat : Int) := by
  unfold upB
  rw [if_pos ⟨h, h2⟩, UInt8.toNat_sub_of_le]
  · simp; omega
  · rw [UInt8.le_iff_toNat_le]; simp; omega
theorem upB_same {c : UInt8} (h : ¬ (97 ≤ c.toNat ∧ c.toNat ≤ 122)) : upB c = c := by unfold upB; rw [if_neg h]
theorem take_next (s : ByteArray) (k j : Nat) (h : k + j < s.size) : (s.data.toList.drop k).take (j + 1) = (s.data.toList.drop k).take j ++ [s[k + j]] := by
  rw [List.take_add_one, List.getElem?_drop, getb s (k + j) h]
  rfl
/-- The rest of the text, from k on, ends at A. -/
def Res (s : ByteArray) (A : List UInt8) (k : Nat) (l : List UInt8) : Prop := l ++ Lib.mapD upR (s.data.toList.drop k) = A
theorem Res.step {s : ByteArray} {A : List UInt8} {k : Nat} {l : List UInt8} (h : Res s A k l) (hk : k < s.size) : Res s A (k + wid (s.data.toList.drop k)) (l ++ piece (s.data.toList.drop k)) ∧ 1 ≤ wid (s.data.toList.drop k) ∧ k + wid (s.data.toList.drop k) ≤ s.size := by
  have hne : s.data.toList.drop k ≠ [] := by
    intro e
    have := congrArg List.length e
    rw [List.length_drop, slen] at this
    simp at this
    omega
  obtain ⟨h1, h2, h3⟩ := map_step _ hne
  rw [List.length_drop, slen] at h3
  refine ⟨?_, h2, by omega⟩
  unfold Res at h ⊢
  rw [← h, h1, List.append_assoc, List.drop_drop]
theorem Res.done {s : ByteArray} {A : List UInt8} {k : Nat} {l : List UInt8} (h : Res s A k l) (hk : s.size ≤ k) : A = l := by
  unfold Res at h
  rw [List.drop_of_length_le (by rw [slen]; exact hk), Lib.mapD_nil, List.append_nil] at h
  exact h.symm

set_option maxHeartbeats 4000000 in
set_option maxRecDepth 100000 in
theorem model_calls (s : ByteArray) (w : World) (hs : s.size ≤ 1048576) :
    Calls Tryd.prog 8 #[.string s] w fun e w' => e = .returned (.string ⟨(Lib.mapD upR s.data.toList).toArray⟩) ∧ Below w.heap.size w w' := by
  obtain ⟨A, hA⟩ : ∃ A, Lib.mapD upR s.data.toList = A := ⟨_, rfl⟩
  rw [hA]
  have HA : Hid (Res s A 0 []) := hA
  clear hA
  go_enter Tryd.func8, Tryd.ntmps8
  go_wp2_with (at_make; refine wpList_make_b bt rfl _ _ rfl rfl rfl 0 (3 * s.size) (by omega) (by omega) (by omega) (by omega) ?_; intro w1 hown1 hg1; have acc := acc_made hown1 hg1; clear hown1 hg1)
  go_loopw [3, 4] (fun v i wr => ∃ p n' cap k l, k ≤ s.size ∧ v = .slice p n' cap ∧ i = .int .i64 (k : Nat) ∧ Acc w none wr p n' cap l ∧ n' ≤ 3 * k ∧ Res s A k l) (fun _ i _ => s.size - (intOf i).toNat)
  case atStart => exact ⟨_, _, _, 0, [], Nat.zero_le _, rfl, rfl, acc, Nat.zero_le _, HA.out⟩
  case round =>
    obtain ⟨p, n', cap, k, l, hk, rfl, rfl, ac, hn', hR⟩ := hrel
    have HR : Hid (Res s A k l) := hR
    clear hR acc HA
    by_cases hlt : k < s.size
    · have hu := ulen_calls s k wr hs hlt
      obtain ⟨u, hue⟩ : ∃ u, ulenAt s k = u := ⟨_, rfl⟩
      rw [hue] at hu
      have HU : Hid (ulen (s.data.toList.drop k) = u) := hue
      have HS : Hid (Res s A (k + wid (s.data.toList.drop k)) (l ++ piece (s.data.toList.drop k)) ∧ 1 ≤ wid (s.data.toList.drop k) ∧ k + wid (s.data.toList.drop k) ≤ s.size) := HR.out.step hlt
      clear hue HR
      by_cases hu0 : u = 0
      · subst hu0
        have HS2 : Hid (Res s A (k + 1) (l ++ [239, 191, 189])) := by
          have := HS.out.1
          unfold wid piece at this
          rwa [if_pos HU.out, if_pos HU.out] at this
        clear HS
        go_wp2_with (first
          | (go_at_call 13; refine hu.mono ?_; rintro e w2 ⟨rfl, hw⟩; have hw := hw.symm; subst hw)
          | (at_builtin; refine wpList_acc bt rfl (.tmp 21) (.tmp 22) (ac.alloc _) ((at_bad _).src bt _) rfl rfl rfl (by omega) ?_; intro p4 n4 cap4 w4 a4 hn4 hn5))
        go_roundw
        case rel => exact ⟨_, _, _, k + 1, _, by omega, rfl, by go_num, a4, by omega, HS2.out⟩
        case measure => simp [intOf]; omega
      · by_cases hu1 : u = 1
        · subst hu1
          have HS2 : Hid (Res s A (k + 1) (l ++ [upB s[k]])) := by
            have := HS.out.1
            unfold wid piece at this
            have hg : (s.data.toList.drop k).getD 0 0 = s[k] := getd s k 0 (by omega)
            rwa [if_neg (by rw [HU.out]; omega), if_pos HU.out, if_neg (by rw [HU.out]; omega), HU.out, hg] at this
          clear HS
          by_cases h1 : 97 ≤ s[k].toNat
          · by_cases h2 : s[k].toNat ≤ 122
            · have e1 := upB_low h1 h2
              go_wp2_with (first
                | (go_at_call 13; refine hu.mono ?_; rintro e w2 ⟨rfl, hw⟩; have hw := hw.symm; subst hw)
                | (at_builtin; refine wpList_acc bt rfl (.tmp 39) (.tmp 41) (ac.alloc _) ((at_one _ _).src bt _) rfl rfl rfl (by omega) ?_; intro p4 n4 cap4 w4 a4 hn4 hn5))
              go_roundw
              case rel => exact ⟨_, _, _, k + 1, _, by omega, rfl, by go_num, a4, by omega, HS2.out⟩
              case measure => simp [intOf]; omega
            · have HE : Hid (upB s[k] = s[k]) := upB_same (by omega)
              go_wp2_with (first
                | (go_at_call 13; refine hu.mono ?_; rintro e w2 ⟨rfl, hw⟩; have hw := hw.symm; subst hw)
                | (at_builtin; refine wpList_acc bt rfl (.tmp 39) (.tmp 41) (ac.alloc _) ((at_one _ _).src bt _) rfl rfl rfl (by omega) ?_; intro p4 n4 cap4 w4 a4 hn4 hn5))
              go_roundw
              case rel => exact ⟨_, _, _, k + 1, _, by omega, rfl, by go_num, a4, by omega, by rw [← HE.out]; exact HS2.out⟩
              case measure => simp [intOf]; omega
          · have HE : Hid (upB s[k] = s[k]) := upB_same (by omega)
            go_wp2_with (first
              | (go_at_call 13; refine hu.mono ?_; rintro e w2 ⟨rfl, hw⟩; have hw := hw.symm; subst hw)
              | (at_builtin; refine wpList_acc bt rfl (.tmp 39) (.tmp 41) (ac.alloc _) ((at_one _ _).src bt _) rfl rfl rfl (by omega) ?_; intro p4 n4 cap4 w4 a4 hn4 hn5))
            go_roundw
            case rel => exact ⟨_, _, _, k + 1, _, by omega, rfl, by go_num, a4, by omega, by rw [← HE.out]; exact HS2.out⟩
            case measure => simp [intOf]; omega
        · have HS2 : Hid (Res s A (k + u) (l ++ (s.data.toList.drop k).take u)) := by
            have := HS.out.1
            unfold wid piece at this
            rwa [if_neg (by rw [HU.out]; omega), if_neg (by rw [HU.out]; omega), if_neg (by rw [HU.out]; omega), HU.out] at this
          have hub : k + u ≤ s.size := by
            have := HS.out.2.2
            unfold wid at this
            rwa [if_neg (by rw [HU.out]; omega), HU.out] at this
          have z0 : ((u : Int) == 0) = false := by rw [beq_eq_false_iff_ne]; omega
          have z1 : ((u : Int) == 1) = false := by rw [beq_eq_false_iff_ne]; omega
          clear HS
          go_wp2_with (go_at_call 13; refine hu.mono ?_; rintro e w2 ⟨rfl, hw⟩; have hw := hw.symm; subst hw)
          clear hu
          rename World => W1
          go_loopw [3, 7] (fun v x wq => ∃ p2 n2 cap2 j, j ≤ u ∧ v = .slice p2 n2 cap2 ∧ x = .int .i64 (j : Nat) ∧ Acc w none wq p2 n2 cap2 (l ++ (s.data.toList.drop k).take j) ∧ n2 ≤ 3 * k + j) (fun _ x _ => u - (intOf x).toNat)
          case atStart => exact ⟨_, _, _, 0, Nat.zero_le _, rfl, rfl, ac.cast (by simp), by omega⟩
          case round =>
            obtain ⟨p2, n2, cap2, j, hj, rfl, rfl, ac2, hn2⟩ := hrel
            by_cases hju : j < u
            · have hkj : k + j < s.size := by omega
              have HT : Hid ((l ++ (s.data.toList.drop k).take j) ++ [s[k + j]] = l ++ (s.data.toList.drop k).take (j + 1)) := by show _ = _; rw [take_next s k j hkj, List.append_assoc]
              go_wp2_with (at_builtin; refine wpList_acc bt rfl (.tmp 50) (.tmp 56) (ac2.alloc _) ((at_one _ _).src bt _) rfl rfl rfl (by omega) ?_; intro p4 n4 cap4 w4 a4 hn4 hn5)
              go_roundw
              case rel => exact ⟨_, _, _, j + 1, by omega, rfl, by go_num, a4.cast HT.out, by omega⟩
              case measure => simp [intOf]; omega
            · obtain rfl : j = u := by omega
              go_wp2
              go_roundw
              case rel => exact ⟨_, _, _, k + j, _, by omega, rfl, by go_num, ac2, by omega, HS2.out⟩
              case measure => simp [intOf]; omega
    · have HF : Hid (A = l) := HR.out.done (by omega)
      have hconv := ac.own.at.str cap
      go_wp2
      go_ret
      exact ⟨by rw [HF.out]; rfl, grown_below ac.grown⟩
end Go.Proofs.Qxb6603370aDoor
