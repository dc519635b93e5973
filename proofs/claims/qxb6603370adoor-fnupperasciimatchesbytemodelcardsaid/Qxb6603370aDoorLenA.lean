/- zzUTF8Len, a class of lead bytes at a time (written by a script of ours). -/
import Derived.Test.Qxb6603370aDoorLen
namespace Go.Proofs.Qxb6603370aDoor
open Go Go.RowKit

set_option maxHeartbeats 4000000 in
set_option maxRecDepth 100000 in
theorem ulen_c1 (s : ByteArray) (i : Nat) (w : World) (hs : s.size ≤ 1048576) (hi : i < s.size) (R b1 b2 b3 : Nat) (HR : Hid (ulenN (s.size - i) s[i].toNat b1 b2 b3 = R))
    (HB1 : Hid (∀ h : i + 1 < s.size, s[i + 1].toNat = b1)) (_HB2 : Hid (∀ h : i + 2 < s.size, s[i + 2].toNat = b2)) (_HB3 : Hid (∀ h : i + 3 < s.size, s[i + 3].toNat = b3)) (h128 : 128 ≤ s[i].toNat)
    (f1 : 194 ≤ (s[i].toNat : Int)) (f2 : (s[i].toNat : Int) ≤ 223) (HE1 : Hid (need s[i].toNat = 2)) (HE2 : Hid (lo s[i].toNat = 128)) (HE3 : Hid (Qxb6603370aDoor.hi s[i].toNat = 191)) :
    Calls Tryd.prog 13 #[.string s, .int .i64 (i : Nat)] w fun e w' => e = .returned (.int .i64 (R : Nat)) ∧ w' = w := by
  by_cases hn : s.size < i + 2
  · have HZ : Hid (R = 0) := by show _ = _; rw [← HR.out]; exact ulenN_short h128 HE1.out (by omega)
    go_enter Tryd.func13, Tryd.ntmps13
    go_wp2
    go_ret
    exact ⟨by rw [HZ.out]; rfl, rfl⟩
  · have hi1 : i + 1 < s.size := by omega
    have V1 : Hid (s[i + 1].toNat = b1) := HB1.out hi1
    by_cases hl : s[i + 1].toNat < 128
    · have HZ : Hid (R = 0) := by show _ = _; rw [← HR.out]; exact ulenN_bad1 h128 (.inl (by rw [HE2.out, ← V1.out]; exact hl))
      go_enter Tryd.func13, Tryd.ntmps13
      go_wp2
      go_ret
      exact ⟨by rw [HZ.out]; rfl, rfl⟩
    · by_cases hh : 191 < s[i + 1].toNat
      · have HZ : Hid (R = 0) := by show _ = _; rw [← HR.out]; exact ulenN_bad1 h128 (.inr (by rw [HE3.out, ← V1.out]; exact hh))
        go_enter Tryd.func13, Tryd.ntmps13
        go_wp2
        go_ret
        exact ⟨by rw [HZ.out]; rfl, rfl⟩
      · have HG1 : Hid (128 ≤ b1 ∧ b1 ≤ 191) := by show _ ∧ _; rw [← V1.out]; omega
        go_enter Tryd.func13, Tryd.ntmps13
        go_wp2
        clear hl hh
        go_loop [10] (fun v => ∃ j : Nat, 2 ≤ j ∧ j ≤ 4 ∧ v = .int .i64 j ∧ Hid (2 < j → 128 ≤ b2 ∧ b2 ≤ 191) ∧ Hid (3 < j → 128 ≤ b3 ∧ b3 ≤ 191)) (fun v => 4 - (intOf v).toNat)
        case atStart => exact ⟨2, by omega, by omega, rfl, fun h => by omega, fun h => by omega⟩
        case round =>
          obtain ⟨j, hj2, hj4, rfl, g2, g3⟩ := hrel
          by_cases hjN : j < 2
          · exfalso; omega
          · have HZ : Hid (R = 2) := by
              show _ = _
              rw [← HR.out]
              exact ulenN_good h128 HE1.out (by omega) (by omega) (by omega) (by rw [HE2.out, HE3.out]; exact HG1.out) (fun h => g2.out (by omega)) (fun h => g3.out (by omega))
            go_wp2
            go_ret
            exact ⟨by rw [HZ.out]; rfl, rfl⟩

set_option maxHeartbeats 4000000 in
set_option maxRecDepth 100000 in
theorem ulen_c2 (s : ByteArray) (i : Nat) (w : World) (hs : s.size ≤ 1048576) (hi : i < s.size) (R b1 b2 b3 : Nat) (HR : Hid (ulenN (s.size - i) s[i].toNat b1 b2 b3 = R))
    (HB1 : Hid (∀ h : i + 1 < s.size, s[i + 1].toNat = b1)) (HB2 : Hid (∀ h : i + 2 < s.size, s[i + 2].toNat = b2)) (HB3 : Hid (∀ h : i + 3 < s.size, s[i + 3].toNat = b3)) (h128 : 128 ≤ s[i].toNat)
    (f1 : 224 ≤ (s[i].toNat : Int)) (f2 : (s[i].toNat : Int) ≤ 224) (f3 : ((s[i].toNat : Int) == 224) = true) (HE1 : Hid (need s[i].toNat = 3)) (HE2 : Hid (lo s[i].toNat = 160)) (HE3 : Hid (Qxb6603370aDoor.hi s[i].toNat = 191)) :
    Calls Tryd.prog 13 #[.string s, .int .i64 (i : Nat)] w fun e w' => e = .returned (.int .i64 (R : Nat)) ∧ w' = w := by
  by_cases hn : s.size < i + 3
  · have HZ : Hid (R = 0) := by show _ = _; rw [← HR.out]; exact ulenN_short h128 HE1.out (by omega)
    go_enter Tryd.func13, Tryd.ntmps13
    go_wp2
    go_ret
    exact ⟨by rw [HZ.out]; rfl, rfl⟩
  · have hi1 : i + 1 < s.size := by omega
    have V1 : Hid (s[i + 1].toNat = b1) := HB1.out hi1
    by_cases hl : s[i + 1].toNat < 160
    · have HZ : Hid (R = 0) := by show _ = _; rw [← HR.out]; exact ulenN_bad1 h128 (.inl (by rw [HE2.out, ← V1.out]; exact hl))
      go_enter Tryd.func13, Tryd.ntmps13
      go_wp2
      go_ret
      exact ⟨by rw [HZ.out]; rfl, rfl⟩
    · by_cases hh : 191 < s[i + 1].toNat
      · have HZ : Hid (R = 0) := by show _ = _; rw [← HR.out]; exact ulenN_bad1 h128 (.inr (by rw [HE3.out, ← V1.out]; exact hh))
        go_enter Tryd.func13, Tryd.ntmps13
        go_wp2
        go_ret
        exact ⟨by rw [HZ.out]; rfl, rfl⟩
      · have HG1 : Hid (160 ≤ b1 ∧ b1 ≤ 191) := by show _ ∧ _; rw [← V1.out]; omega
        go_enter Tryd.func13, Tryd.ntmps13
        go_wp2
        clear hl hh
        go_loop [10] (fun v => ∃ j : Nat, 2 ≤ j ∧ j ≤ 4 ∧ v = .int .i64 j ∧ Hid (2 < j → 128 ≤ b2 ∧ b2 ≤ 191) ∧ Hid (3 < j → 128 ≤ b3 ∧ b3 ≤ 191)) (fun v => 4 - (intOf v).toNat)
        case atStart => exact ⟨2, by omega, by omega, rfl, fun h => by omega, fun h => by omega⟩
        case round =>
          obtain ⟨j, hj2, hj4, rfl, g2, g3⟩ := hrel
          by_cases hjN : j < 3
          · have hij : i + j < s.size := by omega
            have HX : Hid (s[i + j].toNat < 128 ∨ 191 < s[i + j].toNat → R = 0) := by
              intro hb
              rw [← HR.out]
              obtain rfl | rfl : j = 2 ∨ j = 3 := by omega
              · exact ulenN_bad2 h128 HE1.out (by omega) (by rw [← HB2.out hij]; exact hb)
              · exact ulenN_bad3 h128 HE1.out (by omega) (by rw [← HB3.out hij]; exact hb)
            by_cases hc : s[i + j].toNat < 128
            · have HZ : Hid (R = 0) := HX.out (.inl hc)
              go_wp2
              go_ret
              exact ⟨by rw [HZ.out]; rfl, rfl⟩
            · by_cases hd : 191 < s[i + j].toNat
              · have HZ : Hid (R = 0) := HX.out (.inr hd)
                go_wp2
                go_ret
                exact ⟨by rw [HZ.out]; rfl, rfl⟩
              · have G2 : Hid (2 < j + 1 → 128 ≤ b2 ∧ b2 ≤ 191) := by
                  intro h
                  by_cases hj : j = 2
                  · subst hj
                    rw [← HB2.out hij]; omega
                  · exact g2.out (by omega)
                have G3 : Hid (3 < j + 1 → 128 ≤ b3 ∧ b3 ≤ 191) := by
                  intro h
                  have hj : j = 3 := by omega
                  subst hj
                  rw [← HB3.out hij]; omega
                go_wp2
                go_round
                case rel => exact ⟨j + 1, by omega, by omega, by go_num, G2.out, G3.out⟩
                case measure => simp [intOf]; omega
          · have HZ : Hid (R = 3) := by
              show _ = _
              rw [← HR.out]
              exact ulenN_good h128 HE1.out (by omega) (by omega) (by omega) (by rw [HE2.out, HE3.out]; exact HG1.out) (fun h => g2.out (by omega)) (fun h => g3.out (by omega))
            go_wp2
            go_ret
            exact ⟨by rw [HZ.out]; rfl, rfl⟩

set_option maxHeartbeats 4000000 in
set_option maxRecDepth 100000 in
theorem ulen_c3 (s : ByteArray) (i : Nat) (w : World) (hs : s.size ≤ 1048576) (hi : i < s.size) (R b1 b2 b3 : Nat) (HR : Hid (ulenN (s.size - i) s[i].toNat b1 b2 b3 = R))
    (HB1 : Hid (∀ h : i + 1 < s.size, s[i + 1].toNat = b1)) (HB2 : Hid (∀ h : i + 2 < s.size, s[i + 2].toNat = b2)) (HB3 : Hid (∀ h : i + 3 < s.size, s[i + 3].toNat = b3)) (h128 : 128 ≤ s[i].toNat)
    (f1 : 225 ≤ (s[i].toNat : Int)) (f2 : (s[i].toNat : Int) ≤ 236) (f3 : ((s[i].toNat : Int) == 224) = false) (HE1 : Hid (need s[i].toNat = 3)) (HE2 : Hid (lo s[i].toNat = 128)) (HE3 : Hid (Qxb6603370aDoor.hi s[i].toNat = 191)) :
    Calls Tryd.prog 13 #[.string s, .int .i64 (i : Nat)] w fun e w' => e = .returned (.int .i64 (R : Nat)) ∧ w' = w := by
  by_cases hn : s.size < i + 3
  · have HZ : Hid (R = 0) := by show _ = _; rw [← HR.out]; exact ulenN_short h128 HE1.out (by omega)
    go_enter Tryd.func13, Tryd.ntmps13
    go_wp2
    go_ret
    exact ⟨by rw [HZ.out]; rfl, rfl⟩
  · have hi1 : i + 1 < s.size := by omega
    have V1 : Hid (s[i + 1].toNat = b1) := HB1.out hi1
    by_cases hl : s[i + 1].toNat < 128
    · have HZ : Hid (R = 0) := by show _ = _; rw [← HR.out]; exact ulenN_bad1 h128 (.inl (by rw [HE2.out, ← V1.out]; exact hl))
      go_enter Tryd.func13, Tryd.ntmps13
      go_wp2
      go_ret
      exact ⟨by rw [HZ.out]; rfl, rfl⟩
    · by_cases hh : 191 < s[i + 1].toNat
      · have HZ : Hid (R = 0) := by show _ = _; rw [← HR.out]; exact ulenN_bad1 h128 (.inr (by rw [HE3.out, ← V1.out]; exact hh))
        go_enter Tryd.func13, Tryd.ntmps13
        go_wp2
        go_ret
        exact ⟨by rw [HZ.out]; rfl, rfl⟩
      · have HG1 : Hid (128 ≤ b1 ∧ b1 ≤ 191) := by show _ ∧ _; rw [← V1.out]; omega
        go_enter Tryd.func13, Tryd.ntmps13
        go_wp2
        clear hl hh
        go_loop [10] (fun v => ∃ j : Nat, 2 ≤ j ∧ j ≤ 4 ∧ v = .int .i64 j ∧ Hid (2 < j → 128 ≤ b2 ∧ b2 ≤ 191) ∧ Hid (3 < j → 128 ≤ b3 ∧ b3 ≤ 191)) (fun v => 4 - (intOf v).toNat)
        case atStart => exact ⟨2, by omega, by omega, rfl, fun h => by omega, fun h => by omega⟩
        case round =>
          obtain ⟨j, hj2, hj4, rfl, g2, g3⟩ := hrel
          by_cases hjN : j < 3
          · have hij : i + j < s.size := by omega
            have HX : Hid (s[i + j].toNat < 128 ∨ 191 < s[i + j].toNat → R = 0) := by
              intro hb
              rw [← HR.out]
              obtain rfl | rfl : j = 2 ∨ j = 3 := by omega
              · exact ulenN_bad2 h128 HE1.out (by omega) (by rw [← HB2.out hij]; exact hb)
              · exact ulenN_bad3 h128 HE1.out (by omega) (by rw [← HB3.out hij]; exact hb)
            by_cases hc : s[i + j].toNat < 128
            · have HZ : Hid (R = 0) := HX.out (.inl hc)
              go_wp2
              go_ret
              exact ⟨by rw [HZ.out]; rfl, rfl⟩
            · by_cases hd : 191 < s[i + j].toNat
              · have HZ : Hid (R = 0) := HX.out (.inr hd)
                go_wp2
                go_ret
                exact ⟨by rw [HZ.out]; rfl, rfl⟩
              · have G2 : Hid (2 < j + 1 → 128 ≤ b2 ∧ b2 ≤ 191) := by
                  intro h
                  by_cases hj : j = 2
                  · subst hj
                    rw [← HB2.out hij]; omega
                  · exact g2.out (by omega)
                have G3 : Hid (3 < j + 1 → 128 ≤ b3 ∧ b3 ≤ 191) := by
                  intro h
                  have hj : j = 3 := by omega
                  subst hj
                  rw [← HB3.out hij]; omega
                go_wp2
                go_round
                case rel => exact ⟨j + 1, by omega, by omega, by go_num, G2.out, G3.out⟩
                case measure => simp [intOf]; omega
          · have HZ : Hid (R = 3) := by
              show _ = _
              rw [← HR.out]
              exact ulenN_good h128 HE1.out (by omega) (by omega) (by omega) (by rw [HE2.out, HE3.out]; exact HG1.out) (fun h => g2.out (by omega)) (fun h => g3.out (by omega))
            go_wp2
            go_ret
            exact ⟨by rw [HZ.out]; rfl, rfl⟩
end Go.Proofs.Qxb6603370aDoor
