/- zzUTF8Len computes ulen. -/
import Derived.Test.Qxb6603370aDoorLenA
import Derived.Test.Qxb6603370aDoorLenB
import Derived.Test.Qxb6603370aDoorLenC
namespace Go.Proofs.Qxb6603370aDoor
open Go Go.RowKit

def ulenAt (s : ByteArray) (i : Nat) : Nat := ulen (s.data.toList.drop i)
set_option maxHeartbeats 4000000 in
set_option maxRecDepth 100000 in
theorem ulen_calls (s : ByteArray) (i : Nat) (w : World) (hs : s.size ≤ 1048576) (hi : i < s.size) :
    Calls Tryd.prog 13 #[.string s, .int .i64 (i : Nat)] w fun e w' => e = .returned (.int .i64 (ulenAt s i : Nat)) ∧ w' = w := by
  obtain ⟨R, hR⟩ : ∃ R, ulenAt s i = R := ⟨_, rfl⟩
  rw [hR]
  have hln : (s.data.toList.drop i).length = s.size - i := by rw [List.length_drop, slen]
  obtain ⟨b1, hb1⟩ : ∃ b, ((s.data.toList.drop i).getD 1 0).toNat = b := ⟨_, rfl⟩
  obtain ⟨b2, hb2⟩ : ∃ b, ((s.data.toList.drop i).getD 2 0).toNat = b := ⟨_, rfl⟩
  obtain ⟨b3, hb3⟩ : ∃ b, ((s.data.toList.drop i).getD 3 0).toNat = b := ⟨_, rfl⟩
  have hb0 : ((s.data.toList.drop i).getD 0 0).toNat = s[i].toNat := by rw [getd s i 0 (by omega)]; rfl
  have HR : Hid (ulenN (s.size - i) s[i].toNat b1 b2 b3 = R) := by
    show _ = _
    rw [← hR, ulenAt, ulen, hln, hb0, hb1, hb2, hb3]
  have HB1 : Hid (∀ h : i + 1 < s.size, s[i + 1].toNat = b1) := fun h => by rw [← hb1, getd s i 1 h]
  have HB2 : Hid (∀ h : i + 2 < s.size, s[i + 2].toNat = b2) := fun h => by rw [← hb2, getd s i 2 h]
  have HB3 : Hid (∀ h : i + 3 < s.size, s[i + 3].toNat = b3) := fun h => by rw [← hb3, getd s i 3 h]
  clear hR hln hb0 hb1 hb2 hb3
  by_cases ha : s[i].toNat < 128
  · have HZ : Hid (R = 1) := by show _ = _; rw [← HR.out]; exact ulenN_ascii ha
    go_enter Tryd.func13, Tryd.ntmps13
    go_wp2
    go_ret
    exact ⟨by rw [HZ.out]; rfl, rfl⟩
  · have h128 : 128 ≤ s[i].toNat := by omega
    rcases classes s[i] h128 with ⟨⟨f1, f2⟩, e1, e2, e3⟩ | ⟨⟨f1, f2, f3⟩, e1, e2, e3⟩ | ⟨⟨f1, f2, f3⟩, e1, e2, e3⟩ | ⟨⟨f1, f2, f3, f4⟩, e1, e2, e3⟩ | ⟨⟨f1, f2, f3, f4, f5⟩, e1, e2, e3⟩ | ⟨⟨f1, f2, f3, f4, f5, f6⟩, e1, e2, e3⟩ | ⟨⟨f1, f2, f3, f4, f5, f6, f7⟩, e1, e2, e3⟩ | ⟨⟨f1, f2, f3, f4, f5, f6, f7⟩, e1, e2, e3⟩ | ⟨⟨f1, f2, f3, f4, f5, f6, f7, f8⟩, e1, e2, e3⟩ | ⟨f1, f2, f3, f4, f5, f6, f7⟩ | ⟨f1, f2, f3, f4, f5, f6, f7⟩
    · exact ulen_c1 s i w hs hi R b1 b2 b3 HR HB1 HB2 HB3 h128 f1 f2 e1 e2 e3
    · exact ulen_c2 s i w hs hi R b1 b2 b3 HR HB1 HB2 HB3 h128 f1 f2 f3 e1 e2 e3
    · exact ulen_c3 s i w hs hi R b1 b2 b3 HR HB1 HB2 HB3 h128 f1 f2 f3 e1 e2 e3
    · exact ulen_c4 s i w hs hi R b1 b2 b3 HR HB1 HB2 HB3 h128 f1 f2 f3 f4 e1 e2 e3
    · exact ulen_c5 s i w hs hi R b1 b2 b3 HR HB1 HB2 HB3 h128 f1 f2 f3 f4 f5 e1 e2 e3
    · exact ulen_c6 s i w hs hi R b1 b2 b3 HR HB1 HB2 HB3 h128 f1 f2 f3 f4 f5 f6 e1 e2 e3
    · exact ulen_c7 s i w hs hi R b1 b2 b3 HR HB1 HB2 HB3 h128 f1 f2 f3 f4 f5 f6 f7 e1 e2 e3
    · exact ulen_c8 s i w hs hi R b1 b2 b3 HR HB1 HB2 HB3 h128 f1 f2 f3 f4 f5 f6 f7 e1 e2 e3
    · exact ulen_c9 s i w hs hi R b1 b2 b3 HR HB1 HB2 HB3 h128 f1 f2 f3 f4 f5 f6 f7 f8 e1 e2 e3
    · have HZ : Hid (R = 0) := by show _ = _; rw [← HR.out]; exact ulenN_none h128 (by omega)
      go_enter Tryd.func13, Tryd.ntmps13
      go_wp2
      go_ret
      exact ⟨by rw [HZ.out]; rfl, rfl⟩
    · have HZ : Hid (R = 0) := by show _ = _; rw [← HR.out]; exact ulenN_none h128 (by omega)
      go_enter Tryd.func13, Tryd.ntmps13
      go_wp2
      go_ret
      exact ⟨by rw [HZ.out]; rfl, rfl⟩
end Go.Proofs.Qxb6603370aDoor
