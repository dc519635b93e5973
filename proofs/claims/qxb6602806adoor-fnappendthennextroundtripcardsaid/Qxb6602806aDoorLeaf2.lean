import Derived.Test.Qxb6602806aDoorWire
import Derived.Test.Qxb6602806aDoorLines2
namespace Go.Proofs.Qxb6602806aDoor
open Go Go.RowKit

set_option maxHeartbeats 800000 in
theorem f10_calls (p0 p1 p2 p3 : Option Addr) (n0 c0 n1 c1 n2 c2 n3 c3 : Nat) (w : World) (h0 : n0 ≤ 9223372036854775807) (h1 : n1 ≤ 9223372036854775807) (h2 : n2 ≤ 9223372036854775807) (h3 : n3 ≤ 9223372036854775807) :
    Calls Tryd.prog 10 #[.slice p0 n0 c0, .slice p1 n1 c1, .slice p2 n2 c2, .slice p3 n3 c3] w fun e w' => e = .returned (.bool (decide (n0 + n1 + n2 + n3 ≤ 1048576))) ∧ w' = w := by
  by_cases h : n0 + n1 + n2 + n3 ≤ 1048576
  · have hd : decide (n0 + n1 + n2 + n3 ≤ 1048576) = true := by simp [h]
    rw [hd]
    clear hd
    go_enter Tryd.func10, Tryd.ntmps10
    go_wp2
    go_ret
    exact ⟨rfl, rfl⟩
  · have hd : decide (n0 + n1 + n2 + n3 ≤ 1048576) = false := by simp; omega
    rw [hd]
    clear hd
    go_enter Tryd.func10, Tryd.ntmps10
    go_wp2
    all_goals
      go_ret
      first | exact ⟨rfl, rfl⟩ | omega

set_option maxHeartbeats 800000 in
theorem has_calls (p : Option Addr) (n c : Nat) (l : List UInt8) (w : World) (h : At w p n l) (hn : n ≤ 1048576) :
    Calls Tryd.prog 11 #[.slice p n c, .int .u8 10] w fun e w' => e = .returned (.bool (hasNL l)) ∧ w' = w := by
  have HL : Hid (n = l.length) := h.len
  go_enter Tryd.func11, Tryd.ntmps11
  go_wp2
  go_loop [5] (fun i => ∃ k : Nat, k ≤ n ∧ i = .int .i64 k ∧ ∀ j, j < k → l[j]?.getD 0 ≠ 10) (fun i => n - (intOf i).toNat)
  case atStart => exact ⟨0, Nat.zero_le _, rfl, fun j hj => by omega⟩
  case round =>
    obtain ⟨k, hk, rfl, hall⟩ := hrel
    have HA : Hid (∀ j, j < k → l[j]?.getD 0 ≠ 10) := hall
    clear hall
    by_cases hlt : k < n
    · obtain ⟨b1, o1, rfl, hc1⟩ := get_cell h k hlt
      have i1 : (k : Int) < (n : Int) := by omega
      by_cases he : l[k]?.getD 0 = 10
      · have hbe : (((l[k]?.getD 0).toNat : Int) == 10) = true := by simp [he]
        have ht : Hid (hasNL l = true) := by
          show _ = _
          unfold hasNL
          have := HL.out
          rw [List.getElem?_eq_getElem (by omega)] at he
          simp at he
          rw [List.contains_iff_mem, ← he]
          exact List.getElem_mem _
        clear he
        go_wp2
        go_ret
        exact ⟨by rw [ht.out]; rfl, rfl⟩
      · have hbe : (((l[k]?.getD 0).toNat : Int) == 10) = false := by
          rw [beq_eq_false_iff_ne]; intro e; exact he (UInt8.toNat_inj.1 (by simp; omega))
        have HE : Hid (l[k]?.getD 0 ≠ 10) := he
        clear he
        go_wp2
        go_round
        case rel => exact ⟨k + 1, by omega, by go_num, fun j hj => by
          by_cases e : j = k
          · rw [e]; exact HE.out
          · exact HA.out j (by omega)⟩
        case measure => simp [intOf]; omega
    · have hf : Hid (hasNL l = false) := by
        show _ = _
        unfold hasNL
        have := HL.out
        rw [← Bool.not_eq_true, List.contains_iff_mem]
        intro hm
        obtain ⟨j, hj, e⟩ := List.mem_iff_getElem.1 hm
        have := HA.out j (by omega)
        rw [List.getElem?_eq_getElem hj] at this
        exact this (by simpa using e)
      have hge : ¬ (k : Int) < (n : Int) := by omega
      go_wp2
      go_ret
      exact ⟨by rw [hf.out]; rfl, rfl⟩

set_option maxHeartbeats 800000 in
theorem trim_calls (p : Option Addr) (n c : Nat) (l : List UInt8) (w : World) (h : At w p n l) (hn : n ≤ 1048576) (hc : n ≤ c) :
    Calls Tryd.prog 13 #[.slice p n c] w fun e w' => e = .returned (.slice p (trimCR l).length c) ∧ w' = w := by
  have hl := h.len
  by_cases h0 : 0 < n
  · obtain ⟨b1, o1, rfl, hc1⟩ := get_cell h (n - 1) (by omega)
    have i1 : (0 : Int) < (n : Int) := by omega
    have hcx : w.cell? ⟨b1, o1 + (n - 1), none⟩ = some (.int .u8 ((l[l.length - 1]?.getD 0).toNat : Int)) := by rw [← hl]; exact hc1
    have HL : Hid (n = l.length) := hl
    clear hl hc1
    by_cases he : l[l.length - 1]?.getD 0 = 13
    · have hbe : (((l[l.length - 1]?.getD 0).toNat : Int) == 13) = true := by simp [he]
      have ht : Hid ((trimCR l).length = n - 1) := by
        show _ = _
        rw [trimCR_yes l (by have := HL.out; omega) he, ← HL.out]
      clear he
      go_enter Tryd.func13, Tryd.ntmps13
      go_wp2
      all_goals (try (exfalso; omega))
      all_goals
        go_ret
        exact ⟨by rw [ht.out]; rfl, rfl⟩
    · have hbe : (((l[l.length - 1]?.getD 0).toNat : Int) == 13) = false := by
        rw [beq_eq_false_iff_ne]; intro e; exact he (UInt8.toNat_inj.1 (by simp; omega))
      have ht : Hid ((trimCR l).length = n) := by
        show _ = _
        rw [trimCR_no l he, ← HL.out]
      clear he
      go_enter Tryd.func13, Tryd.ntmps13
      go_wp2
      go_ret
      exact ⟨by rw [ht.out]; rfl, rfl⟩
  · obtain rfl : n = 0 := by omega
    obtain rfl : l = [] := List.eq_nil_of_length_eq_zero hl.symm
    clear hl hn hc h h0
    go_enter Tryd.func13, Tryd.ntmps13
    go_wp2
    go_ret
    exact ⟨rfl, rfl⟩
end Go.Proofs.Qxb6602806aDoor
