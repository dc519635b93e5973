import Derived.Test.Qxb6603002aDoorLeaf
import Derived.Test.Qxb6603002aDoorPlain
import Derived.Test.Qxb6603002aDoorShelf
namespace Go.Proofs.Qxb6603002aDoor
open Go Go.RowKit

theorem pre_step {la lb : List UInt8} {k : Nat} (h : la.take k = lb.take k) (hk : k < la.length) (hk2 : k < lb.length) (he : la[k]?.getD 0 = lb[k]?.getD 0) : la.take (k + 1) = lb.take (k + 1) := by
  rw [List.take_add_one, List.take_add_one, h]
  rw [List.getElem?_eq_getElem hk, List.getElem?_eq_getElem hk2] at he ⊢
  simp at he
  simp [he]
theorem pre_ne {la lb : List UInt8} {k : Nat} (hk : k < lb.length) (hk2 : k < la.length) (he : la[k]?.getD 0 ≠ lb[k]?.getD 0) : lb.isPrefixOf la = false := by
  rw [Bool.eq_false_iff]
  intro h
  obtain ⟨r, rfl⟩ := List.isPrefixOf_iff_prefix.1 h
  exact he (by rw [List.getElem?_append_left hk])
theorem pre_all {la lb : List UInt8} (h : la.take lb.length = lb.take lb.length) : lb.isPrefixOf la = true := by
  rw [List.isPrefixOf_iff_prefix, List.prefix_iff_eq_take, h, List.take_length]
theorem pre_short {la lb : List UInt8} (h : la.length < lb.length) : lb.isPrefixOf la = false := by
  rw [Bool.eq_false_iff]
  intro e
  have := (List.isPrefixOf_iff_prefix.1 e).length_le
  omega

set_option maxHeartbeats 400000 in
theorem prefix_calls (p q : Option Addr) (n c m d : Nat) (la lb : List UInt8) (w : World) (ha : At w p n la) (hb : At w q m lb) (hn : n ≤ 140737488355328) (_hm : m ≤ 140737488355328) :
    Calls Tryd.prog 15 #[.slice p n c, .slice q m d] w fun e w' => e = .returned (.bool (lb.isPrefixOf la)) ∧ ∃ k, w' = w.drewN k := by
  have hla := ha.len
  have hlb := hb.len
  by_cases hnm : n < m
  · have hf : lb.isPrefixOf la = false := pre_short (by omega)
    rw [hf]
    clear hf hla hlb
    go_enter Tryd.func15, Tryd.ntmps15
    go_wp2
    go_ret
    exact ⟨rfl, 0, rfl⟩
  · have hB : Hid (m ≤ n) := (by omega : m ≤ n)
    have HA : Hid (n = la.length) := hla
    have HB : Hid (m = lb.length) := hlb
    clear hla hlb
    go_enter Tryd.func15, Tryd.ntmps15
    go_wp2
    clear hnm
    go_loopw [5] (fun i wr => ∃ k : Nat, k ≤ m ∧ i = .int .i64 k ∧ la.take k = lb.take k ∧ ∃ j, wr = w.drewN j) (fun i _ => m - (intOf i).toNat)
    case atStart => exact ⟨0, Nat.zero_le _, rfl, rfl, 0, rfl⟩
    case round =>
      obtain ⟨k, hk, rfl, htk, j, rfl⟩ := hrel
      have HT : Hid (la.take k = lb.take k) := htk
      clear htk
      by_cases hlt : k < m
      · obtain ⟨b1, o1, rfl, hc1⟩ := get_cell ha k (by have := hB.out; omega)
        obtain ⟨b2, o2, rfl, hc2⟩ := get_cell hb k hlt
        have i1 : (k : Int) < (n : Int) := by have := hB.out; omega
        have i2 : (k : Int) < (m : Int) := by omega
        have i0 : (0 : Int) ≤ (k : Int) := by omega
        by_cases he : la[k]?.getD 0 = lb[k]?.getD 0
        · have hbe : (((la[k]?.getD 0).toNat : Int) != ((lb[k]?.getD 0).toNat : Int)) = false := by simp [he]
          have HE : Hid (la[k]?.getD 0 = lb[k]?.getD 0) := he
          clear he ha hb
          go_wp2
          go_quiet (fail)
          go_wp2
          go_roundw
          case rel => exact ⟨k + 1, by omega, by go_num, pre_step HT.out (by have := HA.out; have := hB.out; omega) (by have := HB.out; omega) HE.out, ⟨_, rfl⟩⟩
          case measure => simp [intOf]; omega
        · have hbe : (((la[k]?.getD 0).toNat : Int) != ((lb[k]?.getD 0).toNat : Int)) = true := by
            rw [bne_iff_ne]; intro e; exact he (UInt8.toNat_inj.1 (by omega))
          have hf : Hid (lb.isPrefixOf la = false) := pre_ne (by have := HB.out; omega) (by have := HA.out; have := hB.out; omega) he
          clear he ha hb
          go_wp2
          go_quiet (fail)
          go_wp2
          go_ret
          exact ⟨by rw [hf.out]; rfl, ⟨j + nq, by rw [World.drewN_drewN]⟩⟩
      · have ht : Hid (lb.isPrefixOf la = true) := by
          refine pre_all ?_
          have := HT.out
          have := HB.out
          obtain rfl : k = lb.length := by omega
          assumption
        have hge : ¬ (k : Int) < (m : Int) := by omega
        go_wp2
        go_ret
        exact ⟨by rw [ht.out]; rfl, ⟨_, rfl⟩⟩
end Go.Proofs.Qxb6603002aDoor
