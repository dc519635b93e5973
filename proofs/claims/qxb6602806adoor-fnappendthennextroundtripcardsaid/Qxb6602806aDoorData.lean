import Derived.Test.Qxb6602806aDoorLeaf2
import Derived.Test.Qxb6602806aDoorIter
namespace Go.Proofs.Qxb6602806aDoor
open Go Go.RowKit

/-- A cut of a slice, at whatever address the model gives it. -/
theorem At.cut {w : World} {b o n : Nat} {l : List UInt8} (h : At w (some ⟨b, o, none⟩) n l) (c st k : Nat) (h1 : st ≤ k) (h2 : k ≤ n) (hc : n ≤ c) : At w (if c = st then some ⟨b, o, none⟩ else some ⟨b, o + st, none⟩) (k - st) ((l.drop st).take (k - st)) := by
  have hl := h.len
  by_cases e : c = st
  · rw [if_pos e]
    have : k - st = 0 := by omega
    rw [this]; exact At.empty _ _
  · rw [if_neg e]
    exact (h.drop st (n - st) (by omega)).take _ (by omega)

set_option maxHeartbeats 2000000 in
theorem dr_some (b o n c : Nat) (d : List UInt8) (w : World) (h : At w (some ⟨b, o, none⟩) n d) (hn : n ≤ 1048576) (hc : n ≤ c) (hcc : c ≤ 140737488355328) (ho : Off none w.heap.size (some ⟨b, o, none⟩)) :
    Calls Tryd.prog 14 #[.slice (some ⟨b, o, none⟩) n c] w fun e w' => ∃ p m cap, e = .returned (.slice p m cap) ∧ Acc w none w' p m cap (joinT (lines d)) := by
  have HL : Hid (n = d.length) := h.len
  go_enter Tryd.func14, Tryd.ntmps14
  go_wp2_with (at_make; refine wpList_make_b bt rfl _ _ rfl rfl rfl 0 n (by omega) (by omega) (by omega) (by omega) ?_; intro w1 hown1 hg1; have a1 := acc_made hown1 hg1; clear hown1 hg1)
  go_loopw [3, 4, 5] (fun v s i wr => ∃ p m cap k st acc, v = .slice p m cap ∧ s = .int .i64 ((st : Nat) : Int) ∧ i = .int .i64 ((k : Nat) : Int) ∧ k ≤ n + 1 ∧ DR d k st acc ∧ Acc w none wr p m cap acc) (fun _ _ i _ => n + 1 - (intOf i).toNat)
  case atStart => exact ⟨_, _, _, 0, 0, [], rfl, rfl, rfl, by omega, DR_start d, a1⟩
  case round =>
    obtain ⟨p, m, cap, k, st, acc, rfl, rfl, rfl, hk, hdr, a2⟩ := hrel
    clear a1
    by_cases hle : k ≤ n
    · obtain ⟨hst, hal⟩ := DR_le hdr (by rw [← HL.out]; exact hle)
      have hm : m ≤ 1048577 := by have := a2.own.len; have := HL.out; omega
      have HD : Hid (DR d k st acc) := hdr
      clear hdr hal
      have i0 : (k : Int) ≤ (n : Int) := by omega
      have hat := a2.at h ho
      by_cases hlt : k < n
      · obtain ⟨b', o', e', hc1⟩ := get_cell hat k hlt
        cases e'
        have i1 : (k : Int) < (n : Int) := by omega
        by_cases he : d[k]?.getD 0 = 10
        · have hbe : (((d[k]?.getD 0).toNat : Int) != 10) = false := by simp [he]
          have HE : Hid (DR d (k + 1) (k + 1) (acc ++ trimCR ((d.drop st).take (k - st)) ++ [10])) := DR_nl HD.out (by rw [← HL.out]; exact hlt) he
          clear he
          have hcut : At wr (some ⟨b, o + st, none⟩) (k - st) ((d.drop st).take (k - st)) := (hat.drop st (n - st) (by omega)).take _ (by omega)
          obtain ⟨ln, hln⟩ : ∃ ln, ln = (d.drop st).take (k - st) := ⟨_, rfl⟩
          have HLn : Hid (ln = (d.drop st).take (k - st)) := hln
          rw [← hln] at hcut
          clear hln
          have htr := trim_calls _ _ (c - st) _ wr hcut (by omega) (by omega)
          have htl := trimCR_length ln
          have hcl := hcut.len
          have hsrc := hcut.take (trimCR ln).length (by omega)
          rw [← trimCR_take] at hsrc
          obtain ⟨tn, htn⟩ : ∃ tn, tn = (trimCR ln).length := ⟨_, rfl⟩
          rw [← htn] at htr hsrc
          have htb : tn ≤ 1048576 := by omega
          clear hcl htl htn hcut
          go_wp2_with (first
            | (go_at_call 13; refine htr.mono ?_; rintro e wx ⟨rfl, hw⟩; have hw := hw.symm; subst hw)
            | (at_builtin; refine wpList_acc bt rfl (.tmp 26) (.tmp 31) a2 (hsrc.src bt _) rfl rfl rfl (by omega) ?_; intro p4 n4 cap4 w4 a4 hn4 _)
            | (at_builtin; refine wpList_acc bt rfl (.tmp 37) (.tmp 38) (a4.alloc _) ((at_one _ 10).src bt _) rfl rfl rfl (by omega) ?_; intro p5 n5 cap5 w5 a5 hn5 _))
          go_roundw
          case rel => exact ⟨_, _, _, k + 1, k + 1, _, rfl, by go_num, by go_num, by omega, HLn.out ▸ HE.out, a5⟩
          case measure => simp [intOf]; omega
        · have hbe : (((d[k]?.getD 0).toNat : Int) != 10) = true := by
            rw [bne_iff_ne]; intro e; exact he (UInt8.toNat_inj.1 (by simp; omega))
          have HE : Hid (DR d (k + 1) st acc) := DR_skip HD.out (by rw [← HL.out]; exact hlt) he
          clear he
          go_wp2
          go_roundw
          case rel => exact ⟨_, _, _, k + 1, st, _, rfl, rfl, by go_num, by omega, HE.out, a2⟩
          case measure => simp [intOf]; omega
      · have hkn : k = n := by omega
        have HE : Hid (DR d (k + 1) (k + 1) (acc ++ trimCR ((d.drop st).take (k - st)))) := DR_end HD.out (by rw [← HL.out]; exact hkn)
        have hcut := hat.cut c st k hst hle hc
        have i1 : ¬ (k : Int) < (n : Int) := by omega
        have i3 : decide ((k : Int) < (n : Int)) = false := by simp; omega
        obtain ⟨ln, hln⟩ : ∃ ln, ln = (d.drop st).take (k - st) := ⟨_, rfl⟩
        have HLn : Hid (ln = (d.drop st).take (k - st)) := hln
        have HK : Hid (k = n) := hkn
        rw [← hln] at hcut
        clear hln hkn
        have htr := trim_calls _ _ (c - st) _ wr hcut (by omega) (by omega)
        have htl := trimCR_length ln
        have hcl := hcut.len
        have hsrc := hcut.take (trimCR ln).length (by omega)
        rw [← trimCR_take] at hsrc
        obtain ⟨tn, htn⟩ : ∃ tn, tn = (trimCR ln).length := ⟨_, rfl⟩
        rw [← htn] at htr hsrc
        have htb : tn ≤ 1048576 := by omega
        clear hcl htl htn hcut
        go_wp2_with (first
          | (go_at_call 13; refine htr.mono ?_; rintro e wx ⟨rfl, hw⟩; have hw := hw.symm; subst hw)
          | (at_builtin; refine wpList_acc bt rfl (.tmp 26) (.tmp 31) a2 (hsrc.src bt _) rfl rfl rfl (by omega) ?_; intro p4 n4 cap4 w4 a4 hn4 _))
        go_roundw
        case rel => exact ⟨_, _, _, k + 1, k + 1, _, rfl, by go_num, by go_num, by omega, HLn.out ▸ HE.out, a4⟩
        case measure => have := HK.out; simp [intOf]; omega
    · have i1 : ¬ (k : Int) ≤ (n : Int) := by omega
      have HD : Hid (acc = joinT (lines d)) := DR_done hdr (by have := HL.out; omega)
      clear hdr
      go_wp2
      go_ret
      exact ⟨_, _, _, rfl, a2.cast HD.out⟩

set_option maxHeartbeats 1000000 in
theorem dr_nil (w : World) : Calls Tryd.prog 14 #[.slice none 0 0] w fun e w' => ∃ p m cap, e = .returned (.slice p m cap) ∧ Acc w none w' p m cap (joinT (lines [])) := by
  have htr := fun w => trim_calls none 0 0 [] w (At.nil w) (by omega) (Nat.le_refl _)
  go_enter Tryd.func14, Tryd.ntmps14
  go_wp2_with (at_make; refine wpList_make_b bt rfl _ _ rfl rfl rfl 0 0 (by omega) (by omega) (by omega) (by omega) ?_; intro w1 hown1 hg1; have a1 := acc_made hown1 hg1; clear hown1 hg1)
  refine wp_loop_rounds 2 ?_
  rw [rounds_succ]
  have hl0 : (trimCR []).length = 0 := rfl
  rw [hl0] at htr
  clear hl0
  go_wp2_with (first
    | (go_at_call 13; refine (htr _).mono ?_; rintro e wx ⟨rfl, hw⟩; have hw := hw.symm; subst hw)
    | (at_builtin; refine wpList_acc bt rfl (.tmp 26) (.tmp 31) a1 ((At.nil _).src bt _) rfl rfl rfl (by omega) ?_; intro p4 n4 cap4 w4 a4 hn4 _))
  rw [rounds_succ]
  go_wp2
  go_ret
  exact ⟨_, _, _, rfl, a4⟩

theorem dr_calls (p : Option Addr) (n c : Nat) (d : List UInt8) (w : World) (h : At w p n d) (hz : p = none → c = 0) (hn : n ≤ 1048576) (hc : n ≤ c) (hcc : c ≤ 140737488355328) (hb : ∀ ad, p = some ad → ad.spot = none) (ho : Off none w.heap.size p) :
    Calls Tryd.prog 14 #[.slice p n c] w fun e w' => ∃ p m cap, e = .returned (.slice p m cap) ∧ Acc w none w' p m cap (joinT (lines d)) := by
  cases p with
  | none =>
    obtain rfl := hz rfl
    obtain rfl := h.none_len
    obtain rfl : n = 0 := h.len
    exact dr_nil w
  | some ad =>
    obtain ⟨b, o, s⟩ := ad
    obtain rfl : s = none := hb _ rfl
    exact dr_some b o n c d w h hn hc hcc ho
end Go.Proofs.Qxb6602806aDoor
