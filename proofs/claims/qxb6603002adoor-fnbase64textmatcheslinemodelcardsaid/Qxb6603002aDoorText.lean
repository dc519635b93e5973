/- The walk of base64Text: it computes scan. -/
import Derived.Test.Qxb6603002aDoorTextKit
import Derived.Test.Qxb6603002aDoorModel
namespace Go.Proofs.Qxb6603002aDoor
open Go Go.RowKit

theorem alpha_cases {c : UInt8} (h : alpha c = true) : ((65 ≤ (c.toNat : Int)) ∧ ((c.toNat : Int) ≤ 90)) ∨ ((97 ≤ (c.toNat : Int)) ∧ ((c.toNat : Int) ≤ 122)) ∨ ((48 ≤ (c.toNat : Int)) ∧ ((c.toNat : Int) ≤ 57))
    ∨ ((43 ≤ (c.toNat : Int)) ∧ ((c.toNat : Int) ≤ 43) ∧ ((c.toNat : Int) == 43) = true) ∨ ((47 ≤ (c.toNat : Int)) ∧ ((c.toNat : Int) ≤ 47) ∧ ((c.toNat : Int) == 43) = false ∧ ((c.toNat : Int) == 47) = true) ∨ ((61 ≤ (c.toNat : Int)) ∧ ((c.toNat : Int) ≤ 61) ∧ ((c.toNat : Int) == 43) = false ∧ ((c.toNat : Int) == 47) = false ∧ ((c.toNat : Int) == 61) = true) := by
  simp only [alpha, Bool.or_eq_true, decide_eq_true_eq, beq_iff_eq] at h
  rcases h with ((((h | h) | h) | h) | h) | h
  · left; omega
  · right; left; omega
  · right; right; left; omega
  · subst h; right; right; right; left; decide
  · subst h; right; right; right; right; left; decide
  · subst h; right; right; right; right; right; decide
theorem alpha_not {c : UInt8} (h : alpha c = false) : ¬ ((65 ≤ (c.toNat : Int)) ∧ ((c.toNat : Int) ≤ 90)) ∧ ¬ ((97 ≤ (c.toNat : Int)) ∧ ((c.toNat : Int) ≤ 122)) ∧ ¬ ((48 ≤ (c.toNat : Int)) ∧ ((c.toNat : Int) ≤ 57))
    ∧ ((c.toNat : Int) == 43) = false ∧ ((c.toNat : Int) == 47) = false ∧ ((c.toNat : Int) == 61) = false := by
  simp only [alpha, Bool.or_eq_false_iff, decide_eq_false_iff_not, beq_eq_false_iff_ne] at h
  obtain ⟨⟨⟨⟨⟨h1, h2⟩, h3⟩, h4⟩, h5⟩, h6⟩ := h
  exact ⟨by omega, by omega, by omega, bneN (k := 43) h4, bneN (k := 47) h5, bneN (k := 61) h6⟩

theorem over_rem {r : Nat} {br : Int} (h1 : 9223372036854775807 < 2 * br) (h2 : br ≤ 9223372036854775807) (h3 : (r : Int) < br) : ¬ wrap64 (2 * br) = 0 ∧ ((r : Int) % wrap64 (2 * br) == br) = false := by
  have hw : wrap64 (2 * br) = 2 * br - 18446744073709551616 := by unfold wrap64; omega
  rw [hw]
  refine ⟨by omega, ?_⟩
  obtain ⟨q, hq⟩ : ∃ q : Nat, 2 * br - 18446744073709551616 = -(q : Int) := ⟨(18446744073709551616 - 2 * br).toNat, by omega⟩
  rw [hq, Int.emod_neg, beq_eq_false_iff_ne, ← Int.natCast_emod]
  have := Nat.mod_le r q
  omega
theorem At.stay {w w' : World} {p : Option Addr} {n : Nat} {l : List UInt8} (h : At w p n l) (hB : Below w.heap.size w w') : At w' p n l :=
  ⟨h.len, fun i hi => by
    obtain ⟨b, o, hp, hc⟩ := h.cells i hi
    exact ⟨b, o, hp, (hB.cell (World.block_lt_of_cell? w _ hc)).trans hc⟩⟩
set_option maxHeartbeats 4000000 in
set_option maxRecDepth 100000 in
theorem text_calls (p0 p1 : Option Addr) (n c0 m c1 : Nat) (t mk : List UInt8) (br : Int) (w : World) (h0 : At w p0 n t) (h1 : At w p1 m mk) (hnc : n ≤ c0) (hcb : c0 ≤ 9223372036854775807) (hnm : n + m ≤ 1048576)
    (o0 : Off none w.heap.size p0) (o1 : Off none w.heap.size p1) (hbr : -9223372036854775808 ≤ br) (hbr' : br ≤ 9223372036854775807) :
    Calls Tryd.prog 14 #[.slice p0 n c0, .slice p1 m c1, .int .i64 br] w fun e w' => ∃ p n' cap, e = .returned (.slice p n' cap) ∧ Acc w none w' p n' cap (scan t mk br t.length 0 ⟨[], 0, false⟩) := by
  obtain ⟨R, hR⟩ : ∃ R, scan t mk br t.length 0 ⟨[], 0, false⟩ = R := ⟨_, rfl⟩
  have HR : Hid (Sca t mk br R 0 ⟨[], 0, false⟩) := ⟨_, Nat.le_refl _, hR⟩
  have HL : Hid (n = t.length) := h0.len
  have HL1 : Hid (m = mk.length) := h1.len
  rw [hR]
  clear hR
  go_enter Tryd.func14, Tryd.ntmps14
  go_wp2_with (at_make; refine wpList_make_b bt rfl _ _ rfl rfl rfl 0 n (by omega) (by omega) (by omega) (by omega) ?_; intro w1 hown1 hg1; have acc := acc_made hown1 hg1; clear hown1 hg1)
  go_loopw [7, 8, 9, 10] (fun v l h i wr => ∃ p n' cap k s, k ≤ n ∧ v = .slice p n' cap ∧ l = .int .i64 (St.ls s : Nat) ∧ h = .bool (St.hd s) ∧ i = .int .i64 (k : Nat) ∧ Acc w none wr p n' cap (St.out s) ∧ St.ls s ≤ n' ∧ n' ≤ k ∧ Sca t mk br R k s) (fun _ _ _ i _ => n - (intOf i).toNat)
  case atStart => exact ⟨_, _, _, 0, ⟨[], 0, false⟩, Nat.zero_le _, rfl, rfl, rfl, rfl, acc, Nat.zero_le _, Nat.zero_le _, HR.out⟩
  case round =>
    obtain ⟨p, n', cap, k, s, hk, rfl, rfl, rfl, rfl, ac, hls, hn', hS⟩ := hrel
    obtain ⟨out, ls, hd⟩ := s
    simp only at ac hls hS ⊢
    have HS : Hid (Sca t mk br R k ⟨out, ls, hd⟩) := hS
    have HO : Hid (n' = out.length) := ac.own.len
    clear hS acc HR
    have a0 : At wr p0 n t := ac.at h0 o0
    by_cases hlt : k < n
    · obtain ⟨b0, of0, rfl, hc⟩ := get8 a0 k hlt
      have HK : Hid (k < t.length) := by have := HL.out; show _ < _; omega
      by_cases h92 : at8 t k = 92
      · have q1 : (((at8 t k).toNat : Int) == 92) = true := beqN (k := 92) (by omega) h92
        have H92 : Hid (at8 t k = 92) := h92
        obtain ⟨r, hr⟩ : ∃ r, runP isBack t k = r := ⟨_, rfl⟩
        have hr0 : 0 < r := by
          rw [← hr, runP_pos (p := isBack) HK.out (by rw [at8_get HK.out, h92]; rfl)]; omega
        have hrn : k + r ≤ n := by
          have := runP_le isBack t k (Nat.le_of_lt HK.out)
          have := HL.out
          omega
        have ad := at_drop a0 k hk c0 hnc
        rw [if_neg (show ¬ c0 = k by omega)] at ad
        obtain ⟨p', c', htl⟩ := tlBack b0 (of0 + k) (n - k) (c0 - k) (t.drop k) wr ad (by omega) (by omega) (by omega)
        rw [show ((t.drop k).takeWhile isBack).length = r from hr] at htl
        have HJ : Hid (k + r = k + runP isBack t k) := by show _ = _; rw [hr]
        have HRr : Hid (runP isBack t k = r) := hr
        clear h92 hr ad
        by_cases hkr : k + r < n
        · obtain ⟨j, hj⟩ : ∃ j, k + r = j := ⟨_, rfl⟩
          rw [hj] at hkr HJ
          obtain ⟨_, _, he, hcr⟩ := get8 a0 j hkr
          cases he
          have HK2 : Hid (j < t.length) := by have := HL.out; show _ < _; omega
          obtain ⟨L, hL⟩ : ∃ L, n - k - r = L := ⟨_, rfl⟩
          rw [hL] at htl
          have e1 : ((n - k : Nat) : Int) - (L : Int) = (r : Int) := by omega
          have e2 : (k : Int) + ((r : Int) - 1) + 1 = (j : Int) := by omega
          have HLL : Hid (n - k - r = L) := hL
          have Hj : Hid (k + r = j) := hj
          clear hL hj
          obtain ⟨X, hX⟩ : ∃ X, Lib.indexByte [110, 114, 116] (at8 t j) = X := ⟨_, rfl⟩
          have hix : ∀ W, Calls Tryd.prog 17 #[.string ⟨#[110, 114, 116]⟩, .int .u8 ((at8 t j).toNat : Int)] W fun e w' => e = .returned (.int .i64 X) ∧ w' = W := fun W => by
            have := Tryd.strings_IndexByte ⟨#[110, 114, 116]⟩ ((at8 t j).toNat : Int) W
            rw [Int.toNat_natCast, show (at8 t j).toNat.toUInt8 = at8 t j from by simp, show (⟨#[110, 114, 116]⟩ : ByteArray).data.toList = [110, 114, 116] from rfl, hX] at this
            exact this
          have hXe := esc_index (at8 t j)
          rw [hX] at hXe
          clear hX
          by_cases hE : isEsc (at8 t j) = true
          · have hX0 : 0 ≤ X := by rw [hXe]; exact hE
            have HE : Hid (isEsc (at8 t j) = true) := hE
            clear hXe hE
            by_cases g110 : at8 t j = 110
            · have r2 : (((at8 t j).toNat : Int) == 110) = true := beqN (k := 110) (by omega) g110
              have HG : Hid (at8 t j = 110) := g110
              clear g110
              by_cases hb0 : 0 < br
              · by_cases hov : 2 * br ≤ 9223372036854775807
                · obtain ⟨B, hB⟩ : ∃ B, brk r br = B := ⟨_, rfl⟩
                  have HB : Hid (brk (runP isBack t k) br = B) := by show _ = _; rw [HRr.out]; exact hB
                  have b2 : (2 * br == 0) = false := by rw [beq_eq_false_iff_ne]; omega
                  have b3 : ((r : Int) % (2 * br) == br) = B := by
                    rw [← hB]; unfold brk
                    rw [Bool.eq_iff_iff, beq_iff_eq, decide_eq_true_eq]
                    exact ⟨fun h => ⟨hb0, h⟩, fun h => h.2⟩
                  clear hB
                  cases B with
                  | true =>
                    have HN : Hid (Sca t mk br R (j + 1) ⟨out, out.length, false⟩) := HS.out.escN HK.out H92.out HJ.out ⟨HK2.out, HE.out⟩ ⟨HG.out, HB.out⟩
                    as_aux_lemma =>
                      go_wp2
                      go_quiet (first | (go_at_call 16; refine Calls.quiet_of_same (htl _)))
                      clear htl
                      go_wp2_with (go_at_call 17; refine (hix _).mono ?_; rintro e w' ⟨rfl, hw⟩; have hw := hw.symm; subst hw)
                      go_roundw
                      case rel => exact ⟨_, _, _, j + 1, ⟨out, out.length, false⟩, by omega, rfl, by rw [← HO.out], rfl, by go_num, ac.drewN _, Nat.le_of_eq HO.out.symm, by omega, HN.out⟩
                      case measure => simp [intOf]; omega
                  | false =>
                    have HN : Hid (Sca t mk br R (j + 1) ⟨out, ls, hd⟩) := HS.out.esc HK.out H92.out HJ.out ⟨HK2.out, HE.out⟩ (fun h => by rw [HB.out] at h; cases h.2)
                    as_aux_lemma =>
                      go_wp2
                      go_quiet (first | (go_at_call 16; refine Calls.quiet_of_same (htl _)))
                      clear htl
                      go_wp2_with (go_at_call 17; refine (hix _).mono ?_; rintro e w' ⟨rfl, hw⟩; have hw := hw.symm; subst hw)
                      go_roundw
                      case rel => exact ⟨_, _, _, j + 1, ⟨out, ls, hd⟩, by omega, rfl, rfl, rfl, by go_num, ac.drewN _, hls, by omega, HN.out⟩
                      case measure => simp [intOf]; omega
                · have HN : Hid (Sca t mk br R (j + 1) ⟨out, ls, hd⟩) := HS.out.esc HK.out H92.out HJ.out ⟨HK2.out, HE.out⟩ (fun h => by have := (brk_le h.2).2; rw [HRr.out] at this; have := HK2.out; have := Hj.out; have := HL.out; omega)
                  have hrb : (r : Int) < br := by have := Hj.out; omega
                  obtain ⟨b2, b3⟩ := over_rem (by omega) (by omega) hrb
                  clear hrb
                  as_aux_lemma =>
                    go_wp2
                    go_quiet (first | (go_at_call 16; refine Calls.quiet_of_same (htl _)))
                    clear htl
                    go_wp2_with (go_at_call 17; refine (hix _).mono ?_; rintro e w' ⟨rfl, hw⟩; have hw := hw.symm; subst hw)
                    go_roundw
                    case rel => exact ⟨_, _, _, j + 1, ⟨out, ls, hd⟩, by omega, rfl, rfl, rfl, by go_num, ac.drewN _, hls, by omega, HN.out⟩
                    case measure => simp [intOf]; omega
              · have HN : Hid (Sca t mk br R (j + 1) ⟨out, ls, hd⟩) := HS.out.esc HK.out H92.out HJ.out ⟨HK2.out, HE.out⟩ (fun h => hb0 (brk_le h.2).1)
                as_aux_lemma =>
                  go_wp2
                  go_quiet (first | (go_at_call 16; refine Calls.quiet_of_same (htl _)))
                  clear htl
                  go_wp2_with (go_at_call 17; refine (hix _).mono ?_; rintro e w' ⟨rfl, hw⟩; have hw := hw.symm; subst hw)
                  go_roundw
                  case rel => exact ⟨_, _, _, j + 1, ⟨out, ls, hd⟩, by omega, rfl, rfl, rfl, by go_num, ac.drewN _, hls, by omega, HN.out⟩
                  case measure => simp [intOf]; omega
            · have r2 : (((at8 t j).toNat : Int) == 110) = false := bneN (k := 110) g110
              have HN : Hid (Sca t mk br R (j + 1) ⟨out, ls, hd⟩) := HS.out.esc HK.out H92.out HJ.out ⟨HK2.out, HE.out⟩ (fun h => g110 h.1)
              clear g110
              as_aux_lemma =>
                go_wp2
                go_quiet (first | (go_at_call 16; refine Calls.quiet_of_same (htl _)))
                clear htl
                go_wp2_with (go_at_call 17; refine (hix _).mono ?_; rintro e w' ⟨rfl, hw⟩; have hw := hw.symm; subst hw)
                go_roundw
                case rel => exact ⟨_, _, _, j + 1, ⟨out, ls, hd⟩, by omega, rfl, rfl, rfl, by go_num, ac.drewN _, hls, by omega, HN.out⟩
                case measure => simp [intOf]; omega
          · have hX0 : ¬ 0 ≤ X := by rw [hXe]; exact hE
            have HN : Hid (Sca t mk br R j ⟨out, ls, hd⟩) := HS.out.back HK.out H92.out HJ.out (fun h => hE h.2)
            clear hXe hE
            as_aux_lemma =>
              go_wp2
              go_quiet (first | (go_at_call 16; refine Calls.quiet_of_same (htl _)))
              clear htl
              go_wp2_with (go_at_call 17; refine (hix _).mono ?_; rintro e w' ⟨rfl, hw⟩; have hw := hw.symm; subst hw)
              go_roundw
              case rel => exact ⟨_, _, _, j, ⟨out, ls, hd⟩, by omega, rfl, rfl, rfl, by go_num, ac.drewN _, hls, by omega, HN.out⟩
              case measure => simp [intOf]; omega
        · have HB : Hid (Sca t mk br R (k + r) ⟨out, ls, hd⟩) := HS.out.back HK.out H92.out HJ.out (by have := HL.out; omega)
          as_aux_lemma =>
            go_wp2
            go_quiet (first | (go_at_call 16; refine Calls.quiet_of_same (htl _)))
            go_wp2
            go_roundw
            case rel => exact ⟨_, _, _, k + r, ⟨out, ls, hd⟩, by omega, rfl, rfl, rfl, by go_num, ac.drewN _, hls, by omega, HB.out⟩
            case measure => simp [intOf]; omega
      · have q1 : (((at8 t k).toNat : Int) == 92) = false := bneN (k := 92) h92
        by_cases h10 : at8 t k = 10
        · have q2 : (((at8 t k).toNat : Int) == 10) = true := beqN (k := 10) (by omega) h10
          have H10 : Hid (at8 t k = 10) := h10
          have a1 : At wr p1 m mk := ac.at h1 o1
          have ad := at_drop a0 (k + 1) (by omega) c0 hnc
          obtain ⟨z, hz⟩ : ∃ z, runP isBlank t (k + 1) = z := ⟨_, rfl⟩
          have hzn : k + 1 + z ≤ n := by
            have h3 := HK.out
            have := runP_le isBlank t (k + 1) (by omega)
            have := HL.out
            omega
          have hz2 : ((t.drop (k + 1)).takeWhile isBlank).length = z := hz
          obtain ⟨q, hq⟩ : ∃ q, k + 1 = q := ⟨_, rfl⟩
          rw [hq] at ad hz hz2 hzn
          have Hq : Hid (k + 1 = q) := hq
          have e1 : (k : Int) + 1 = (q : Int) := by omega
          have hkq : k < q := by omega
          clear hq
          have HJ : Hid (q + z = k + 1 + runP isBlank t (k + 1)) := by show _ = _; rw [Hq.out, hz]
          obtain ⟨V, hV⟩ : ∃ V, mk.isPrefixOf (t.drop (q + z)) = V := ⟨_, rfl⟩
          have HV : Hid (mk.isPrefixOf (t.drop (q + z)) = V) := hV
          have HV2 : Hid (mk.isPrefixOf ((t.drop q).drop z) = V) := by show _ = _; rw [List.drop_drop]; exact hV
          have HVL : Hid (V = true → q + z + m ≤ n) := by
            intro e
            rw [e] at hV
            have h5 := (List.isPrefixOf_iff_prefix.1 hV).length_le
            have := HL.out
            have := HL1.out
            simp at h5
            omega
          obtain ⟨L, hL⟩ : ∃ L, n - q - z = L := ⟨_, rfl⟩
          have HLL : Hid (n - q - z = L) := hL
          have hLn : L ≤ n := by omega
          clear hV h10 h92 hz
          by_cases hcq : c0 = q
          · rw [if_pos hcq] at ad
            have hnq : n = q := by omega
            have hz0 : z = 0 := by omega
            rw [hnq, Nat.sub_self] at ad
            have htl := tlBlank (some ⟨b0, of0, none⟩) 0 0 (t.drop q) wr ad (Nat.le_refl _) (by omega)
            rw [hz2, show 0 - z = L by omega] at htl
            subst hcq
            subst hnq
            clear hL hz2 ad hz0
            cases V with
            | true =>
              have HN : Hid (Sca t mk br R (n + z + m) ⟨out, out.length, false⟩) := by rw [HL1.out]; exact HS.out.line HK.out H10.out HJ.out HV.out
              have := HVL.out rfl
              as_aux_lemma =>
                go_wp2_with (first
                  | (go_at_call 16; refine htl.mono ?_; rintro e w2 ⟨hB, p2, c2, rfl, hAt2, hle2⟩; have hpc := hasPrefix_calls p2 p1 L c2 m c1 _ mk w2 (hAt2.stay hB) (a1.stay hB) hle2; rw [HV2.out] at hpc)
                  | (go_at_call 18; refine hpc.mono ?_; rintro e w3 ⟨rfl, hw⟩; have hw := hw.symm; subst hw))
                go_roundw
                case rel =>
                  have := HLL.out
                  exact ⟨_, _, _, n + z + m, ⟨out, out.length, false⟩, by omega, rfl, by rw [← HO.out], rfl, by go_num, ac.below hB, Nat.le_of_eq HO.out.symm, by omega, HN.out⟩
                case measure => have := HLL.out; simp [intOf]; omega
            | false =>
              have HN : Hid (Sca t mk br R n ⟨out, out.length, false⟩) := by rw [← Hq.out]; exact HS.out.lineN HK.out H10.out HJ.out HV.out
              as_aux_lemma =>
                go_wp2_with (first
                  | (go_at_call 16; refine htl.mono ?_; rintro e w2 ⟨hB, p2, c2, rfl, hAt2, hle2⟩; have hpc := hasPrefix_calls p2 p1 L c2 m c1 _ mk w2 (hAt2.stay hB) (a1.stay hB) hle2; rw [HV2.out] at hpc)
                  | (go_at_call 18; refine hpc.mono ?_; rintro e w3 ⟨rfl, hw⟩; have hw := hw.symm; subst hw))
                go_roundw
                case rel =>
                  exact ⟨_, _, _, n, ⟨out, out.length, false⟩, by omega, rfl, by rw [← HO.out], rfl, by go_num, ac.below hB, Nat.le_of_eq HO.out.symm, by omega, HN.out⟩
                case measure => simp [intOf]; omega
          · rw [if_neg hcq] at ad
            have htl := tlBlank (some ⟨b0, of0 + q, none⟩) (n - q) (c0 - q) (t.drop q) wr ad (by omega) (by omega)
            rw [hz2, hL] at htl
            clear hL hz2 ad
            cases V with
            | true =>
              have HN : Hid (Sca t mk br R (q + z + m) ⟨out, out.length, false⟩) := by rw [HL1.out]; exact HS.out.line HK.out H10.out HJ.out HV.out
              have := HVL.out rfl
              as_aux_lemma =>
                go_wp2_with (first
                  | (go_at_call 16; refine htl.mono ?_; rintro e w2 ⟨hB, p2, c2, rfl, hAt2, hle2⟩; have hpc := hasPrefix_calls p2 p1 L c2 m c1 _ mk w2 (hAt2.stay hB) (a1.stay hB) hle2; rw [HV2.out] at hpc)
                  | (go_at_call 18; refine hpc.mono ?_; rintro e w3 ⟨rfl, hw⟩; have hw := hw.symm; subst hw))
                go_roundw
                case rel =>
                  have := HLL.out
                  exact ⟨_, _, _, q + z + m, ⟨out, out.length, false⟩, by omega, rfl, by rw [← HO.out], rfl, by go_num, ac.below hB, Nat.le_of_eq HO.out.symm, by omega, HN.out⟩
                case measure => have := HLL.out; simp [intOf]; omega
            | false =>
              have HN : Hid (Sca t mk br R q ⟨out, out.length, false⟩) := by rw [← Hq.out]; exact HS.out.lineN HK.out H10.out HJ.out HV.out
              as_aux_lemma =>
                go_wp2_with (first
                  | (go_at_call 16; refine htl.mono ?_; rintro e w2 ⟨hB, p2, c2, rfl, hAt2, hle2⟩; have hpc := hasPrefix_calls p2 p1 L c2 m c1 _ mk w2 (hAt2.stay hB) (a1.stay hB) hle2; rw [HV2.out] at hpc)
                  | (go_at_call 18; refine hpc.mono ?_; rintro e w3 ⟨rfl, hw⟩; have hw := hw.symm; subst hw))
                go_roundw
                case rel =>
                  exact ⟨_, _, _, q, ⟨out, out.length, false⟩, by omega, rfl, by rw [← HO.out], rfl, by go_num, ac.below hB, Nat.le_of_eq HO.out.symm, by omega, HN.out⟩
                case measure => simp [intOf]; omega
        · have q2 : (((at8 t k).toNat : Int) == 10) = false := bneN (k := 10) h10
          have HF : Hid (Sca t mk br R (k + 1) (freeS ⟨out, ls, hd⟩ (at8 t k))) := HS.out.free HK.out h92 h10
          clear h92 h10
          by_cases h58 : at8 t k = 58
          · have q3 : (((at8 t k).toNat : Int) == 58) = true := beqN (k := 58) (by omega) h58
            have HF2 : Hid (Sca t mk br R (k + 1) ⟨out.take ls, ls, true⟩) := by
              have := HF.out
              unfold freeS at this
              rwa [if_pos h58] at this
            clear h58 HF
            have hcap := ac.own.le
            rcases ac.own.shape with ⟨rfl, hn0, rfl, _⟩ | ⟨g, cur, rfl, hrest⟩
            · have hls0 : ls = 0 := by omega
              subst hls0
              as_aux_lemma =>
                go_wp2
                go_roundw
                case rel => exact ⟨_, _, _, k + 1, ⟨out.take 0, 0, true⟩, by omega, rfl, rfl, rfl, by go_num, ac.take 0 (by omega), by simp, by omega, HF2.out⟩
                case measure => simp [intOf]; omega
            · clear hrest
              as_aux_lemma =>
                go_wp2
                go_roundw
                case rel => exact ⟨_, _, _, k + 1, ⟨out.take ls, ls, true⟩, by omega, rfl, rfl, rfl, by go_num, ac.take ls hls, by simp, by omega, HF2.out⟩
                case measure => simp [intOf]; omega
          · have q3 : (((at8 t k).toNat : Int) == 58) = false := bneN (k := 58) h58
            cases hd with
            | true =>
              have HF2 : Hid (Sca t mk br R (k + 1) ⟨out, ls, true⟩) := by
                have := HF.out
                unfold freeS at this
                rwa [if_neg h58, if_neg (by simp)] at this
              clear h58 HF
              as_aux_lemma =>
                go_wp2
                go_roundw
                case rel => exact ⟨_, _, _, k + 1, ⟨out, ls, true⟩, by omega, rfl, rfl, rfl, by go_num, ac, hls, by omega, HF2.out⟩
                case measure => simp [intOf]; omega
            | false =>
              by_cases hA : alpha (at8 t k) = true
              · have HF2 : Hid (Sca t mk br R (k + 1) ⟨out ++ [at8 t k], ls, false⟩) := by
                  have := HF.out
                  unfold freeS at this
                  rwa [if_neg h58, if_pos (by simp [hA])] at this
                clear h58 HF
                rcases alpha_cases hA with hx | hx | hx | hx | hx | hx
                · obtain ⟨i1, i2⟩ := hx
                  clear hA
                  as_aux_lemma =>
                    go_wp2_with (at_builtin; refine wpList_acc bt rfl (.tmp 146) (.tmp 148) (ac.alloc _) ((at_one _ _).src bt _) rfl rfl rfl (by omega) ?_; intro p4 n4 cap4 w4 a4 hn4 hn5)
                    go_roundw
                    case rel => exact ⟨_, _, _, k + 1, ⟨out ++ [at8 t k], ls, false⟩, by omega, rfl, rfl, rfl, by go_num, a4, by simp only; omega, by omega, HF2.out⟩
                    case measure => simp [intOf]; omega
                · obtain ⟨i1, i2⟩ := hx
                  clear hA
                  as_aux_lemma =>
                    go_wp2_with (at_builtin; refine wpList_acc bt rfl (.tmp 146) (.tmp 148) (ac.alloc _) ((at_one _ _).src bt _) rfl rfl rfl (by omega) ?_; intro p4 n4 cap4 w4 a4 hn4 hn5)
                    go_roundw
                    case rel => exact ⟨_, _, _, k + 1, ⟨out ++ [at8 t k], ls, false⟩, by omega, rfl, rfl, rfl, by go_num, a4, by simp only; omega, by omega, HF2.out⟩
                    case measure => simp [intOf]; omega
                · obtain ⟨i1, i2⟩ := hx
                  clear hA
                  as_aux_lemma =>
                    go_wp2_with (at_builtin; refine wpList_acc bt rfl (.tmp 146) (.tmp 148) (ac.alloc _) ((at_one _ _).src bt _) rfl rfl rfl (by omega) ?_; intro p4 n4 cap4 w4 a4 hn4 hn5)
                    go_roundw
                    case rel => exact ⟨_, _, _, k + 1, ⟨out ++ [at8 t k], ls, false⟩, by omega, rfl, rfl, rfl, by go_num, a4, by simp only; omega, by omega, HF2.out⟩
                    case measure => simp [intOf]; omega
                · obtain ⟨i1, i2, i3⟩ := hx
                  clear hA
                  as_aux_lemma =>
                    go_wp2_with (at_builtin; refine wpList_acc bt rfl (.tmp 146) (.tmp 148) (ac.alloc _) ((at_one _ _).src bt _) rfl rfl rfl (by omega) ?_; intro p4 n4 cap4 w4 a4 hn4 hn5)
                    go_roundw
                    case rel => exact ⟨_, _, _, k + 1, ⟨out ++ [at8 t k], ls, false⟩, by omega, rfl, rfl, rfl, by go_num, a4, by simp only; omega, by omega, HF2.out⟩
                    case measure => simp [intOf]; omega
                · obtain ⟨i1, i2, i3, i4⟩ := hx
                  clear hA
                  as_aux_lemma =>
                    go_wp2_with (at_builtin; refine wpList_acc bt rfl (.tmp 146) (.tmp 148) (ac.alloc _) ((at_one _ _).src bt _) rfl rfl rfl (by omega) ?_; intro p4 n4 cap4 w4 a4 hn4 hn5)
                    go_roundw
                    case rel => exact ⟨_, _, _, k + 1, ⟨out ++ [at8 t k], ls, false⟩, by omega, rfl, rfl, rfl, by go_num, a4, by simp only; omega, by omega, HF2.out⟩
                    case measure => simp [intOf]; omega
                · obtain ⟨i1, i2, i3, i4, i5⟩ := hx
                  clear hA
                  as_aux_lemma =>
                    go_wp2_with (at_builtin; refine wpList_acc bt rfl (.tmp 146) (.tmp 148) (ac.alloc _) ((at_one _ _).src bt _) rfl rfl rfl (by omega) ?_; intro p4 n4 cap4 w4 a4 hn4 hn5)
                    go_roundw
                    case rel => exact ⟨_, _, _, k + 1, ⟨out ++ [at8 t k], ls, false⟩, by omega, rfl, rfl, rfl, by go_num, a4, by simp only; omega, by omega, HF2.out⟩
                    case measure => simp [intOf]; omega
              · have HF2 : Hid (Sca t mk br R (k + 1) ⟨out, ls, false⟩) := by
                  have := HF.out
                  unfold freeS at this
                  rwa [if_neg h58, if_neg (by simpa using hA)] at this
                clear h58 HF
                obtain ⟨i1, i2, i3, i4, i5, i6⟩ := alpha_not (by simpa using hA)
                have HI : Hid (¬ (65 ≤ ((at8 t k).toNat : Int) ∧ ((at8 t k).toNat : Int) ≤ 90)) := i1
                have HI2 : Hid (¬ (97 ≤ ((at8 t k).toNat : Int) ∧ ((at8 t k).toNat : Int) ≤ 122)) := i2
                have HI3 : Hid (¬ (48 ≤ ((at8 t k).toNat : Int) ∧ ((at8 t k).toNat : Int) ≤ 57)) := i3
                clear hA i1 i2 i3
                as_aux_lemma =>
                  go_wp2
                  all_goals
                    first
                    | (exfalso; have := HI.out; have := HI2.out; have := HI3.out; omega)
                    | (go_roundw
                       case rel => exact ⟨_, _, _, k + 1, ⟨out, ls, false⟩, by omega, rfl, rfl, rfl, by go_num, ac, hls, by omega, HF2.out⟩
                       case measure => simp [intOf]; omega)
    · have HF : Hid (R = out) := HS.out.done (by have := HL.out; omega)
      as_aux_lemma =>
        go_wp2
        go_ret
        exact ⟨_, _, _, rfl, by rw [HF.out]; exact ac⟩
end Go.Proofs.Qxb6603002aDoor
