import Derived.Test.Qxb6603002aDoorModKit
import Derived.Test.Qxb6603002aDoorLeaf2
namespace Go.Proofs.Qxb6603002aDoor
open Go Go.RowKit

theorem at_drop {w : World} {b o n : Nat} {l : List UInt8} (h : At w (some ⟨b, o, none⟩) n l) (q : Nat) (hq : q ≤ n) (c : Nat) (hnc : n ≤ c) : At w (if c = q then some (⟨b, o, none⟩ : Addr) else some ⟨b, o + q, none⟩) (n - q) (l.drop q) := by
  have hl := h.len
  by_cases hc : c = q
  · rw [if_pos hc]
    have : n - q = 0 := by omega
    rw [this, List.drop_of_length_le (by omega)]
    exact At.empty _ _
  · rw [if_neg hc]
    refine ⟨by simp; omega, fun j hj => ?_⟩
    simp at hj
    obtain ⟨b', o', hp, hcell⟩ := h.cells (q + j) (by omega)
    cases hp
    refine ⟨b, o + q, rfl, ?_⟩
    rw [Nat.add_assoc, hcell]
    simp

theorem seg_succ (F : List Bool) (t : List UInt8) (a q : Nat) (h : a ≤ q) : seg F t a (q + 1 - a) = seg F t a (q - a) ++ [(at1 F q, at8 t q)] := by
  obtain ⟨d, rfl⟩ : ∃ d, q = a + d := ⟨q - a, by omega⟩
  rw [show a + d + 1 - a = d + 1 by omega, show a + d - a = d by omega]
  rfl
theorem seg_len (F : List Bool) (t : List UInt8) (a d : Nat) : (seg F t a d).length = d := by
  induction d with
  | zero => rfl
  | succ d ih => simp [seg, ih]
theorem kept_len (F : List Bool) (t : List UInt8) (a d : Nat) : (kept (seg F t a d)).length ≤ d := by
  unfold kept
  rw [List.length_map]
  exact Nat.le_trans (List.length_filter_le _ _) (by rw [seg_len]; exact Nat.le_refl _)

set_option maxHeartbeats 4000000 in
set_option maxRecDepth 100000 in
theorem model_calls (p0 p1 : Option Addr) (n c0 m c1 : Nat) (t mk : List UInt8) (br : Int) (w : World) (h0 : At w p0 n t) (h1 : At w p1 m mk) (hnc : n ≤ c0) (hnm : n + m ≤ 1048576)
    (o0 : Off none w.heap.size p0) (o1 : Off none w.heap.size p1) (hbr : -9223372036854775808 ≤ br) (hbr' : br ≤ 9223372036854775807) :
    Calls Tryd.prog 10 #[.slice p0 n c0, .slice p1 m c1, .int .i64 br] w fun e w' => ∃ p n' cap, e = .returned (.slice p n' cap) ∧ Acc w none w' p n' cap (model t mk br) := by
  obtain ⟨R, hR⟩ : ∃ R, pass t mk br t.length 0 (zeros t.length) (zeros (t.length + 1)) = R := ⟨_, rfl⟩
  have HM : Hid (model t mk br = second t R.1 R.2 t.length 0 []) := by show _ = _; rw [← hR]; rfl
  have hl0 := h0.len
  have hl1 := h1.len
  have HL : Hid (n = t.length) := hl0
  have HR : Hid (Pas t mk br R 0 (zeros n) (zeros (n + 1))) := by rw [hl0]; exact ⟨_, Nat.le_refl _, hR⟩
  have HL1 : Hid (m = mk.length) := hl1
  clear hR hl0 hl1
  have hi28 : (Tryd.prog.info? 4).map (fun i => (i.zero, i.size, i.bytes)) = some (some (.bool false), 1, 1) := by kernel_rfl
  go_enter Tryd.func10, Tryd.ntmps10
  go_wp2_with (first
    | (at_make; refine wpList_make_bool Tryd.underlying28 hi28 rfl _ _ rfl rfl rfl n (by omega) (by omega) (by omega) ?_; intro w1 bF oF hB1 hg1 hs1 ht1)
    | (at_make; refine wpList_make_bool Tryd.underlying28 hi28 rfl _ _ rfl rfl rfl (n + 1) (by omega) (by omega) (by omega) ?_; intro w2 bC oC hB2 hg2 hs2 _))
  have ars : Ars w w2 n bF oF bC oC (zeros n) (zeros (n + 1)) :=
    ⟨grown_chain hg1 hg2 (fun b e => by cases e), hB1.grown hg2, hB2, by simp [zeros], by simp [zeros], hs1, Nat.le_trans hg1.size hs2, by omega⟩
  clear hB1 hg1 hs1 ht1 hB2 hg2 hs2
  go_loopw [10] (fun i wr => ∃ k F C, k ≤ n ∧ i = .int .i64 (k : Nat) ∧ Ars w wr n bF oF bC oC F C ∧ Pas t mk br R k F C) (fun i _ => n - (intOf i).toNat)
  case atStart => exact ⟨0, _, _, Nat.zero_le _, rfl, ars, HR.out⟩
  case round =>
    obtain ⟨k, F, C, hk, rfl, ar, hP⟩ := hrel
    have HP : Hid (Pas t mk br R k F C) := hP
    clear hP ars HR
    have a0 : At wr p0 n t := at_off h0 ar.grown o0
    by_cases hlt : k < n
    · obtain ⟨b0, of0, rfl, hc⟩ := get8 a0 k hlt
      by_cases h92 : at8 t k = 92
      · have q1 : (((at8 t k).toNat : Int) == 92) = true := beqN (k := 92) (by omega) h92
        have H92 : Hid (at8 t k = 92) := h92
        have HE : Hid (k + 1 + runP isBack t (k + 1) = k + runP isBack t k) := by
          show _ = _
          have hh : k < t.length := by have := HL.out; omega
          rw [runP_pos (p := isBack) hh (by rw [at8_get hh, h92]; rfl)]
          omega
        clear h92
        go_wp2
        go_loopw [12] (fun i wq => ∃ q : Nat, k < q ∧ q ≤ n ∧ i = .int .i64 (q : Nat) ∧ q + runP isBack t q = k + runP isBack t k ∧ wq = wr) (fun i _ => n - (intOf i).toNat)
        case atStart => exact ⟨k + 1, by omega, by omega, by go_num, HE.out, rfl⟩
        case round =>
          obtain ⟨q, hkq, hq, rfl, hrun, hw⟩ := hrel
          subst hw
          have HU : Hid (q + runP isBack t q = k + runP isBack t k) := hrun
          clear hrun HE
          by_cases hqn : q < n
          · obtain ⟨_, _, he, hcq⟩ := get8 a0 q hqn
            cases he
            by_cases g92 : at8 t q = 92
            · have r1 : (((at8 t q).toNat : Int) == 92) = true := beqN (k := 92) (by omega) g92
              have HN : Hid (q + 1 + runP isBack t (q + 1) = k + runP isBack t k) := by
                show _ = _
                have hh : q < t.length := by have := HL.out; omega
                have := HU.out
                rw [runP_pos (p := isBack) hh (by rw [at8_get hh, g92]; rfl)] at this
                omega
              clear g92
              go_wp2
              go_roundw
              case rel => exact ⟨q + 1, by omega, by omega, by go_num, HN.out, by trivial⟩
              case measure => simp [intOf]; omega
            · have r1 : (((at8 t q).toNat : Int) == 92) = false := bneN (k := 92) g92
              have HJ : Hid (q = k + runP isBack t k) := by
                show _ = _
                have hh : q < t.length := by have := HL.out; omega
                have := HU.out
                rw [runP_neg (p := isBack) hh (by rw [at8_get hh]; simp [isBack, g92])] at this
                omega
              clear g92
              have HK : Hid (q < t.length) := by have := HL.out; show _ < _; omega
              have HQ : Hid (k < t.length) := by have := HL.out; show _ < _; omega
              by_cases g110 : at8 t q = 110
              · have r2 : (((at8 t q).toNat : Int) == 110) = true := beqN (k := 110) (by omega) g110
                have HG : Hid (at8 t q = 110) := g110
                have HX : Hid (isEsc (at8 t q) = true) := by show _ = _; rw [g110]; rfl
                clear g110
                by_cases hb0 : 0 < br
                · by_cases hbr2 : br ≤ ((q - k : Nat) : Int)
                  · obtain ⟨B, hB⟩ : ∃ B, brk (q - k) br = B := ⟨_, rfl⟩
                    have e1 := brk_of_sub (r := q - k) hb0
                    rw [hB] at e1
                    have e3 : (((q - k : Nat) : Int)) = (q : Int) - (k : Int) := by omega
                    rw [e3] at e1
                    have HB : Hid (brk (runP isBack t k) br = B) := by
                      show _ = _
                      rw [← hB]; congr 1; have := HJ.out; omega
                    have b1 : br ≤ (q : Int) - (k : Int) := by omega
                    have b2 : (2 * br == 0) = false := by rw [beq_eq_false_iff_ne]; omega
                    have b3 : ((((q : Int) - (k : Int)) - br) % (2 * br) == 0) = B := by rw [e1]; rfl
                    clear hB e1 e3 hbr2
                    have hcC := ar.cellC (q + 1) (by omega)
                    have hsC := ar.softC (q + 1)
                    cases B with
                    | true =>
                      go_wp2
                      go_roundw
                      case rel => exact ⟨q + 1, _, _, by omega, by go_num, ar.setC (q + 1) (by omega), HP.out.escN HQ.out H92.out HJ.out ⟨HK.out, HX.out⟩ ⟨HG.out, HB.out⟩⟩
                      case measure => simp [intOf]; omega
                    | false =>
                      go_wp2
                      go_roundw
                      case rel => exact ⟨q + 1, _, _, by omega, by go_num, ar, HP.out.esc HQ.out H92.out HJ.out ⟨HK.out, HX.out⟩ (fun h => by rw [HB.out] at h; cases h.2)⟩
                      case measure => simp [intOf]; omega
                  · have HZ : Hid (¬ brk (runP isBack t k) br = true) := fun h => by
                      have := (brk_le h).2
                      have := HJ.out
                      omega
                    have b1 : ¬ br ≤ (q : Int) - (k : Int) := by omega
                    clear hbr2
                    go_wp2
                    go_roundw
                    case rel => exact ⟨q + 1, _, _, by omega, by go_num, ar, HP.out.esc HQ.out H92.out HJ.out ⟨HK.out, HX.out⟩ (fun h => HZ.out h.2)⟩
                    case measure => simp [intOf]; omega
                · have HZ : Hid (¬ brk (runP isBack t k) br = true) := fun h => hb0 (brk_le h).1
                  go_wp2
                  go_roundw
                  case rel => exact ⟨q + 1, _, _, by omega, by go_num, ar, HP.out.esc HQ.out H92.out HJ.out ⟨HK.out, HX.out⟩ (fun h => HZ.out h.2)⟩
                  case measure => simp [intOf]; omega
              · have r2 : (((at8 t q).toNat : Int) == 110) = false := bneN (k := 110) g110
                have HG : Hid (at8 t q ≠ 110) := g110
                by_cases g114 : at8 t q = 114
                · have r3 : (((at8 t q).toNat : Int) == 114) = true := beqN (k := 114) (by omega) g114
                  have HX : Hid (isEsc (at8 t q) = true) := by show _ = _; rw [g114]; rfl
                  clear g110 g114
                  go_wp2
                  go_roundw
                  case rel => exact ⟨q + 1, _, _, by omega, by go_num, ar, HP.out.esc HQ.out H92.out HJ.out ⟨HK.out, HX.out⟩ (fun h => HG.out h.1)⟩
                  case measure => simp [intOf]; omega
                · have r3 : (((at8 t q).toNat : Int) == 114) = false := bneN (k := 114) g114
                  by_cases g116 : at8 t q = 116
                  · have r4 : (((at8 t q).toNat : Int) == 116) = true := beqN (k := 116) (by omega) g116
                    have HX : Hid (isEsc (at8 t q) = true) := by show _ = _; rw [g116]; rfl
                    clear g110 g114 g116
                    go_wp2
                    go_roundw
                    case rel => exact ⟨q + 1, _, _, by omega, by go_num, ar, HP.out.esc HQ.out H92.out HJ.out ⟨HK.out, HX.out⟩ (fun h => HG.out h.1)⟩
                    case measure => simp [intOf]; omega
                  · have r4 : (((at8 t q).toNat : Int) == 116) = false := bneN (k := 116) g116
                    have HX : Hid (isEsc (at8 t q) = false) := by show _ = _; simp [isEsc, g110, g114, g116]
                    clear g110 g114 g116
                    go_wp2
                    go_roundw
                    case rel => exact ⟨q, _, _, hq, rfl, ar, HP.out.back HQ.out H92.out HJ.out (by rw [HX.out]; simp)⟩
                    case measure => simp [intOf]; omega
          · have HJ : Hid (q = k + runP isBack t k) := by
              show _ = _
              have hh : t.length ≤ q := by have := HL.out; omega
              have := HU.out
              rw [runP_end hh] at this
              omega
            go_wp2
            go_roundw
            case rel => exact ⟨q, _, _, hq, rfl, ar, HP.out.back (by have := HL.out; omega) H92.out HJ.out (by have := HL.out; omega)⟩
            case measure => simp [intOf]; omega
      · by_cases h10 : at8 t k = 10
        · have q1 : (((at8 t k).toNat : Int) == 92) = false := bneN (k := 92) h92
          have q2 : (((at8 t k).toNat : Int) == 10) = true := beqN (k := 10) (by omega) h10
          have H10 : Hid (at8 t k = 10) := h10
          have hcC := ar.cellC (k + 1) (by omega)
          have hsC := ar.softC (k + 1)
          have ar2 := ar.setC (k + 1) (by omega)
          clear h92 h10
          go_wp2
          clear hcC hsC hc a0 ar
          obtain ⟨W, hW⟩ : ∃ W, wr.setCell ⟨bC, oC + (k + 1), none⟩ (.bool true) = W := ⟨_, rfl⟩
          rw [hW] at ar2
          simp only [hW]
          clear hW
          have a0 : At W (some ⟨b0, of0, none⟩) n t := at_off h0 ar2.grown o0
          have a1 : At W p1 m mk := at_off h1 ar2.grown o1
          go_loopw [14] (fun i wq => ∃ q : Nat, k < q ∧ q ≤ n ∧ i = .int .i64 (q : Nat) ∧ q + runP isBlank t q = k + 1 + runP isBlank t (k + 1) ∧ wq = W) (fun i _ => n - (intOf i).toNat)
          case atStart => exact ⟨k + 1, by omega, by omega, by go_num, rfl, rfl⟩
          case round =>
            obtain ⟨q, hkq, hq, rfl, hrun, hw⟩ := hrel
            subst hw
            have HU : Hid (q + runP isBlank t q = k + 1 + runP isBlank t (k + 1)) := hrun
            clear hrun
            by_cases hqb : q < n ∧ isBlank (at8 t q) = true
            · obtain ⟨hqn, hbl⟩ := hqb
              obtain ⟨_, _, he, hcq⟩ := get8 a0 q hqn
              cases he
              have HN : Hid (q + 1 + runP isBlank t (q + 1) = k + 1 + runP isBlank t (k + 1)) := by
                show _ = _
                have hh : q < t.length := by have := HL.out; omega
                have := HU.out
                rw [runP_pos (p := isBlank) hh (by rw [at8_get hh]; exact hbl)] at this
                omega
              by_cases g32 : at8 t q = 32
              · have r1 : (((at8 t q).toNat : Int) == 32) = true := beqN (k := 32) (by omega) g32
                clear g32 hbl
                go_wp2
                go_roundw
                case rel => exact ⟨q + 1, by omega, by omega, by go_num, HN.out, by trivial⟩
                case measure => simp [intOf]; omega
              · have r1 : (((at8 t q).toNat : Int) == 32) = false := bneN (k := 32) g32
                have r2 : (((at8 t q).toNat : Int) == 9) = true := beqN (k := 9) (by omega) (by simpa [isBlank, g32] using hbl)
                clear g32 hbl
                go_wp2
                go_roundw
                case rel => exact ⟨q + 1, by omega, by omega, by go_num, HN.out, by trivial⟩
                case measure => simp [intOf]; omega
            · have HJ : Hid (q = k + 1 + runP isBlank t (k + 1)) := by
                show _ = _
                have := HU.out
                by_cases hqn : q < n
                · have hh : q < t.length := by have := HL.out; omega
                  rw [runP_neg (p := isBlank) hh (by rw [at8_get hh]; simpa [hqn] using hqb)] at this
                  omega
                · rw [runP_end (by have := HL.out; omega)] at this
                  omega
              have HK : Hid (k < t.length) := by have := HL.out; show _ < _; omega
              have ad := at_drop a0 q hq c0 hnc
              obtain ⟨V, hV⟩ : ∃ V, mk.isPrefixOf (t.drop q) = V := ⟨_, rfl⟩
              have HV : Hid (mk.isPrefixOf (t.drop q) = V) := hV
              have HVL : Hid (V = true → q + m ≤ n) := by
                intro e
                rw [e] at hV
                have h5 := (List.isPrefixOf_iff_prefix.1 hV).length_le
                have := HL.out
                have := HL1.out
                simp at h5
                omega
              clear hV
              by_cases hqn : q < n
              · obtain ⟨_, _, he, hcq⟩ := get8 a0 q hqn
                cases he
                have r1 : (((at8 t q).toNat : Int) == 32) = false := bneN (k := 32) (fun e => hqb ⟨hqn, by rw [e]; rfl⟩)
                have r2 : (((at8 t q).toNat : Int) == 9) = false := bneN (k := 9) (fun e => hqb ⟨hqn, by rw [e]; rfl⟩)
                have hpc := prefix_calls (some ⟨b0, of0 + q, none⟩) p1 (n - q) (c0 - q) m c1 (t.drop q) mk wr (by rw [if_neg (by omega)] at ad; exact ad) a1 (by omega) (by omega)
                rw [HV.out] at hpc
                clear hqb ad
                cases V with
                | true =>
                  have := HVL.out rfl
                  go_wp2_with (go_at_call 15; refine hpc.mono ?_; rintro e w' ⟨rfl, j, hw⟩; have hw := hw.symm; subst hw)
                  go_roundw
                  case rel => exact ⟨q + m, _, _, by omega, by go_num, ar2.drewN j, by rw [HL1.out]; exact HP.out.line HK.out H10.out HJ.out HV.out⟩
                  case measure => simp [intOf]; omega
                | false =>
                  go_wp2_with (go_at_call 15; refine hpc.mono ?_; rintro e w' ⟨rfl, j, hw⟩; have hw := hw.symm; subst hw)
                  go_roundw
                  case rel => exact ⟨k + 1, _, _, by omega, by go_num, ar2.drewN j, HP.out.lineN HK.out H10.out HJ.out HV.out⟩
                  case measure => simp [intOf]; omega
              · clear hqb
                obtain rfl : q = n := by omega
                clear hqn hq HU
                by_cases hcq : c0 = q
                · have hpc := prefix_calls (some ⟨b0, of0, none⟩) p1 0 0 m c1 (t.drop q) mk wr (by rw [if_pos hcq, Nat.sub_self] at ad; exact ad) a1 (by omega) (by omega)
                  rw [HV.out] at hpc
                  clear ad
                  subst hcq
                  cases V with
                  | true =>
                    have := HVL.out rfl
                    go_wp2_with (go_at_call 15; refine hpc.mono ?_; rintro e w' ⟨rfl, j, hw⟩; have hw := hw.symm; subst hw)
                    go_roundw
                    case rel => exact ⟨c0 + m, _, _, by omega, by go_num, ar2.drewN j, by rw [HL1.out]; exact HP.out.line HK.out H10.out HJ.out HV.out⟩
                    case measure => simp [intOf]; omega
                  | false =>
                    go_wp2_with (go_at_call 15; refine hpc.mono ?_; rintro e w' ⟨rfl, j, hw⟩; have hw := hw.symm; subst hw)
                    go_roundw
                    case rel => exact ⟨k + 1, _, _, by omega, by go_num, ar2.drewN j, HP.out.lineN HK.out H10.out HJ.out HV.out⟩
                    case measure => simp [intOf]; omega
                · have hpc := prefix_calls (some ⟨b0, of0 + q, none⟩) p1 0 (c0 - q) m c1 (t.drop q) mk wr (by rw [if_neg hcq, Nat.sub_self] at ad; exact ad) a1 (by omega) (by omega)
                  rw [HV.out] at hpc
                  clear ad
                  cases V with
                  | true =>
                    have := HVL.out rfl
                    go_wp2_with (go_at_call 15; refine hpc.mono ?_; rintro e w' ⟨rfl, j, hw⟩; have hw := hw.symm; subst hw)
                    go_roundw
                    case rel => exact ⟨q + m, _, _, by omega, by go_num, ar2.drewN j, by rw [HL1.out]; exact HP.out.line HK.out H10.out HJ.out HV.out⟩
                    case measure => simp [intOf]; omega
                  | false =>
                    go_wp2_with (go_at_call 15; refine hpc.mono ?_; rintro e w' ⟨rfl, j, hw⟩; have hw := hw.symm; subst hw)
                    go_roundw
                    case rel => exact ⟨k + 1, _, _, by omega, by go_num, ar2.drewN j, HP.out.lineN HK.out H10.out HJ.out HV.out⟩
                    case measure => simp [intOf]; omega
        · have q1 : (((at8 t k).toNat : Int) == 92) = false := bneN (k := 92) h92
          have q2 : (((at8 t k).toNat : Int) == 10) = false := bneN (k := 10) h10
          have hcF := ar.cellF k hlt
          have hsF := ar.softF k
          have H92 : Hid (at8 t k ≠ 92) := h92
          have H10 : Hid (at8 t k ≠ 10) := h10
          clear h92 h10
          go_wp2
          go_roundw
          case rel => exact ⟨k + 1, _, _, by omega, by go_num, ar.setF k hlt, HP.out.free (by have := HL.out; omega) H92.out H10.out⟩
          case measure => simp [intOf]; omega
    · obtain rfl : k = n := by omega
      rename World => W1
      have hRR : R = (F, C) := HP.out.done (by have := HL.out; omega)
      have HS : Hid (Sec t F C (model t mk br) 0 []) := by
        rw [HM.out, hRR]; exact ⟨_, Nat.le_refl _, rfl⟩
      have hBF := ar.fF
      have hBC := ar.fC
      have lF : Hid (F.length = k) := ar.lF
      have lC : Hid (C.length = k + 1) := ar.lC
      have HG : w.grownBy W1 none := ar.grown
      clear hRR HP HM hlt h0 h1 o1
      have o0' : Off none W1.heap.size p0 := fun ad e => ⟨by simp, Nat.lt_of_lt_of_le (o0 ad e).2 HG.size⟩
      clear ar o0
      go_wp2_with (at_make; refine wpList_make_b bt rfl _ _ rfl rfl rfl 0 k (by omega) (by omega) (by omega) (by omega) ?_; intro w3 hown3 hg3; have acc := acc_made hown3 hg3; clear hown3 hg3)
      go_loopw [15, 16] (fun v i wq => ∃ p n' cap a o, a ≤ k ∧ v = .slice p n' cap ∧ i = .int .i64 (a : Nat) ∧ Acc W1 none wq p n' cap o ∧ o.length ≤ a ∧ Sec t F C (model t mk br) a o) (fun _ i _ => k - (intOf i).toNat)
      case atStart => exact ⟨_, _, _, 0, [], Nat.zero_le _, rfl, rfl, acc, Nat.zero_le _, HS.out⟩
      case round =>
        obtain ⟨p, n', cap, a, o, ha, rfl, rfl, ac, hol, hS⟩ := hrel
        have HS2 : Hid (Sec t F C (model t mk br) a o) := hS
        clear hS acc HS
        by_cases hak : a < k
        · obtain ⟨E, hE⟩ : ∃ E, lend C t.length a = E := ⟨_, rfl⟩
          have HE : Hid (lend C k a = E) := by rw [HL.out]; exact hE
          have hE2 : a < E ∧ E ≤ k := by
            have h5 := lend_ok C k a hak (by have := lC.out; omega)
            rw [HE.out] at h5
            exact ⟨h5.1, h5.2.1⟩
          have HST : Hid (Sec t F C (model t mk br) E (o ++ if hdr (seg F t a (E - a)) = true then [] else kept (seg F t a (E - a)))) := HS2.out.step (by rw [← HL.out]; exact lC.out) (by rw [← HL.out]; exact hak) hE
          clear hE HS2
          have bF2 := hBF.grown ac.grown
          have bC2 := hBC.grown ac.grown
          have a2 : At _ p0 k t := ac.at a0 o0'
          go_wp2
          go_loopw [17] (fun i ww => ∃ b : Nat, a < b ∧ b ≤ E ∧ i = .int .i64 (b : Nat) ∧ b + runP (fun b => !b) (C.take k) b = E ∧ ww = wr) (fun i _ => k - (intOf i).toNat)
          case atStart => exact ⟨a + 1, by omega, by omega, by go_num, HE.out, rfl⟩
          case round =>
            obtain ⟨b, hab, hbE, rfl, hrun, hw⟩ := hrel
            subst hw
            have HU : Hid (b + runP (fun b => !b) (C.take k) b = E) := hrun
            clear hrun
            have hlT : Hid ((C.take k).length = k) := by show _ = _; simp [lC.out]
            by_cases hbb : b < k ∧ at1 C b = false
            · obtain ⟨hbk, hv⟩ := hbb
              have hcC := bC2.cells b (by rw [lC.out]; omega)
              have hat := at1_take C k b hbk (by rw [lC.out]; omega)
              rw [hv] at hcC
              have HN : Hid (b + 1 + runP (fun b => !b) (C.take k) (b + 1) = E) := by
                show _ = _
                have := HU.out
                rw [runP_pos (p := fun b => !b) (by rw [hlT.out]; exact hbk) (by rw [← hat, hv]; rfl)] at this
                omega
              have : b < E := by have := HN.out; omega
              clear hat hv
              go_wp2
              go_roundw
              case rel => exact ⟨b + 1, by omega, by omega, by go_num, HN.out, by trivial⟩
              case measure => simp [intOf]; omega
            · have hbe : b = E := by
                have := HU.out
                by_cases hbk : b < k
                · have hat := at1_take C k b hbk (by rw [lC.out]; omega)
                  rw [runP_neg (p := fun b => !b) (by rw [hlT.out]; exact hbk) (by
                    rw [← hat]
                    cases hv : at1 C b with
                    | false => exact absurd ⟨hbk, hv⟩ hbb
                    | true => rfl)] at this
                  omega
                · omega
              subst hbe
              clear HU hbE HE hlT
              by_cases hbk : b < k
              case' pos =>
                have hcC := bC2.cells b (by rw [lC.out]; omega)
                have hv : at1 C b = true := by
                  cases hv : at1 C b with
                  | false => exact absurd ⟨hbk, hv⟩ hbb
                  | true => rfl
                rw [hv] at hcC
                clear hv hbb
                go_wp2
                clear hcC
              case' neg =>
                clear hbb
                go_wp2
              all_goals
                go_loopw [18, 19] (fun h i ww => ∃ q : Nat, a ≤ q ∧ q ≤ b ∧ h = .bool (hdr (seg F t a (q - a))) ∧ i = .int .i64 (q : Nat) ∧ ww = wr) (fun _ i _ => k - (intOf i).toNat)
                case atStart => exact ⟨a, Nat.le_refl _, by omega, by rw [Nat.sub_self]; rfl, rfl, rfl⟩
                case round =>
                  obtain ⟨q, haq, hqb, rfl, rfl, hw⟩ := hrel
                  subst hw
                  by_cases hq : q < b
                  · have hcF := bF2.cells q (by rw [lF.out]; omega)
                    have hss := seg_succ F t a q haq
                    obtain ⟨H, hH⟩ : ∃ H, hdr (seg F t a (q - a)) = H := ⟨_, rfl⟩
                    have HH : Hid (hdr (seg F t a (q + 1 - a)) = (H || (at1 F q && at8 t q == 58))) := by
                      show _ = _
                      rw [hss, hdr_snoc, hH]
                    rw [hH]
                    clear hss hH
                    cases hv : at1 F q with
                    | false =>
                      rw [hv] at hcF HH
                      clear hv
                      go_wp2
                      go_roundw
                      case rel => exact ⟨q + 1, by omega, by omega, by rw [HH.out]; simp, by go_num, by trivial⟩
                      case measure => simp [intOf]; omega
                    | true =>
                      rw [hv] at hcF HH
                      clear hv
                      obtain ⟨_, _, rfl, hcq⟩ := get8 a2 q (by omega)
                      by_cases g58 : at8 t q = 58
                      · have r1 : (((at8 t q).toNat : Int) == 58) = true := beqN (k := 58) (by omega) g58
                        rw [g58] at HH
                        clear g58
                        go_wp2
                        go_roundw
                        case rel => exact ⟨q + 1, by omega, by omega, by rw [HH.out]; simp, by go_num, by trivial⟩
                        case measure => simp [intOf]; omega
                      · have r1 : (((at8 t q).toNat : Int) == 58) = false := bneN (k := 58) g58
                        have HG2 : Hid (hdr (seg F t a (q + 1 - a)) = H) := by show _ = _; rw [HH.out]; simp [g58]
                        clear g58 HH
                        go_wp2
                        go_roundw
                        case rel => exact ⟨q + 1, by omega, by omega, by rw [HG2.out], by go_num, by trivial⟩
                        case measure => simp [intOf]; omega
                  · obtain rfl : q = b := by omega
                    obtain ⟨H, hH⟩ : ∃ H, hdr (seg F t a (q - a)) = H := ⟨_, rfl⟩
                    rw [hH] at HST
                    have HH : Hid (hdr (seg F t a (q - a)) = H) := hH
                    rw [hH]
                    clear hH
                    cases H with
                    | true =>
                      go_wp2
                      go_roundw
                      case rel => exact ⟨_, _, _, q, o, by omega, rfl, rfl, ac, by omega, by have := HST.out; simpa using this⟩
                      case measure => simp [intOf]; omega
                    | false =>
                      go_wp2
                      go_loopw [15, 20] (fun v i ww => ∃ p2 n2 cap2 q2, a ≤ q2 ∧ q2 ≤ q ∧ v = .slice p2 n2 cap2 ∧ i = .int .i64 (q2 : Nat) ∧ Acc W1 none ww p2 n2 cap2 (o ++ kept (seg F t a (q2 - a)))) (fun _ i _ => k - (intOf i).toNat)
                      case atStart => exact ⟨_, _, _, a, Nat.le_refl _, by omega, rfl, rfl, ac.cast (by rw [Nat.sub_self]; simp [seg, kept])⟩
                      case round =>
                        obtain ⟨p2, n2, cap2, q2, haq2, hq2, rfl, rfl, ac2⟩ := hrel
                        have hn2 : n2 ≤ k + k := by
                          have h5 := ac2.own.len
                          have h6 := kept_len F t a (q2 - a)
                          rw [List.length_append] at h5
                          omega
                        by_cases hlt2 : q2 < q
                        · have hcF2 := (hBF.grown ac2.grown).cells q2 (by rw [lF.out]; omega)
                          have HK2 : Hid (kept (seg F t a (q2 + 1 - a)) = kept (seg F t a (q2 - a)) ++ if (at1 F q2 && alpha (at8 t q2)) = true then [at8 t q2] else []) := by
                            show _ = _
                            rw [seg_succ F t a q2 haq2, kept_snoc]
                          cases hv : at1 F q2 with
                          | false =>
                            rw [hv] at hcF2 HK2
                            clear hv
                            go_wp2
                            go_roundw
                            case rel => exact ⟨_, _, _, q2 + 1, by omega, by omega, rfl, by go_num, ac2.cast (by rw [HK2.out]; simp)⟩
                            case measure => simp [intOf]; omega
                          | true =>
                            rw [hv] at hcF2 HK2
                            clear hv
                            obtain ⟨_, _, rfl, hcq2⟩ := get8 (ac2.at a0 o0') q2 (by omega)
                            have hal := fun ww => alpha_calls (at8 t q2) ww
                            cases hA : alpha (at8 t q2) with
                            | false =>
                              rw [hA] at HK2 hal
                              clear hA
                              go_wp2_with (go_at_call 12; refine (hal _).mono ?_; rintro e w' ⟨rfl, hw⟩; have hw := hw.symm; subst hw)
                              go_roundw
                              case rel => exact ⟨_, _, _, q2 + 1, by omega, by omega, rfl, by go_num, ac2.cast (by rw [HK2.out]; simp)⟩
                              case measure => simp [intOf]; omega
                            | true =>
                              rw [hA] at HK2 hal
                              clear hA
                              go_wp2_with (first
                                | (go_at_call 12; refine (hal _).mono ?_; rintro e w' ⟨rfl, hw⟩; have hw := hw.symm; subst hw)
                                | (at_builtin; refine wpList_acc bt rfl (.tmp 206) (.tmp 211) (ac2.alloc _) ((at_one _ _).src bt _) rfl rfl rfl (by omega) ?_; intro p4 n4 cap4 w4 a4 hn4 _))
                              go_roundw
                              case rel => exact ⟨_, _, _, q2 + 1, by omega, by omega, rfl, by go_num, a4.cast (by rw [HK2.out]; simp)⟩
                              case measure => simp [intOf]; omega
                        · obtain rfl : q2 = q := by omega
                          have HFin : Hid ((o ++ kept (seg F t a (q2 - a))).length ≤ q2) := by
                            have h6 := kept_len F t a (q2 - a)
                            show _ ≤ _
                            rw [List.length_append]; omega
                          go_wp2
                          go_roundw
                          case rel => exact ⟨_, _, _, q2, _, by omega, rfl, rfl, ac2, HFin.out, by have := HST.out; simpa using this⟩
                          case measure => simp [intOf]; omega
        · have HF : Hid (model t mk br = o) := by
            have h5 : Sec t F C (model t mk br) a o := HS2.out
            exact h5.done (by have := HL.out; omega)
          go_wp2
          go_ret
          exact ⟨_, _, _, rfl, by rw [HF.out]; exact ⟨ac.own, grown_chain HG ac.grown (fun b e => by cases e), fun ad e => by rcases ac.lies ad e with h5 | h5; exact .inl h5; exact .inr (Nat.le_trans HG.size h5)⟩⟩
end Go.Proofs.Qxb6603002aDoor
