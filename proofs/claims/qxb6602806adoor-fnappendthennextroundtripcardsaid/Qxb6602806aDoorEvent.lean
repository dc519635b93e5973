/- sse.AppendEvent: what it returns, for every buffer that the call owns. -/
import Derived.Test.Qxb6602806aDoorLoop
namespace Go.Proofs.Qxb6602806aDoor
open Go Go.RowKit Go.Shelf
attribute [local go_sem] Oper.semAt_some

set_option maxHeartbeats 4000000 in
theorem event_in (nf : Nat) (hnf : 5 ≤ nf) (p0 p1 p2 : Option Addr) (n0 c0 n1 c1 n2 c2 : Nat) (b name data : List UInt8) (w : World) (h0 : Own w p0 n0 c0 b) (h1 : At w p1 n1 name) (h2 : At w p2 n2 data)
    (hb : n0 ≤ 16777216) (hb1 : n1 + n2 ≤ 1048576) (o1 : Off (blk p0) w.heap.size p1) (o2 : Off (blk p0) w.heap.size p2) (hz2 : p2 = none → c2 = 0) (hc2 : n2 ≤ c2) (hc3 : c2 ≤ 140737488355328) :
    CallsIn Fence.wide nf Tryd.prog 7 #[.slice p0 n0 c0, .agg #[.slice p1 n1 c1, .slice p2 n2 c2]] w fun e w' => ∃ p n cap, e = .returned (.slice p n cap) ∧ Acc w (blk p0) w' p n cap (wire b name data) := by
  have hle0 := h0.le
  have hcm : (c0 : Int) ≤ 9223372036854775807 := by
    rcases h0.shape with ⟨_, _, rfl, _⟩ | ⟨_, _, _, _, _, h2, _⟩
    · omega
    · unfold maxLen at h2; omega
  have ev0 := Ev.start h0 (.slice p1 n1 c1) (.slice p2 n2 c2)
  obtain ⟨he0, he1⟩ := ev0.cells
  have hbx0 : (boxed w (.slice p0 n0 c0) (.slice p1 n1 c1) (.slice p2 n2 c2)).cell? ⟨w.heap.size, 0, none⟩ = some (.slice p0 n0 c0) := cell_of_one (boxed_box _ _ _ _)
  have hbf0 : (boxed w (.slice p0 n0 c0) (.slice p1 n1 c1) (.slice p2 n2 c2)).frozen? ⟨w.heap.size, 0, none⟩ = false := free_of_one (boxed_box _ _ _ _)
  have hwide : ∀ f, Fence.wide.fn f := fun _ => trivial
  refine callsIn_of_wp_marks Tryd.func7 rfl trivial ?_ rfl
  simp only [Tryd.ntmps7, List.size_toArray, List.length_cons, List.length_nil, Nat.reduceAdd, Nat.reduceSub, Array.replicate_succ, Array.replicate_zero, List.push_toArray, List.append_toArray, List.nil_append, List.cons_append]
  have h1nf : 1 ≤ nf := by omega
  obtain ⟨K, hK⟩ : ∃ K : Nat, max (n0 : Int) (8 + n1 + 8 + n2) = (K : Int) := ⟨max n0 (8 + n1 + 8 + n2), by omega⟩
  have hKb : K ≤ n0 + n1 + n2 + 16 := by omega
  obtain ⟨pre, hpre⟩ : ∃ pre, pre = b ++ evt name := ⟨_, rfl⟩
  have HP : Hid (pre = b ++ evt name) := hpre
  have HW : Hid (wire b name data = pre ++ (sData ++ enc data ++ [10, 10])) := by
    show _ = _
    rw [hpre]; simp [wire]
  clear hpre
  refine Or.elim (Decidable.em (0 < n1)) (fun hn => ?nm) (fun hn => ?nn)
  case' nm =>
    have hev : Hid (evt name = sEvent ++ name ++ [10]) := by
      show _ = _
      unfold evt; rw [if_neg]; intro e; have := h1.len; rw [e] at this; simp at this; omega
    refine Or.elim (Decidable.em ((c0 : Int) - (n0 : Int) < 8 + n1 + 8 + n2)) (fun hg => ?ng) (fun hg => ?nr)
  case' nn =>
    have hev : Hid (evt name = []) := by
      show _ = _
      unfold evt; rw [if_pos]; exact List.eq_nil_of_length_eq_zero (by have := h1.len; omega)
    refine Or.elim (Decidable.em ((c0 : Int) - (n0 : Int) < 8 + n1 + 8 + n2)) (fun hg => ?eg) (fun hg => ?er)
  case' ng =>
    gi_wp2_with (first
      | (gi_at_call 15; refine (callsIn_wide.2 (grow_calls p0 n0 c0 K b _ ev0.acc.own (by omega))).mono ?_; rintro e wG ⟨pG, cG, rfl, oG, gG, lG⟩; have evG := ev0.grow oG gG lG; obtain ⟨⟨uG, kG⟩, fG⟩ := evG.boxcell; obtain ⟨dG, tG⟩ := evG.cells; have evA := evG.store (.slice pG n0 cG); clear oG gG lG)
      | (gi_at_builtin; refine wpListIn_ev bt rfl (.tmp 33) _ evA (srcS bt _ sEvent) rfl rfl rfl (by simp [sEvent]; omega) ?_; rintro p4 n4 cap4 w4 a4 ⟨u4, k4⟩ f4 d4 t4 hn4 _; have ev4 := a4.store (.slice p4 n4 cap4))
      | (gi_at_builtin; refine wpListIn_ev bt rfl (.tmp 35) (.tmp 37) ev4 ((ev4.at h1 o1).src bt _) rfl rfl rfl (by simp [sEvent] at hn4; omega) ?_; rintro p5 n5 cap5 w5 a5 ⟨u5, k5⟩ f5 d5 t5 hn5 _; have ev5 := a5.store (.slice p5 n5 cap5))
      | (gi_at_builtin; refine wpListIn_ev bt rfl (.tmp 39) (.tmp 40) (ev5.alloc _) ((at_one' _ 10 _ (size_set _ _ _)).src bt _) rfl rfl rfl (by simp [sEvent] at hn4; omega) ?_; rintro p6 n6 cap6 w6 a6 ⟨u6, k6⟩ f6 d6 t6 hn6 _; have ev6 := a6.store (.slice p6 n6 cap6); have hb6 := a6.stored (.slice p6 n6 cap6)))
    obtain ⟨W, hW⟩ : ∃ W, w6.setCell ⟨w.heap.size, 0, none⟩ (.slice p6 n6 cap6) = W := ⟨_, rfl⟩
    rw [hW] at ev6 hb6 ⊢
    have ev := ev6.cast (l' := pre) (by rw [HP.out, hev.out]; simp)
    obtain ⟨_, hbf⟩ := ev.boxcell
    obtain ⟨_, hE⟩ := ev.cells
    have hnb : n6 ≤ n0 + n1 + 8 := by have e1 := ev.acc.own.len; have e2 := evt_length name; have e3 := h0.len; have e4 := h1.len; rw [HP.out] at e1; simp at e1; omega
    clear hW ev6 a6 k6 f6 d6 t6 hn6 ev5 a5 k5 f5 d5 t5 hn5 ev4 a4 k4 f4 d4 t4 hn4 evA evG kG fG dG tG hg hn he0 he1 hbx0 hbf0 ev0 HP hev hK hKb
    have hbx := hb6
    clear hb6
  case' nr =>
    gi_wp2_with (first
      | (gi_at_builtin; refine wpListIn_ev bt rfl (.tmp 33) _ ev0 (srcS bt _ sEvent) rfl rfl rfl (by simp [sEvent]; omega) ?_; rintro p4 n4 cap4 w4 a4 ⟨u4, k4⟩ f4 d4 t4 hn4 _; have ev4 := a4.store (.slice p4 n4 cap4))
      | (gi_at_builtin; refine wpListIn_ev bt rfl (.tmp 35) (.tmp 37) ev4 ((ev4.at h1 o1).src bt _) rfl rfl rfl (by simp [sEvent] at hn4; omega) ?_; rintro p5 n5 cap5 w5 a5 ⟨u5, k5⟩ f5 d5 t5 hn5 _; have ev5 := a5.store (.slice p5 n5 cap5))
      | (gi_at_builtin; refine wpListIn_ev bt rfl (.tmp 39) (.tmp 40) (ev5.alloc _) ((at_one' _ 10 _ (size_set _ _ _)).src bt _) rfl rfl rfl (by simp [sEvent] at hn4; omega) ?_; rintro p6 n6 cap6 w6 a6 ⟨u6, k6⟩ f6 d6 t6 hn6 _; have ev6 := a6.store (.slice p6 n6 cap6); have hb6 := a6.stored (.slice p6 n6 cap6)))
    obtain ⟨W, hW⟩ : ∃ W, w6.setCell ⟨w.heap.size, 0, none⟩ (.slice p6 n6 cap6) = W := ⟨_, rfl⟩
    rw [hW] at ev6 hb6 ⊢
    have ev := ev6.cast (l' := pre) (by rw [HP.out, hev.out]; simp)
    obtain ⟨_, hbf⟩ := ev.boxcell
    obtain ⟨_, hE⟩ := ev.cells
    have hnb : n6 ≤ n0 + n1 + 8 := by have e1 := ev.acc.own.len; have e2 := evt_length name; have e3 := h0.len; have e4 := h1.len; rw [HP.out] at e1; simp at e1; omega
    clear hW ev6 a6 k6 f6 d6 t6 hn6 ev5 a5 k5 f5 d5 t5 hn5 ev4 a4 k4 f4 d4 t4 hn4  hg hn he0 he1 hbx0 hbf0 ev0 HP hev hK hKb
    have hbx := hb6
    clear hb6
  case' eg =>
    gi_wp2_with (gi_at_call 15; refine (callsIn_wide.2 (grow_calls p0 n0 c0 K b _ ev0.acc.own (by omega))).mono ?_; rintro e wG ⟨pG, cG, rfl, oG, gG, lG⟩; have evG := ev0.grow oG gG lG; obtain ⟨⟨uG, kG⟩, fG⟩ := evG.boxcell; obtain ⟨dG, tG⟩ := evG.cells; have evA := evG.store (.slice pG n0 cG); have hbA := evG.stored (.slice pG n0 cG); clear oG gG lG)
    obtain ⟨W, hW⟩ : ∃ W, wG.setCell ⟨w.heap.size, 0, none⟩ (.slice pG n0 cG) = W := ⟨_, rfl⟩
    rw [hW] at evA hbA ⊢
    have ev := evA.cast (l' := pre) (by rw [HP.out, hev.out]; simp)
    obtain ⟨_, hbf⟩ := ev.boxcell
    obtain ⟨_, hE⟩ := ev.cells
    have hnb : n0 ≤ n0 + n1 + 8 := by omega
    clear hW evA evG kG fG dG tG hg hn he0 he1 hbx0 hbf0 ev0 HP hev hK hKb
    have hbx := hbA
    clear hbA
  case' er =>
    gi_wp2_with fail
    obtain ⟨W, hW⟩ : ∃ W, boxed w (.slice p0 n0 c0) (.slice p1 n1 c1) (.slice p2 n2 c2) = W := ⟨_, rfl⟩
    rw [show (w.alloc (.cells #[.slice p0 n0 c0] 22)).alloc (.cells #[.slice p1 n1 c1, .slice p2 n2 c2] 27) = W from hW]
    rw [hW] at hbx0
    have ev := ev0.cast (l' := pre) (by rw [HP.out, hev.out]; simp)
    rw [hW] at ev
    obtain ⟨_, hbf⟩ := ev.boxcell
    obtain ⟨_, hE⟩ := ev.cells
    have hnb : n0 ≤ n0 + n1 + 8 := by omega
    clear hW hg hn he0 he1 hbf0 ev0 HP hev hK hKb
    have hbx := hbx0
    clear hbx0
  all_goals
    obtain ⟨pb, nb, cb, hbx', ev', hnb'⟩ : ∃ pb nb cb, W.cell? ⟨w.heap.size, 0, none⟩ = some (.slice pb nb cb) ∧ Ev w (.slice p0 n0 c0) (.slice p1 n1 c1) (.slice p2 n2 c2) (blk p0) W pb nb cb pre ∧ nb ≤ n0 + n1 + 8 := ⟨_, _, _, hbx, ev, hnb⟩
    clear hbx ev hnb
    have hat := ev'.at h2 o2
    have kc := fun (w : World) (C : Array Value) (n c : Nat) => Lib.run_convert_bytes_const (P := Tryd.prog) w 22 5 C n c Tryd.underlying22 Tryd.underlying5
    refine (callsIn_wide.2 (ib_calls p2 n2 c2 data W hat hz2)).mono ?_
    rintro e w' ⟨rfl, hw⟩
    have hw := hw.symm
    subst hw
    by_cases hneg : Lib.indexByte data 10 = -1
    · have HE : Hid (enc data = data) := enc_none data hneg
      rw [hneg]
      clear hneg kc
      gi_wp2_with (first
        | (gi_at_builtin; refine wpListIn_ev bt rfl (.tmp 46) _ ev' (srcS bt _ sData) rfl rfl rfl (by simp [sData]; omega) ?_; rintro p7 n7 cap7 w7 a7 ⟨u7, k7⟩ f7 d7 t7 hn7 _; have ev7 := a7.store (.slice p7 n7 cap7))
        | (gi_at_builtin; refine wpListIn_ev bt rfl (.tmp 48) (.tmp 50) ev7 ((ev7.at h2 o2).src bt _) rfl rfl rfl (by simp [sData] at hn7; omega) ?_; rintro p8 n8 cap8 w8 a8 ⟨u8, k8⟩ f8 d8 t8 hn8 _; have ev8 := a8.store (.slice p8 n8 cap8))
        | (gi_at_builtin; refine wpListIn_ev bt rfl (.tmp 52) _ ev8 (srcS bt _ [10, 10]) rfl rfl rfl (by simp [sData] at hn7 ⊢; omega) ?_; rintro p9 n9 cap9 w9 a9 ⟨u9, k9⟩ f9 d9 t9 hn9 _))
      exact ⟨_, results_tmp rfl _ _ _, _, _, _, rfl, (a9.cast (by rw [HW.out, HE.out]; simp)).done⟩
    · obtain ⟨i, hi⟩ : ∃ i : Nat, Lib.indexByte data 10 = (i : Int) := ⟨(Lib.indexByte data 10).toNat, by have := index_ge data; omega⟩
      obtain ⟨bd, od, rfl, hcd⟩ : ∃ bd od, p2 = some ⟨bd, od, none⟩ ∧ True := by
        obtain ⟨hil, _⟩ := lines_some data i hi
        obtain ⟨bd, od, h, _⟩ := h2.cells i hil
        exact ⟨bd, od, h, trivial⟩
      rw [hi]
      clear hneg hi hcd
      gi_wp2_with (gi_at_call 17; refine (callsIn_wide.2 (splitseq_calls _ _ _ _ _)).mono ?_; rintro e wS ⟨rfl, rfl⟩)
      have hbd : bd < w.heap.size := (o2 _ rfl).2
      have hseq := seq_split (nf - 1) (by omega) W bd od n2 c2 data hat (by omega) hc2 hc3 (by have := ev'.acc.size; rw [boxed_size] at this; omega)
      have evs : Ev w (.slice p0 n0 c0) (.slice p1 n1 c1) (.slice (some ⟨bd, od, none⟩) n2 c2) (blk p0) (sepW W (.slice (some ⟨bd, od, none⟩) n2 c2)) pb nb cb pre := (((ev'.alloc _).alloc _).alloc _).alloc _
      have hbs : (sepW W (.slice (some ⟨bd, od, none⟩) n2 c2)).heap[w.heap.size]? = some (.cells #[.slice pb nb cb] 22 (0, 0)) := by
        obtain ⟨v, hv⟩ := ev'.acc.box
        have e1 := cell_of_one hv
        rw [hbx'] at e1
        cases e1
        exact (sepW_old _ _ _ (Array.getElem?_eq_some_iff.1 hv).1).trans hv
      have hWsz := ev'.acc.size
      rw [boxed_size] at hWsz
      have hss := sepW_size W (.slice (some ⟨bd, od, none⟩) n2 c2)
      have hown := evs.acc.own
      have hlt := ev'.acc.own.lt
      have acc0 := evs.done
      refine wpIn_rangeFunc_S1 (w := sepW W (.slice (some ⟨bd, od, none⟩) n2 c2)) 6 rfl h1nf rfl trivial (enters_of Tryd.func27 (by kernel_rfl) rfl) hseq (by omega)
        (fun h k b hb => (k b hb).trans (h b hb)) (fun V l o o' hl _ _ _ b hb => World.putObj_heap_other (by omega)) (Below.refl _ _)
        (fun pc V => LoopInv (sepW W (.slice (some ⟨bd, od, none⟩) n2 c2)) w.heap.size (W.heap.size + 1) (blk pb) nb n2 pc.length (pre ++ flat (pc.map Piece.bytes)) V)
        (LoopInv.own (by omega)) (LoopInv.abides (by omega) ?_ (by omega)) ?_ ?_ ?_ ?_
      · intro e
        cases pb with
        | none => cases e
        | some a => simp [blk] at e; have := hlt a rfl; omega
      · refine ⟨⟨pb, nb, cb, ?_, hbs, fun ad e => .inl (by rw [e]; rfl), by simp⟩, rfl, rfl, rfl, Nat.le_refl _, fun _ _ _ _ _ => rfl⟩
        simpa [flat] using hown
      · intro l x V K hK
        simp only [List.setIfInBounds_toArray, List.set_cons_succ, List.set_cons_zero] at hK ⊢
        gi_wp2
        exact hK
      · rintro l pc x V hinv hpc
        simp only [List.setIfInBounds_toArray, List.set_cons_succ, List.set_cons_zero]
        obtain ⟨pv, nv, cv, hov, hbv, hlv, hnv⟩ := hinv.buf
        have hcv := cell_of_one hbv
        have hfv := free_of_one hbv
        have hx1 := x.2.1
        have hx2 := x.2.2.1
        have hx3 := x.2.2.2
        have hxb : Hid (Piece.bytes x = x.1.2.2) := rfl
        revert hx1 hx2 hx3 hxb
        generalize x.1.1 = px
        generalize x.1.2.1 = nx
        generalize x.1.2.2 = lx
        intro hx1 hx2 hx3 hxb
        have aV := AccS.start hov ⟨_, hbv⟩
        have hvs := hinv.size
        have hnep : ∀ k, k = W.heap.size + 2 ∨ k = W.heap.size ∨ k = W.heap.size + 1 ∨ k = W.heap.size + 3 ∨ k = bd → some k ≠ blk pv := by
          intro k hk
          refine lies_ne hlv (by omega) ?_
          by_cases hkb : k = bd
          · subst hkb; exact lies_ne ev'.acc.lies (by rw [boxed_size]; omega) (o2 _ rfl).1
          · exact lt_ne hlt (by omega)
        have hxV : At V px nx lx := hx1.keep (fun ad e hl => by
          have := hx2 ad e
          subst this
          exact hinv.kept _ hl (by omega) (lies_ne ev'.acc.lies (by rw [boxed_size]; omega) (o2 _ rfl).1) (by omega))
        have hxo : ∀ ad, px = some ad → ad.block ≠ w.heap.size ∧ some ad.block ≠ blk pv := fun ad e => by
          have := hx2 ad e
          subst this
          exact ⟨by omega, hnep _ (by simp)⟩
        have hpcn : pc.length * (n2 + 7) ≤ 1048577 * 1048583 := Nat.mul_le_mul (by omega) (by omega)
        have HI : Hid (LoopInv (sepW W (.slice (some ⟨bd, od, none⟩) n2 c2)) w.heap.size (W.heap.size + 1) (blk pb) nb n2 pc.length (pre ++ flat (pc.map Piece.bytes)) V) := hinv
        have HN : Hid (∀ k, k = W.heap.size + 2 ∨ k = W.heap.size ∨ k = W.heap.size + 1 ∨ k = W.heap.size + 3 ∨ k = bd → some k ≠ blk pv) := hnep
        have HS : Hid ((sepW W (.slice (some ⟨bd, od, none⟩) n2 c2)).heap.size = W.heap.size + 4) := hss
        have HB : Hid (V.heap[w.heap.size]? = some (.cells #[.slice pv nv cv] 22 (0, 0))) := hbv
        clear hinv hnep hss hbs hbv acc0 evs hown hseq kc hE hbf hbx' hat
        gi_wp2_with (first
          | (gi_at_builtin; refine wpListIn_accE bt rfl (.tmp 60) _ aV (srcS bt _ sData) rfl rfl rfl (by simp [sData]; omega) ?_; rintro p4 n4 cap4 w4 a4 ⟨u4, k4⟩ f4 hn4 _; have b4 := a4.store (.slice p4 n4 cap4))
          | (gi_at_builtin; refine wpListIn_accE bt rfl (.tmp 62) (.tmp 63) b4 ((b4.at hxV hxo).src bt _) rfl rfl rfl (by simp [sData] at hn4; omega) ?_; rintro p5 n5 cap5 w5 a5 ⟨u5, k5⟩ f5 hn5 _; have b5 := a5.store (.slice p5 n5 cap5))
          | (gi_at_builtin; refine wpListIn_accE bt rfl (.tmp 65) (.tmp 66) (b5.alloc _) ((at_one' _ 10 _ (size_set _ _ _)).src bt _) rfl rfl rfl (by simp [sData] at hn4; omega) ?_; rintro p6 n6 cap6 w6 a6 ⟨u6, k6⟩ f6 hn6 _; have b6 := a6.store (.slice p6 n6 cap6); have hs6 := a6.stored (.slice p6 n6 cap6)))
        refine ⟨b6.keepsOthers hov ⟨_, HB.out⟩, ?_, ?_⟩
        · intro k hk
          exact b6.kept k (by have := HS.out; have := HI.out.size; omega) (by omega) (HN.out k hk)
        · have hnx := HI.out.next hlv hnv (b6.cast (l' := pre ++ flat (pc.map Piece.bytes ++ [lx])) (by
            rw [flat_append]
            simp [flat])) hs6 (by simp [sData] at hn4; omega)
          show LoopInv _ _ _ _ _ _ (pc ++ [x]).length (pre ++ flat ((pc ++ [x]).map Piece.bytes)) _
          rw [List.length_append, List.map_append, List.map_cons, List.map_nil, hxb.out]
          exact hnx
      · rintro D pc V hD hS hinv hK
        obtain ⟨pv, nv, cv, hbv, accV, hnv⟩ := hinv.acc acc0 (by omega)
        have hcv := cell_of_one hbv
        have hpl : pc.length ≤ n2 + 1 := by
          have e1 := congrArg List.length hS
          have e2 := lines_length data
          have e3 := h2.len
          simp at e1
          omega
        have hpcn : pc.length * (n2 + 7) ≤ 1048577 * 1048583 := Nat.mul_le_mul (by omega) (by omega)
        have aV := AccS.start accV.own ⟨_, hbv⟩
        have HS : Hid (pc.map Piece.bytes = lines data) := hS
        have HB : Hid (V.heap[w.heap.size]? = some (.cells #[.slice pv nv cv] 22 (0, 0))) := hbv
        have HK : Hid (V.heap[D]? = some (.deferred (some []))) := hK
        have HD : Hid (w.heap.size ≤ D) := by show _ ≤ _; omega
        clear hinv hS hbv hK hss hbs acc0 evs hown hseq kc hE hbf hbx' hat hD
        gi_wp2_with (gi_at_builtin; refine wpListIn_accE bt rfl (.tmp 68) (.tmp 69) (aV.alloc _) ((at_one _ 10).src bt _) rfl rfl rfl (by omega) ?_; rintro p4 n4 cap4 w4 a4 ⟨u4, k4⟩ f4 hn4 _)
        have hK4 := (a4.keepsOthers accV.own ⟨_, HB.out⟩).same D _ HK.out rfl
        have acc4 := AccS.acc accV a4 (Nat.le_refl _)
        refine ⟨by simp, .inl ⟨_, _, rfl, run_takeDeferred hK4, ?_⟩⟩
        exact ⟨_, results_tmp rfl _ _ _, _, _, _, rfl, (acc4.cast (by rw [HS.out, HW.out, flat_lines]; simp)).putObj HD.out hK4 _⟩
end Go.Proofs.Qxb6602806aDoor
