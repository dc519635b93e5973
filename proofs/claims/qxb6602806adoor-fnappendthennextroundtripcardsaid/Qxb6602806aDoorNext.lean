/- (*sse.EventReader).Next: one whole event. -/
import Derived.Test.Qxb6602806aDoorNextKit
import Derived.Test.Qxb6602806aDoorItems
import Derived.Deep.LoopGhost
import Derived.Deep.DeepCutAuto
import Derived.Deep.RegionWith
import Derived.Deep.DrawnRows
import Derived.Deep.RegionHeld3
import Derived.Lib.SlBytesConst
namespace Go.Proofs.Qxb6602806aDoor
open Go Go.RowKit Go.Shelf
attribute [local go_sem ↓] Go.wp_at_zero Go.wp_at_succ

/-- The world behind a call that found an event: the reader is as new; all else that was there lies as it lay. -/
structure NextEnd (w : World) (Br : Nat) (W : World) : Prop where
  rd : W.heap[Br]? = some (.cells #[.int .i64 0, .int .i64 0, .slice none 0 0, .slice none 0 0, .bool false] 33 (0, 0))
  os : W.os = w.os
  tape : W.tape = w.tape
  output : W.output = w.output
  size : w.heap.size ≤ W.heap.size
  kept : ∀ j, j < w.heap.size → j ≠ Br → W.heap[j]? = w.heap[j]?

theorem set2_heap (W : World) (B : Nat) (u0 u1 : Value) (j : Nat) (hj : j ≠ B) : ((W.setCell ⟨B, 0, none⟩ u0).setCell ⟨B, 1, none⟩ u1).heap[j]? = W.heap[j]? := by
  rw [Below.heap_setCell _ _ _ _ hj, Below.heap_setCell _ _ _ _ hj]

theorem fin_end {w : World} {Br : Nat} {W5 : World} {e0 e1 : Value} (h : NR w Br W5 e0 e1) (hrd : W5.heap[Br]? = some (.cells #[.int .i64 0, .int .i64 0, .slice none 0 0, .slice none 0 0, .bool false] 33 (0, 0))) (u0 u1 : Value) :
    NextEnd w Br ((W5.setCell ⟨w.heap.size, 0, none⟩ u0).setCell ⟨w.heap.size, 1, none⟩ u1) := by
  have hlt := h.lt
  have hs := h.size
  exact ⟨(set2_heap _ _ _ _ _ (by omega)).trans hrd, h.os, h.tape, h.output, by simp [World.setCell]; omega, fun j hj hne => (set2_heap _ _ _ _ _ (by omega)).trans (h.kept j hj hne)⟩

theorem mark_cell (w : World) (v : Value) : (w.alloc (.cells #[v] 5 (1, 2))).cell? ⟨w.heap.size, 0, none⟩ = some v := by
  unfold World.cell?
  rw [heap_alloc_new w (.cells #[v] 5 (1, 2))]
  simp

theorem at_mark (w : World) (c : UInt8) (H : Nat) (hH : w.heap.size = H) : At (w.alloc (.cells #[.int .u8 (c.toNat : Int)] 5 (1, 2))) (some ⟨H, 0, none⟩) 1 [c] := by
  subst hH
  refine ⟨rfl, fun j hj => ⟨_, _, rfl, ?_⟩⟩
  have : j = 0 := by simpa using hj
  subst this
  unfold World.cell?
  rw [heap_alloc_new w (.cells #[.int .u8 (c.toNat : Int)] 5 (1, 2))]
  simp [bv]

set_option maxRecDepth 100000 in
set_option maxHeartbeats 4000000 in
theorem next_ok (Br b o n c : Nat) (l tail : List UInt8) (its : List (Bool × List UInt8)) (NM DT : List UInt8) (w : World)
    (h : At w (some ⟨b, o, none⟩) n l) (hl : l = rend its ++ 10 :: tail) (hno : ∀ it ∈ its, ∀ c ∈ it.2, c ≠ 10) (hrun : runIt ([], [], false) its = (NM, DT, true)) (hn : n ≤ 16777216) (hnc : n ≤ c) (hc : c ≤ 9223372036854775807) (hDT : DT.length ≤ 16777216)
    (hb : b ≠ Br) (hbl : b < w.heap.size)
    (hr : w.heap[Br]? = some (.cells #[.int .i64 0, .int .i64 0, .slice none 0 0, .slice none 0 0, .bool false] 33 (0, 0))) :
    Calls Tryd.prog 12 #[.pointer (some ⟨Br, 0, none⟩), .slice (some ⟨b, o, none⟩) n c] w fun e w' => ∃ pn nn cn pd nd cd, e = .returned (.tuple #[.agg #[.slice pn nn cn, .slice pd nd cd], .int .i64 (((rend its).length + 1 : Nat) : Int), .bool true]) ∧ At w' pn nn NM ∧ At w' pd nd DT ∧ NextEnd w Br w' := by
  have hBr : Br < w.heap.size := (Array.getElem?_eq_some_iff.1 hr).1
  have ns0 : NS w Br (w.alloc (.cells #[.slice none 0 0, .slice none 0 0] 27)) 0 0 (.slice none 0 0) (.slice none 0 0) false :=
    ⟨(Below.heap_alloc _ _ _ hBr).trans hr, heap_alloc_new w _, rfl, rfl, rfl, by simp, hBr, fun j hj _ => Below.heap_alloc _ _ _ hj⟩
  have kc := fun (w : World) (C : Array Value) (n c : Nat) => Lib.run_convert_bytes_const (P := Tryd.prog) w 22 5 C n c Tryd.underlying22 Tryd.underlying5
  have HL : Hid (n = l.length) := h.len
  have HR : Hid (runIt ([], [], false) its = (NM, DT, true)) := hrun
  have HLl : Hid (l = rend its ++ 10 :: tail) := hl
  have HNO : Hid (∀ it ∈ its, ∀ c ∈ it.2, c ≠ 10) := hno
  clear hl hno hrun hr
  go_enter Tryd.func12, Tryd.ntmps12
  go_wp2
  go_loopg [7] its.length (fun gk _ wr => ∃ (k : Nat) (rem : List (Bool × List UInt8)) (pn : Option Addr) (nn cn : Nat) (pd : Option Addr) (nd cd : Nat) (hd : Bool) (nm dt : List UInt8),
      rem.length = gk ∧ k + (rend rem).length = (rend its).length ∧ l.drop k = rend rem ++ 10 :: tail ∧ (∀ it ∈ rem, ∀ c ∈ it.2, c ≠ 10) ∧ runIt (nm, dt, hd) rem = (NM, DT, true) ∧ NS w Br wr k k (.slice pn nn cn) (.slice pd nd cd) hd ∧
      (At w pn nn nm ∧ ∀ ad, pn = some ad → ad.block = b) ∧ (hd = true → Dat w wr b pd nd cd dt))
  case atStart => exact ⟨0, its, none, 0, 0, none, 0, 0, false, [], [], rfl, by simp, by rw [List.drop_zero]; exact HLl.out, HNO.out, HR.out, ns0, ⟨At.nil _, fun _ h => by cases h⟩, fun h => by cases h⟩
  case round =>
    obtain ⟨k, rem, pn, nn, cn, pd, nd, cd, hd, nm, dt, hgk, hpos, hdrop, hno, hrun, ns, ⟨hatn, hbn⟩, hdat⟩ := hrel
    clear ns0
    obtain ⟨ln, more, hln, hlnl, hcase⟩ := next_line rem tail hno
    obtain ⟨E, hE⟩ : ∃ E, E = ln.length := ⟨_, rfl⟩
    have hkn : k + E < n := by
      have e1 := congrArg List.length hdrop
      have e2 := congrArg List.length hln
      have e3 := HL.out
      simp only [List.length_drop, List.length_append, List.length_cons] at e1 e2
      omega
    have hrest : At w (some ⟨b, o + k, none⟩) (n - k) (ln ++ 10 :: more) := by rw [← hln, ← hdrop]; exact h.drop k (n - k) (by omega)
    have hbne : ∀ (x : Nat) ad, (some ⟨b, x, none⟩ : Option Addr) = some ad → ad.block ≠ Br := fun x ad e => by cases e; exact hb
    have hlinew : At w (some ⟨b, o + k, none⟩) E ln := by
      have := hrest.take E (by omega)
      rwa [List.take_append_of_le_length (by omega), List.take_of_length_le (by omega)] at this
    have hib := ib_calls (some ⟨b, o + k, none⟩) (n - k) (c - k) _ wr (ns.at hrest (hbne _)) (fun h => by cases h)
    rw [index_pre 10 ln more hlnl, ← hE] at hib
    have A1 : Hid (rem.length = gk ∧ k + (rend rem).length = (rend its).length ∧ l.drop k = ln ++ 10 :: more ∧ (∀ it ∈ rem, ∀ c ∈ it.2, c ≠ 10) ∧ runIt (nm, dt, hd) rem = (NM, DT, true)) := ⟨hgk, hpos, hdrop.trans hln, hno, hrun⟩
    have A2 : Hid (E = ln.length) := hE
    have A3 : Hid ((rem = [] ∧ ln = [] ∧ more = tail) ∨ ∃ t x r, rem = (t, x) :: r ∧ ln = (if t then sEvent else sData) ++ x ∧ more = rend r ++ 10 :: tail) := hcase
    have A4 : Hid (hd = true → Dat w wr b pd nd cd dt) := hdat
    have A5 : Hid (∀ ad, pn = some ad → ad.block = b) := hbn
    have A6 : Hid (∀ (x : Nat) ad, (some ⟨b, x, none⟩ : Option Addr) = some ad → ad.block ≠ Br) := hbne
    clear hgk hpos hdrop hln hno hrun hE hlnl hcase hdat hbn hbne
    obtain ⟨r0, r1, r2, r3, r4⟩ := ns.cells
    have i0 : (0 : Int) ≤ (k : Int) := by omega
    have i1 : (k : Int) ≤ (n : Int) := by omega
    have i2 : (k : Int) < (c : Int) := by omega
    have i3 : (k : Int) ≤ (c : Int) := by omega
    have i4 : ¬ c = k := by omega
    have i5 : IntKind.i64.wrap ((k : Int) + (E : Int)) = (k : Int) + (E : Int) := by rw [IntKind.wrap_i64]; omega
    have i6 : (k : Int) + (E : Int) ≤ (c : Int) := by omega
    have hts := fun (W : World) (hns : NS w Br W k k (.slice pn nn cn) (.slice pd nd cd) hd) (q : Option Addr) (hq : At W q 1 [13]) => ts_calls b (o + k) E (c - k) 1 q ln W (hns.at hlinew (A6.out _)) hq (by omega) (by omega)
    have HT : Hid (∀ (W : World) (hns : NS w Br W k k (.slice pn nn cn) (.slice pd nd cd) hd) (q : Option Addr) (hq : At W q 1 [13]), Calls Tryd.prog 18 #[.slice (some ⟨b, o + k, none⟩) E (c - k), .slice q 1 1] W fun e w' => e = .returned (.slice (some ⟨b, o + k, none⟩) (trimCR ln).length (c - k)) ∧ w' = W) := hts
    clear hts
    go_upto_region 5 with (go_at_call 16; refine hib.mono ?_; rintro e wx ⟨rfl, hw⟩; have hw := hw.symm; subst hw)
    go_cut [7, 8] (fun v7 v8 W2 => v7 = .int .i64 (E : Int) ∧ v8 = .slice (some ⟨b, o + k, none⟩) (trimCR ln).length (c - k) ∧ NS w Br W2 k k (.slice pn nn cn) (.slice pd nd cd) hd ∧ (hd = true → Dat w W2 b pd nd cd dt))
    case first =>
      have kd : (convert 22 22 (.slice (some ⟨wr.heap.size, 0, none⟩) 1 1)).run Tryd.prog (wr.alloc (.cells #[.int .u8 13] 5)).drew = .ok (.slice (some ⟨wr.heap.size, 0, none⟩) 1 1) (wr.alloc (.cells #[.int .u8 13] 5 (1, 2))).drew := kc wr.drew #[.int .u8 13] 1 1
      obtain ⟨s0, s1, _⟩ := (ns.alloc (.cells #[.int .u8 13] 5)).cells
      obtain ⟨t0, t1, _⟩ := (ns.alloc (.cells #[.int .u8 13] 5 (1, 2))).cells
      go_region_with ((go_at_call 18; refine (HT.out _ (by exact (ns.alloc _).drew) _ (by exact (at_mark _ 13 _ rfl).drew)).mono ?_; rintro e wx ⟨rfl, hw⟩; have hw := hw.symm; subst hw))
      all_goals (try go_wp2_with fail)
      all_goals go_meet
      all_goals exact ⟨rfl, rfl, (ns.alloc _).drew, fun h => (A4.out h).keep fun j _ hj => Below.heap_alloc wr _ j hj⟩
    case rest =>
      obtain ⟨rfl, rfl, ns2, hdat2⟩ := hcut
      clear r0 r1 r2 r3 r4 ns hib A4 HT i4 i5
      obtain ⟨r0, r1, r2, r3, r4⟩ := ns2.cells
      have fz0 := ns2.free 0
      have fz1 := ns2.free 1
      rcases A3.out with ⟨hrem, hln, hmore⟩ | ⟨t, x, r, hrem, hln, hmore⟩
      · have hrun := A1.out.2.2.2.2
        have hpos := A1.out.2.1
        have hE0 := A2.out
        rw [hrem] at hrun hpos
        rw [hln] at hE0
        rw [show (rend []).length = 0 from rfl, Nat.add_zero] at hpos
        simp [runIt] at hrun hE0
        obtain ⟨rfl, rfl, rfl⟩ := hrun
        subst hE0
        have ht0 : (trimCR ln).length = 0 := by rw [hln]; rfl
        rw [ht0]
        have HK : Hid (k = (rend its).length) := hpos
        clear ht0 hpos hrem hln hmore
        have hdat3 := hdat2 rfl
        obtain ⟨q0, q1, qf⟩ := ns2.resc
        have qf0 := qf 0
        have qf1 := qf 1
        have fz2 := ns2.free 2
        have fz3 := ns2.free 3
        have fz4 := ns2.free 4
        have hne : ¬ w.heap.size = Br := by omega
        clear qf
        go_wp2
        have ns3 := (ns2.set 0 (.int .i64 ((k : Int) + 1)) (k' := (k : Int) + 1) (s' := k) (vn' := .slice pn nn cn) (vd' := .slice pd nd cd) (hd' := true) (by simp)).set 1 (.int .i64 ((k : Int) + 1)) (k' := (k : Int) + 1) (s' := (k : Int) + 1) (vn' := .slice pn nn cn) (vd' := .slice pd nd cd) (hd' := true) (by simp)
        have hdat4 := hdat3.keep (W' := (wc.setCell ⟨Br, 0, none⟩ (.int .i64 ((k : Int) + 1))).setCell ⟨Br, 1, none⟩ (.int .i64 ((k : Int) + 1))) (fun j hj _ => by rw [Below.heap_setCell _ _ _ _ (by simp; omega), Below.heap_setCell _ _ _ _ (by simp; omega)])
        obtain ⟨W3, hW3⟩ : ∃ W3, (wc.setCell ⟨Br, 0, none⟩ (.int .i64 ((k : Int) + 1))).setCell ⟨Br, 1, none⟩ (.int .i64 ((k : Int) + 1)) = W3 := ⟨_, rfl⟩
        rw [hW3] at ns3 hdat4 ⊢
        clear hW3 r0 r1 r2 r3 r4 fz0 fz1 fz2 fz3 fz4 q0 q1 qf0 qf1 hdat3 hdat2 ns2
        obtain ⟨r0, r1, r2, r3, r4⟩ := ns3.cells
        obtain ⟨q0, q1, qf⟩ := ns3.resc
        have qf0 := qf 0
        have qf1 := qf 1
        clear qf
        go_region_held3 (fun w' => w'.cell? ⟨Br, 0, none⟩ = some (.int .i64 ((k : Int) + 1)) ∧ w'.cell? ⟨Br, 2, none⟩ = some (.slice pn nn cn) ∧ w'.cell? ⟨Br, 3, none⟩ = some (.slice pd nd cd)) (go_keep) (fail)
        have nr := ns3.result (.slice pn nn cn) (.slice pd nd cd)
        obtain ⟨W4, hW4⟩ : ∃ W4, ((W3.setCell ⟨w.heap.size, 0, none⟩ (.slice pn nn cn)).setCell ⟨w.heap.size, 1, none⟩ (.slice pd nd cd)).drew = W4 := ⟨_, rfl⟩
        have hdat5 := hdat4.keep (W' := W4) (fun j hj _ => by rw [← hW4]; show ((W3.setCell _ _).setCell _ _).heap[j]? = _; rw [Below.heap_setCell _ _ _ _ (by simp; omega), Below.heap_setCell _ _ _ _ (by simp; omega)])
        rw [hW4] at nr ⊢
        clear hW4 hdat4 r0 r1 r2 r3 r4 q0 q1 qf0 qf1 ns3
        obtain ⟨q0, q1, qf0, qf1⟩ := nr.cells
        go_wp2_with (refine wpList_store_reader rfl _ _ nr rfl rfl rfl ?_; intro W5 nr5 hrd5 hoth5; obtain ⟨q0', q1', qf0', qf1'⟩ := nr5.cells)
        have hd5 := hdat5.keep (W' := (W5.setCell ⟨w.heap.size, 0, none⟩ (.slice pn nn cn)).setCell ⟨w.heap.size, 1, none⟩ (.slice pd nd cd)) (fun j hj _ => (set2_heap _ _ _ _ _ (by omega)).trans (hoth5 j (by omega)))
        have hbk : ((W5.setCell ⟨w.heap.size, 0, none⟩ (.slice pn nn cn)).setCell ⟨w.heap.size, 1, none⟩ (.slice pd nd cd)).heap[b]? = w.heap[b]? := (set2_heap _ _ _ _ _ (by omega)).trans (nr5.kept b hbl hb)
        have hatn5 : At ((W5.setCell ⟨w.heap.size, 0, none⟩ (.slice pn nn cn)).setCell ⟨w.heap.size, 1, none⟩ (.slice pd nd cd)) pn nn nm := hatn.keep (fun ad e _ => by rw [A5.out ad e]; exact hbk)
        refine bodyPost_ret (v := .tuple #[.agg #[.slice pn nn cn, .slice pd nd cd], .int .i64 ((k : Int) + 1), .bool true]) (by simp [results, Tryd.results12, go_sem, q0', q1']) rfl ?_
        exact ⟨pn, nn, cn, pd, nd, cd, by rw [← HK.out]; simp, hatn5, hd5.at hbk, fin_end nr5 hrd5 _ _⟩
      · have hgk : r.length < gk := by have := A1.out.1; rw [hrem] at this; simp at this; omega
        have hE2 : E = (if t then 7 else 6) + x.length := by rw [A2.out, hln]; cases t <;> simp [sEvent, sData] <;> omega
        have hpos : k + E + 1 + (rend r).length = (rend its).length := by
          have := A1.out.2.1
          rw [hrem, rend_cons, List.length_append, rnd_length] at this
          cases t <;> simp at this hE2 <;> omega
        have hdrop : l.drop (k + E + 1) = rend r ++ 10 :: tail := by
          have := A1.out.2.2.1
          have e2 := A2.out
          rw [← hmore, Nat.add_assoc, ← List.drop_drop, this, e2]
          rw [show ln ++ 10 :: more = (ln ++ [10]) ++ more by simp, List.drop_left' (by simp)]
        have hno : ∀ it ∈ r, ∀ c ∈ it.2, c ≠ 10 := fun it hit => A1.out.2.2.2.1 it (by rw [hrem]; simp [hit])
        have hrun := A1.out.2.2.2.2
        rw [hrem] at hrun
        have htx := trimCR_length x
        have B1 : Hid (r.length < gk ∧ k + E + 1 + (rend r).length = (rend its).length ∧ l.drop (k + E + 1) = rend r ++ 10 :: tail ∧ ∀ it ∈ r, ∀ c ∈ it.2, c ≠ 10) := ⟨hgk, hpos, hdrop, hno⟩
        clear hgk hpos hdrop hno
        cases t with
        | true =>
          rw [runIt_event] at hrun
          have hTL : trimCR ln = sEvent ++ trimCR x := by rw [hln, if_pos rfl]; exact trimCR_event x
          obtain ⟨m, hm⟩ : ∃ m, m = (trimCR x).length := ⟨_, rfl⟩
          have hTn : (trimCR ln).length = 7 + m := by rw [hTL, hm]; simp [sEvent]; omega
          rw [hTn]
          simp only [if_pos] at hE2
          have hmb : m + 7 ≤ E := by omega
          have hlw : At w (some ⟨b, o + k, none⟩) (7 + m) (sEvent ++ trimCR x) := by
            have := hlinew.take (trimCR ln).length (by omega)
            rw [← trimCR_take, hTn] at this
            rwa [hTL] at this
          have hfw : At w (some ⟨b, o + k, none⟩) 5 [101, 118, 101, 110, 116] := by
            have := hlw.take 5 (by omega)
            simpa [sEvent] using this
          have hvw : At w (some ⟨b, o + k + 6, none⟩) (m + 1) (32 :: trimCR x) := by
            have := hlw.drop 6 (m + 1) (by omega)
            simpa [sEvent] using this
          have hnw : At w (some ⟨b, o + k + 7, none⟩) m (trimCR x) := by
            have := hlw.drop 7 m (by omega)
            simpa [sEvent] using this
          have C1 : Hid (runIt (trimCR x, dt, hd) r = (NM, DT, true)) := hrun
          have hci := colon_event (trimCR x)
          clear hrun hTL hTn hm hln hE2 hrem hmore htx
          go_upto_region 14 with fail
          have ns3 := (ns2.set 0 (.int .i64 ((k : Int) + (E : Int) + 1)) (k' := (k : Int) + (E : Int) + 1) (s' := k) (vn' := .slice pn nn cn) (vd' := .slice pd nd cd) (hd' := hd) (by simp)).set 1 (.int .i64 ((k : Int) + (E : Int) + 1)) (k' := (k : Int) + (E : Int) + 1) (s' := (k : Int) + (E : Int) + 1) (vn' := .slice pn nn cn) (vd' := .slice pd nd cd) (hd' := hd) (by simp)
          have D3 : Hid (hd = true → Dat w ((wc.setCell ⟨Br, 0, none⟩ (.int .i64 ((k : Int) + (E : Int) + 1))).setCell ⟨Br, 1, none⟩ (.int .i64 ((k : Int) + (E : Int) + 1))) b pd nd cd dt) := fun h => (hdat2 h).keep (fun j hj _ => by rw [Below.heap_setCell _ _ _ _ (by simp; omega), Below.heap_setCell _ _ _ _ (by simp; omega)])
          obtain ⟨W3, hW3⟩ : ∃ W3, (wc.setCell ⟨Br, 0, none⟩ (.int .i64 ((k : Int) + (E : Int) + 1))).setCell ⟨Br, 1, none⟩ (.int .i64 ((k : Int) + (E : Int) + 1)) = W3 := ⟨_, rfl⟩
          rw [hW3] at ns3 D3 ⊢
          clear hW3 r0 r1 r2 r3 r4 fz0 fz1 hdat2 ns2
          go_wp2_with fail
          refine (cut_calls b (o + k) (7 + m) (c - k) 1 W3.heap.size 0 5 _ _ ((ns3.alloc _).at hlw (A6.out _)) (mark_cell _ _) hci (by omega) (by omega) (by omega)).mono ?_
          rintro e wx ⟨rfl, q, rfl⟩
          have ns4 := (ns3.alloc (.cells #[.int .u8 58] 5 (1, 2))).drewN q
          have D4 : Hid (hd = true → Dat w ((W3.alloc (.cells #[.int .u8 58] 5 (1, 2))).drewN q) b pd nd cd dt) := fun h => (D3.out h).keep (fun j _ hj => Below.heap_alloc W3 _ j hj)
          obtain ⟨W4, hW4⟩ : ∃ W4, (W3.alloc (.cells #[.int .u8 58] 5 (1, 2))).drewN q = W4 := ⟨_, rfl⟩
          rw [hW4] at ns4 D4 ⊢
          clear hW4 ns3 D3
          go_wp2_with fail
          rw [show 7 + m - 6 = m + 1 by omega]
          refine (tp_calls b (o + k + 6) (m + 1) (c - k - 6) 1 _ (trimCR x) _ ((ns4.alloc _).at hvw (A6.out _)) (by exact at_mark _ 32 _ rfl) (by omega)).mono ?_
          rintro e wx ⟨rfl, hw⟩
          have hw := hw.symm
          subst hw
          rw [show m + 1 - 1 = m by omega, show o + k + 6 + 1 = o + k + 7 by omega]
          have ns5 := ns4.alloc (.cells #[.int .u8 32] 5 (1, 2))
          have D5 : Hid (hd = true → Dat w (W4.alloc (.cells #[.int .u8 32] 5 (1, 2))) b pd nd cd dt) := fun h => (D4.out h).keep (fun j _ hj => Below.heap_alloc W4 _ j hj)
          obtain ⟨W5, hW5⟩ : ∃ W5, W4.alloc (.cells #[.int .u8 32] 5 (1, 2)) = W5 := ⟨_, rfl⟩
          rw [hW5] at ns5 D5 ⊢
          clear hW5 ns4 D4
          have hcv := conv_run b (o + k) 5 (c - k) _ W5 (ns5.at hfw (A6.out _))
          obtain ⟨r0, r1, r2, r3, r4⟩ := ns5.cells
          have fz2 := ns5.free 2
          go_wp2
          have nsf := ns5.set 2 (.slice (some ⟨b, o + k + 7, none⟩) m (c - k - 6 - 1)) (k' := ((k + E + 1 : Nat) : Int)) (s' := ((k + E + 1 : Nat) : Int)) (vn' := .slice (some ⟨b, o + k + 7, none⟩) m (c - k - 6 - 1)) (vd' := .slice pd nd cd) (hd' := hd) (by simp)
          go_roundg r.length
          case measure => exact B1.out.1
          case rel => exact ⟨k + E + 1, r, _, _, _, pd, nd, cd, hd, trimCR x, dt, rfl, B1.out.2.1, B1.out.2.2.1, B1.out.2.2.2, C1.out, nsf, ⟨hnw, fun ad e => by cases e; rfl⟩, fun h => (D5.out h).keep (fun j hj _ => Below.heap_setCell _ _ _ _ (by simp; omega))⟩
        | false =>
          have hTL : trimCR ln = sData ++ trimCR x := by rw [hln, if_neg (by simp)]; exact trimCR_data x
          obtain ⟨m, hm⟩ : ∃ m, m = (trimCR x).length := ⟨_, rfl⟩
          have hTn : (trimCR ln).length = 6 + m := by rw [hTL, hm]; simp [sData]; omega
          rw [hTn]
          rw [if_neg (by simp)] at hE2
          have hmb : m + 6 ≤ E := by omega
          have hlw : At w (some ⟨b, o + k, none⟩) (6 + m) (sData ++ trimCR x) := by
            have := hlinew.take (trimCR ln).length (by omega)
            rw [← trimCR_take, hTn] at this
            rwa [hTL] at this
          have hfw : At w (some ⟨b, o + k, none⟩) 4 [100, 97, 116, 97] := by
            have := hlw.take 4 (by omega)
            simpa [sData] using this
          have hvw : At w (some ⟨b, o + k + 5, none⟩) (m + 1) (32 :: trimCR x) := by
            have := hlw.drop 5 (m + 1) (by omega)
            simpa [sData] using this
          have hnw : At w (some ⟨b, o + k + 6, none⟩) m (trimCR x) := by
            have := hlw.drop 6 m (by omega)
            simpa [sData] using this
          have C1 : Hid (runIt (nm, dt, hd) ((false, x) :: r) = (NM, DT, true)) := hrun
          have hci := colon_data (trimCR x)
          have hmx : Hid (m = (trimCR x).length) := hm
          clear hrun hTL hTn hm hln hE2 hrem hmore htx
          go_upto_region 14 with fail
          have ns3 := (ns2.set 0 (.int .i64 ((k : Int) + (E : Int) + 1)) (k' := (k : Int) + (E : Int) + 1) (s' := k) (vn' := .slice pn nn cn) (vd' := .slice pd nd cd) (hd' := hd) (by simp)).set 1 (.int .i64 ((k : Int) + (E : Int) + 1)) (k' := (k : Int) + (E : Int) + 1) (s' := (k : Int) + (E : Int) + 1) (vn' := .slice pn nn cn) (vd' := .slice pd nd cd) (hd' := hd) (by simp)
          have D3 : Hid (hd = true → Dat w ((wc.setCell ⟨Br, 0, none⟩ (.int .i64 ((k : Int) + (E : Int) + 1))).setCell ⟨Br, 1, none⟩ (.int .i64 ((k : Int) + (E : Int) + 1))) b pd nd cd dt) := fun h => (hdat2 h).keep (fun j hj _ => by rw [Below.heap_setCell _ _ _ _ (by simp; omega), Below.heap_setCell _ _ _ _ (by simp; omega)])
          obtain ⟨W3, hW3⟩ : ∃ W3, (wc.setCell ⟨Br, 0, none⟩ (.int .i64 ((k : Int) + (E : Int) + 1))).setCell ⟨Br, 1, none⟩ (.int .i64 ((k : Int) + (E : Int) + 1)) = W3 := ⟨_, rfl⟩
          rw [hW3] at ns3 D3 ⊢
          clear hW3 r0 r1 r2 r3 r4 fz0 fz1 hdat2 ns2
          go_wp2_with fail
          refine (cut_calls b (o + k) (6 + m) (c - k) 1 W3.heap.size 0 4 _ _ ((ns3.alloc _).at hlw (A6.out _)) (mark_cell _ _) hci (by omega) (by omega) (by omega)).mono ?_
          rintro e wx ⟨rfl, q, rfl⟩
          have ns4 := (ns3.alloc (.cells #[.int .u8 58] 5 (1, 2))).drewN q
          have D4 : Hid (hd = true → Dat w ((W3.alloc (.cells #[.int .u8 58] 5 (1, 2))).drewN q) b pd nd cd dt) := fun h => (D3.out h).keep (fun j _ hj => Below.heap_alloc W3 _ j hj)
          obtain ⟨W4, hW4⟩ : ∃ W4, (W3.alloc (.cells #[.int .u8 58] 5 (1, 2))).drewN q = W4 := ⟨_, rfl⟩
          rw [hW4] at ns4 D4 ⊢
          clear hW4 ns3 D3
          go_wp2_with fail
          rw [show 6 + m - 5 = m + 1 by omega]
          refine (tp_calls b (o + k + 5) (m + 1) (c - k - 5) 1 _ (trimCR x) _ ((ns4.alloc _).at hvw (A6.out _)) (by exact at_mark _ 32 _ rfl) (by omega)).mono ?_
          rintro e wx ⟨rfl, hw⟩
          have hw := hw.symm
          subst hw
          rw [show m + 1 - 1 = m by omega, show o + k + 5 + 1 = o + k + 6 by omega]
          have ns5 := ns4.alloc (.cells #[.int .u8 32] 5 (1, 2))
          have D5 : Hid (hd = true → Dat w (W4.alloc (.cells #[.int .u8 32] 5 (1, 2))) b pd nd cd dt) := fun h => (D4.out h).keep (fun j _ hj => Below.heap_alloc W4 _ j hj)
          obtain ⟨W5, hW5⟩ : ∃ W5, W4.alloc (.cells #[.int .u8 32] 5 (1, 2)) = W5 := ⟨_, rfl⟩
          rw [hW5] at ns5 D5 ⊢
          clear hW5 ns4 D4
          have hcv := conv_run b (o + k) 4 (c - k) _ W5 (ns5.at hfw (A6.out _))
          obtain ⟨r0, r1, r2, r3, r4⟩ := ns5.cells
          have fz3 := ns5.free 3
          have fz4 := ns5.free 4
          cases hd with
          | false =>
            go_wp2_with fail
            refine (clip_calls b (o + k + 6) m (c - k - 5 - 1) W5 (by omega) (by omega)).mono ?_
            rintro e wx ⟨rfl, hw⟩
            have hw := hw.symm
            subst hw
            go_wp2
            have nsf := (ns5.set 3 (.slice (some ⟨b, o + k + 6, none⟩) m m) (k' := ((k + E + 1 : Nat) : Int)) (s' := ((k + E + 1 : Nat) : Int)) (vn' := .slice pn nn cn) (vd' := .slice (some ⟨b, o + k + 6, none⟩) m m) (hd' := false) (by simp)).set 4 (.bool true) (k' := ((k + E + 1 : Nat) : Int)) (s' := ((k + E + 1 : Nat) : Int)) (vn' := .slice pn nn cn) (vd' := .slice (some ⟨b, o + k + 6, none⟩) m m) (hd' := true) (by simp)
            go_roundg r.length
            case measure => exact B1.out.1
            case rel => exact ⟨k + E + 1, r, pn, nn, cn, _, _, _, true, nm, trimCR x, rfl, B1.out.2.1, B1.out.2.2.1, B1.out.2.2.2, (runIt_first nm dt x r).symm.trans C1.out, nsf, ⟨hatn, A5.out⟩, fun _ => .inl ⟨hnw, (fun ad e => by cases e; rfl), rfl⟩⟩
          | true =>
            have hd5 := D5.out rfl
            have hdl := hd5.len
            have hdl2 : dt.length ≤ 16777216 := by
              have e1 := runIt_mono nm dt ((false, x) :: r)
              rw [C1.out] at e1
              exact Nat.le_trans e1 hDT
            have hndb : nd ≤ 16777216 := by omega
            have hd6 := hd5.keep (W' := W5.alloc (.cells #[.int .u8 10] 5)) (fun j _ hj => Below.heap_alloc W5 _ j hj)
            have hb6 := (ns5.alloc (.cells #[.int .u8 10] 5)).kept b hbl hb
            have ns6 := ns5.alloc (.cells #[.int .u8 10] 5)
            have hs6 := ns6.size
            have HD : Hid (nd = dt.length) := hdl
            clear hdl hd5
            go_wp2_with (first
              | (at_builtin; refine wpList_append_dat bt rfl (.tmp 117) (.tmp 118) hd6 hb6 hs6 ((at_one _ 10).src bt _) (by omega) rfl rfl rfl (by omega) ?_; rintro p7 n7 c7 W7 o7 b7 ⟨row7, g7, hr7⟩; have ns7 := ns6.grown g7 hr7; have hb7 : n7 ≤ 16777217 := (by have := o7.len; simp at this; omega))
              | (at_builtin; refine wpList_append_b bt rfl (.tmp 119) (.tmp 120) 22 rfl rfl o7 rfl (trimCR x) ((ns7.at hnw (A6.out _)).src bt _) (by have := hmx.out; omega) ?_; intro p8 n8 c8 W8 o8 g8 l8; have hrow : ∀ g, blk p7 = some g → w.heap.size < g := (by intro g e; cases p7 with | none => cases e | some ad => simp [blk] at e; subst e; exact b7 ad rfl); have ns8 := ns7.grown g8 hrow; obtain ⟨v0, v1, v2, v3, v4⟩ := ns8.cells; have vz3 := ns8.free 3))
            have nsf := ns8.set 3 (.slice p8 n8 c8) (k' := ((k + E + 1 : Nat) : Int)) (s' := ((k + E + 1 : Nat) : Int)) (vn' := .slice pn nn cn) (vd' := .slice p8 n8 c8) (hd' := true) (by simp)
            have b8 : ∀ ad, p8 = some ad → w.heap.size < ad.block := fun ad e => by
              rcases l8 ad e with h9 | h9
              · exact hrow _ h9.symm
              · have := ns7.size; omega
            have of := o8.setCell ⟨Br, 3, none⟩ (.slice p8 n8 c8) (fun ad e => by have := b8 ad e; simp; omega)
            go_roundg r.length
            case measure => exact B1.out.1
            case rel => exact ⟨k + E + 1, r, pn, nn, cn, _, _, _, true, nm, dt ++ [10] ++ trimCR x, rfl, B1.out.2.1, B1.out.2.2.1, B1.out.2.2.2, (runIt_more nm dt x r).symm.trans C1.out, nsf, ⟨hatn, A5.out⟩, fun _ => .inr ⟨of, b8⟩⟩
end Go.Proofs.Qxb6602806aDoor
