/- (*sse.EventReader).Next: the callees' contracts in the walk's words; what the walk knows of the reader's cells. -/
import Derived.Test.Qxb6602806aDoorData
import Derived.Test.Qxb6602806aDoorEv
import Derived.Deep.MidRow
namespace Go.Proofs.Qxb6602806aDoor
open Go Go.RowKit Go.Shelf

theorem At.bytesIn {w : World} {p : Option Addr} {n : Nat} {l : List UInt8} (h : At w p n l) : Lib.BytesIn w p n (ints l) := by
  intro hn
  have hl := h.len
  obtain ⟨b, o, hp, _⟩ := h.cells 0 (by omega)
  refine ⟨b, o, hp, fun i hi => ?_⟩
  obtain ⟨b', o', hp', hc⟩ := h.cells i (by omega)
  rw [hp] at hp'
  cases hp'
  rw [hc, ints_getD l i (by omega)]
  rfl

theorem hasSuffix_one (l : List UInt8) (c : UInt8) : Lib.hasSuffix l [c] = decide (l.getLast? = some c) := by
  unfold Lib.hasSuffix
  rw [Bool.eq_iff_iff, List.isSuffixOf_iff_suffix, decide_eq_true_iff]
  constructor
  · rintro ⟨t, rfl⟩; simp
  · intro h
    obtain ⟨t, ht⟩ := List.getLast?_eq_some_iff.1 h
    exact ⟨t, ht.symm⟩

theorem ts_calls (b o n c d : Nat) (q : Option Addr) (l : List UInt8) (w : World) (h : At w (some ⟨b, o, none⟩) n l) (hq : At w q 1 [13]) (hnc : n ≤ c) (hn : n ≤ 9223372036854775807) :
    Calls Tryd.prog 18 #[.slice (some ⟨b, o, none⟩) n c, .slice q 1 d] w fun e w' => e = .returned (.slice (some ⟨b, o, none⟩) (trimCR l).length c) ∧ w' = w := by
  have := Tryd.bytes_TrimSuffix_all (some ⟨b, o, none⟩) q n c 1 d (ints l) (ints [13]) w (by rw [ints_length]; exact h.len.symm) rfl hnc hn h.bytesIn hq.bytesIn
  refine this.mono ?_
  rintro e w' ⟨rfl, rfl⟩
  refine ⟨?_, rfl⟩
  have e1 : Lib.trimSuffixV (some ⟨b, o, none⟩) n c (ints l) (ints [13]) = Lib.bytesTrimSuffix b o n c (ints l) (ints [13]) := rfl
  rw [e1]
  unfold Lib.bytesTrimSuffix
  rw [bytesOf_ints, bytesOf_ints, hasSuffix_one]
  have hl := h.len
  by_cases hs : l.getLast? = some 13
  · rw [if_pos (by simp [hs])]
    have : (trimCR l).length = n - 1 := by unfold trimCR; rw [if_pos hs]; simp; omega
    rw [this]; rfl
  · rw [if_neg (by simp [hs])]
    have : trimCR l = l := by unfold trimCR; rw [if_neg hs]
    rw [this, ← hl]

theorem cut_calls (b o n c d bs os i : Nat) (l : List UInt8) (w : World) (h : At w (some ⟨b, o, none⟩) n l) (hq : w.cell? ⟨bs, os, none⟩ = some (.int .u8 58)) (hi : Lib.indexByte l 58 = (i : Int)) (him : i + 1 ≤ n) (hnc : n < c) (hn : n ≤ 4611686018427387904) :
    Calls Tryd.prog 19 #[.slice (some ⟨b, o, none⟩) n c, .slice (some ⟨bs, os, none⟩) 1 d] w fun e w' => e = .returned (.tuple #[.slice (some ⟨b, o, none⟩) i c, .slice (some ⟨b, o + (i + 1), none⟩) (n - (i + 1)) (c - (i + 1)), .bool true]) ∧ ∃ q, w' = w.drewN q := by
  have hidx := Tryd.bytes_Index_one_at ⟨b, o, none⟩ n c bs os d (ints l) 58 w (by rw [ints_length]; exact h.len.symm) h.cells_ints hq
  rw [bytesOf_ints] at hidx
  have hidx' : Calls Tryd.prog 25 #[.slice (some ⟨b, o, none⟩) n c, .slice (some ⟨bs, os, none⟩) 1 d] w fun e w' => e = .returned (.int .i64 (i : Int)) ∧ ∃ q, w' = w.drewN q := by
    refine hidx.mono ?_
    rintro e w' ⟨rfl, rfl⟩
    exact ⟨by rw [show Lib.indexByte l (Int.toNat 58).toUInt8 = (i : Int) from hi], 0, rfl⟩
  refine (Tryd.bytes_Cut_of (some ⟨b, o, none⟩) (some ⟨bs, os, none⟩) n c 1 d (i : Int) w (by omega) (by omega) (by omega) hn hidx').mono ?_
  rintro e w' ⟨rfl, q, rfl⟩
  refine ⟨?_, q, rfl⟩
  unfold Lib.cutV Lib.fromV
  rw [if_pos (by omega)]
  simp only [Int.toNat_natCast]
  rw [if_neg (by omega)]
  simp [Addr.add_lit]

theorem tp_calls (b o n c d : Nat) (q : Option Addr) (r : List UInt8) (w : World) (h : At w (some ⟨b, o, none⟩) n (32 :: r)) (hq : At w q 1 [32]) (hnc : n < c) :
    Calls Tryd.prog 20 #[.slice (some ⟨b, o, none⟩) n c, .slice q 1 d] w fun e w' => e = .returned (.slice (some ⟨b, o + 1, none⟩) (n - 1) (c - 1)) ∧ w' = w := by
  have := Tryd.bytes_TrimPrefix_all (some ⟨b, o, none⟩) q n c 1 d (ints (32 :: r)) (ints [32]) w (by rw [ints_length]; exact h.len.symm) rfl (by omega) h.bytesIn hq.bytesIn
  refine this.mono ?_
  rintro e w' ⟨rfl, rfl⟩
  refine ⟨?_, rfl⟩
  have e1 : Lib.trimPrefixV (some ⟨b, o, none⟩) n c (ints (32 :: r)) (ints [32]) = Lib.bytesTrimPrefix b o n c (ints (32 :: r)) (ints [32]) := rfl
  rw [e1]
  unfold Lib.bytesTrimPrefix
  rw [bytesOf_ints, bytesOf_ints, if_pos (by simp [Lib.hasPrefix])]
  have hl := h.len
  simp at hl
  simp only [Lib.sliceFrom, ints_length, List.length_cons, List.length_nil, Nat.zero_add]
  rw [if_neg (by omega)]

set_option maxHeartbeats 800000 in
theorem clip_calls (b o n c : Nat) (w : World) (hc : n ≤ c) (_hn : c ≤ 9223372036854775807) :
    Calls Tryd.prog 21 #[.slice (some ⟨b, o, none⟩) n c] w fun e w' => e = .returned (.slice (some ⟨b, o, none⟩) n n) ∧ w' = w := by
  go_enter Tryd.func21, Tryd.ntmps21
  go_wp2
  go_ret
  exact ⟨rfl, rfl⟩

theorem conv_run (b o n c : Nat) (l : List UInt8) (w : World) (h : At w (some ⟨b, o, none⟩) n l) : (convert 22 9 (.slice (some ⟨b, o, none⟩) n c)).run Tryd.prog w = .ok (.string ⟨l.toArray⟩) w := by
  have := run_convert_bytes_arg (P := Tryd.prog) w 22 5 Tryd.underlying22 Tryd.underlying5 b o n c (ints l) (by rw [ints_length]; exact h.len.symm) (fun i hi => by have := h.cells_ints i hi; rwa [Addr.add_lit] at this) 9 Tryd.underlying9
  rw [this]
  have e : strOfNums (ints l) = ⟨l.toArray⟩ := by
    have := bytesOf_ints l
    unfold Lib.bytesOf at this
    unfold strOfNums
    rw [this]
  rw [e]

/-! ### The reader's cells -/

theorem heap_setCell_at {w : World} {b i : Nat} {cs : Array Value} {t : TypeId} {fr : Nat × Nat} (h : w.heap[b]? = some (.cells cs t fr)) (u : Value) : (w.setCell ⟨b, i, none⟩ u).heap[b]? = some (.cells (cs.setIfInBounds i u) t fr) := by
  have hlt := (Array.getElem?_eq_some_iff.1 h).1
  have h' : w.heap[b] = .cells cs t fr := by simpa [Array.getElem?_eq_getElem hlt] using h
  show (w.heap.modify b _)[b]? = _
  rw [Array.getElem?_eq_getElem (by rw [Array.size_modify]; exact hlt), Array.getElem_modify_self, h']
  simp [Array.setIfInBounds_def]

structure NS (w : World) (Br : Nat) (W : World) (k s : Int) (vn vd : Value) (hd : Bool) : Prop where
  rd : W.heap[Br]? = some (.cells #[.int .i64 k, .int .i64 s, vn, vd, .bool hd] 33 (0, 0))
  res : W.heap[w.heap.size]? = some (.cells #[.slice none 0 0, .slice none 0 0] 27 (0, 0))
  os : W.os = w.os
  tape : W.tape = w.tape
  output : W.output = w.output
  size : w.heap.size < W.heap.size
  lt : Br < w.heap.size
  kept : ∀ j, j < w.heap.size → j ≠ Br → W.heap[j]? = w.heap[j]?

section
variable {w : World} {Br : Nat} {W : World} {k s : Int} {vn vd : Value} {hd : Bool}
theorem NS.cells (h : NS w Br W k s vn vd hd) : W.cell? ⟨Br, 0, none⟩ = some (.int .i64 k) ∧ W.cell? ⟨Br, 1, none⟩ = some (.int .i64 s) ∧ W.cell? ⟨Br, 2, none⟩ = some vn ∧ W.cell? ⟨Br, 3, none⟩ = some vd ∧ W.cell? ⟨Br, 4, none⟩ = some (.bool hd) := by
  simp [World.cell?, h.rd]
theorem NS.free (h : NS w Br W k s vn vd hd) (i : Nat) : W.frozen? ⟨Br, i, none⟩ = false := by simp [World.frozen?, h.rd]
theorem NS.at (h : NS w Br W k s vn vd hd) {p : Option Addr} {n : Nat} {l : List UInt8} (ha : At w p n l) (hb : ∀ ad, p = some ad → ad.block ≠ Br) : At W p n l := ha.keep fun ad e hl => h.kept _ hl (hb ad e)
theorem NS.alloc (h : NS w Br W k s vn vd hd) (o : Obj) : NS w Br (W.alloc o) k s vn vd hd :=
  ⟨(Below.heap_alloc _ _ _ (by have := h.lt; have := h.size; omega)).trans h.rd, (Below.heap_alloc _ _ _ h.size).trans h.res, h.os, h.tape, h.output, by have := h.size; simp; omega, h.lt, fun j hj hne => (Below.heap_alloc _ _ _ (by have := h.size; omega)).trans (h.kept j hj hne)⟩
theorem NS.drew (h : NS w Br W k s vn vd hd) : NS w Br W.drew k s vn vd hd := ⟨h.rd, h.res, h.os, h.tape, h.output, h.size, h.lt, h.kept⟩
theorem NS.drewN (h : NS w Br W k s vn vd hd) (q : Nat) : NS w Br (W.drewN q) k s vn vd hd := ⟨h.rd, h.res, h.os, h.tape, h.output, h.size, h.lt, h.kept⟩
theorem NS.set (h : NS w Br W k s vn vd hd) (i : Nat) (u : Value) {k' s' : Int} {vn' vd' : Value} {hd' : Bool} (e : #[.int .i64 k, .int .i64 s, vn, vd, .bool hd].setIfInBounds i u = #[.int .i64 k', .int .i64 s', vn', vd', .bool hd']) : NS w Br (W.setCell ⟨Br, i, none⟩ u) k' s' vn' vd' hd' :=
  ⟨by rw [heap_setCell_at h.rd, e], (Below.heap_setCell _ _ _ _ (by have := h.lt; simp; omega)).trans h.res, h.os, h.tape, h.output, by simpa [World.setCell] using h.size, h.lt, fun j hj hne => (Below.heap_setCell _ _ _ _ hne).trans (h.kept j hj hne)⟩
theorem NS.grown (h : NS w Br W k s vn vd hd) {W' : World} {row : Option Nat} (hg : W.grownBy W' row) (hr : ∀ b, row = some b → w.heap.size < b) : NS w Br W' k s vn vd hd :=
  ⟨(hg.block _ (by have := h.lt; have := h.size; omega) (fun e => by have := hr _ e.symm; have := h.lt; omega)).trans h.rd, (hg.block _ h.size (fun e => by have := hr _ e.symm; omega)).trans h.res, hg.os.trans h.os, hg.tape.trans h.tape, hg.output.trans h.output, Nat.lt_of_lt_of_le h.size hg.size, h.lt,
    fun j hj hne => (hg.block _ (by have := h.size; omega) (fun e => by have := hr _ e.symm; omega)).trans (h.kept j hj hne)⟩
theorem NS.resc (h : NS w Br W k s vn vd hd) : W.cell? ⟨w.heap.size, 0, none⟩ = some (.slice none 0 0) ∧ W.cell? ⟨w.heap.size, 1, none⟩ = some (.slice none 0 0) ∧ (∀ i, W.frozen? ⟨w.heap.size, i, none⟩ = false) := by
  simp [World.cell?, World.frozen?, h.res]
end

/-- Behind the event's making: its two slices lie in the result's cell. -/
structure NR (w : World) (Br : Nat) (W : World) (e0 e1 : Value) : Prop where
  rd : ∃ cs : Array Value, cs.size = 5 ∧ W.heap[Br]? = some (.cells cs 33 (0, 0))
  res : W.heap[w.heap.size]? = some (.cells #[e0, e1] 27 (0, 0))
  os : W.os = w.os
  tape : W.tape = w.tape
  output : W.output = w.output
  size : w.heap.size < W.heap.size
  lt : Br < w.heap.size
  kept : ∀ j, j < w.heap.size → j ≠ Br → W.heap[j]? = w.heap[j]?

theorem NS.result {w : World} {Br : Nat} {W : World} {k s : Int} {vn vd : Value} {hd : Bool} (h : NS w Br W k s vn vd hd) (e0 e1 : Value) : NR w Br ((W.setCell ⟨w.heap.size, 0, none⟩ e0).setCell ⟨w.heap.size, 1, none⟩ e1).drew e0 e1 := by
  have hlt := h.lt
  refine ⟨⟨_, rfl, (Below.heap_setCell _ _ _ _ (by simp; omega)).trans ((Below.heap_setCell _ _ _ _ (by simp; omega)).trans h.rd)⟩, ?_, h.os, h.tape, h.output, by simpa [World.setCell] using h.size, h.lt, fun j hj hne => (Below.heap_setCell _ _ _ _ (by simp; omega)).trans ((Below.heap_setCell _ _ _ _ (by simp; omega)).trans (h.kept j hj hne))⟩
  have := heap_setCell_at (i := 1) (heap_setCell_at (i := 0) h.res e0) e1
  show ((W.setCell ⟨w.heap.size, 0, none⟩ e0).setCell ⟨w.heap.size, 1, none⟩ e1).heap[w.heap.size]? = _
  simpa using this
theorem NR.cells {w : World} {Br : Nat} {W : World} {e0 e1 : Value} (h : NR w Br W e0 e1) : W.cell? ⟨w.heap.size, 0, none⟩ = some e0 ∧ W.cell? ⟨w.heap.size, 1, none⟩ = some e1 ∧ W.frozen? ⟨w.heap.size, 0, none⟩ = false ∧ W.frozen? ⟨w.heap.size, 1, none⟩ = false := by
  simp [World.cell?, World.frozen?, h.res]

theorem heap_setCells {b : Nat} : ∀ (vs : List Value) (o : Nat) (W : World) (cs : Array Value) (t : TypeId) (fr : Nat × Nat), W.heap[b]? = some (.cells cs t fr) → ∃ cs' : Array Value, (W.setCells b o vs).heap[b]? = some (.cells cs' t fr) ∧ cs'.size = cs.size ∧ (∀ j, j < o → cs'[j]? = cs[j]?) ∧ ∀ j, j < vs.length → o + j < cs.size → cs'[o + j]? = vs[j]?
  | [], o, W, cs, t, fr, h => ⟨cs, h, rfl, fun _ _ => rfl, fun j hj => by cases hj⟩
  | v :: r, o, W, cs, t, fr, h => by
    obtain ⟨cs', h1, h2, h3, h4⟩ := heap_setCells r (o + 1) (W.setCell ⟨b, o, none⟩ v) (cs.setIfInBounds o v) t fr (heap_setCell_at h v)
    refine ⟨cs', h1, by simpa using h2, fun j hj => ?_, fun j hj hlt => ?_⟩
    · rw [h3 j (by omega)]
      rw [Array.getElem?_setIfInBounds]
      rw [if_neg (by omega)]
    · cases j with
      | zero =>
        rw [h3 (o + 0) (by omega)]
        simp at hlt
        simp [hlt]
      | succ j =>
        have := h4 j (by simpa using hj) (by simp; omega)
        rw [show o + (j + 1) = o + 1 + j by omega, this]
        simp

/-- '*r = EventReader{}'. -/
theorem wpList_store_reader {w W : World} {Br : Nat} {e0 e1 : Value} {ops : Array Oper} {rest : List Oper} {op : Oper} {a : Act} {Q : Exit → Act → World → Prop} (hgd : op.guard = none) (x y : Operand) (h : NR w Br W e0 e1) (ho : op.op = .store 33 x y)
    (hx : a.eval x = .pointer (some ⟨Br, 0, none⟩)) (hy : a.eval y = .agg #[.int .i64 0, .int .i64 0, .slice none 0 0, .slice none 0 0, .bool false])
    (hK : ∀ W', NR w Br W' e0 e1 → W'.heap[Br]? = some (.cells #[.int .i64 0, .int .i64 0, .slice none 0 0, .slice none 0 0, .bool false] 33 (0, 0)) → (∀ j, j ≠ Br → W'.heap[j]? = W.heap[j]?) → wpList Tryd.prog ops Q rest (a.put op.dst undef) W') : wpList Tryd.prog ops Q (op :: rest) a W := by
  obtain ⟨cs, hcs, hrd⟩ := h.rd
  have hlt := h.lt
  refine wpList_store_mid hgd 33 x y ho Br 0 _ hx hy ?_ (by kernel_rfl) (by kernel_rfl) ?_
  · intro j hj
    have hj5 : j < 5 := hj
    refine ⟨?_, ?_⟩
    · simp [World.cell?, hrd, hcs, hj5]
    · simp [World.frozen?, hrd]
  · have hoth : ∀ (vs : List Value) (o : Nat) (V : World) (j : Nat), j ≠ Br → (V.setCells Br o vs).heap[j]? = V.heap[j]? := by
      intro vs
      induction vs with
      | nil => intro o V j _; rfl
      | cons v r ih => intro o V j hj; exact (ih (o + 1) _ j hj).trans (Below.heap_setCell _ _ _ _ hj)
    have hos : ∀ (vs : List Value) (o : Nat) (V : World), (V.setCells Br o vs).os = V.os ∧ (V.setCells Br o vs).tape = V.tape ∧ (V.setCells Br o vs).output = V.output ∧ (V.setCells Br o vs).heap.size = V.heap.size := by
      intro vs
      induction vs with
      | nil => intro o V; exact ⟨rfl, rfl, rfl, rfl⟩
      | cons v r ih => intro o V; have := ih (o + 1) (V.setCell ⟨Br, o, none⟩ v); exact ⟨this.1, this.2.1, this.2.2.1, this.2.2.2.trans (by simp [World.setCell])⟩
    obtain ⟨cs', h1, h2, _, h4⟩ := heap_setCells [.int .i64 0, .int .i64 0, .slice none 0 0, .slice none 0 0, .bool false] 0 W cs 33 (0, 0) hrd
    have hc5 : cs' = #[.int .i64 0, .int .i64 0, .slice none 0 0, .slice none 0 0, .bool false] := by
      apply Array.ext_getElem?
      intro j
      by_cases hj : j < 5
      · have := h4 j (by simpa using hj) (by omega)
        rw [Nat.zero_add] at this
        rw [this]
        simp
      · rw [Array.getElem?_eq_none (by omega), Array.getElem?_eq_none (by simp; omega)]
    rw [hc5] at h1
    obtain ⟨k1, k2, k3, k4⟩ := hos [.int .i64 0, .int .i64 0, .slice none 0 0, .slice none 0 0, .bool false] 0 W
    exact hK _ ⟨⟨_, rfl, h1⟩, (hoth _ _ _ _ (by omega)).trans h.res, k1.trans h.os, k2.trans h.tape, k3.trans h.output, by rw [k4]; exact h.size, h.lt, fun j hj hne => (hoth _ _ _ _ hne).trans (h.kept j hj hne)⟩ h1 (fun j hj => hoth _ _ _ _ hj)

/-- The data gathered so far: a view into the stream, without spare room; or a row of the call's own. -/
def Dat (w W : World) (b : Nat) (p : Option Addr) (n c : Nat) (l : List UInt8) : Prop :=
  (At w p n l ∧ (∀ ad, p = some ad → ad.block = b) ∧ c = n) ∨ (Own W p n c l ∧ ∀ ad, p = some ad → w.heap.size < ad.block)
theorem Dat.len {w W : World} {b : Nat} {p : Option Addr} {n c : Nat} {l : List UInt8} (h : Dat w W b p n c l) : n = l.length := by
  rcases h with ⟨h, _⟩ | ⟨h, _⟩ <;> exact h.len
theorem Dat.keep {w W W' : World} {b : Nat} {p : Option Addr} {n c : Nat} {l : List UInt8} (h : Dat w W b p n c l) (hk : ∀ j, w.heap.size < j → j < W.heap.size → W'.heap[j]? = W.heap[j]?) : Dat w W' b p n c l := by
  rcases h with h | ⟨h, hb⟩
  · exact .inl h
  · exact .inr ⟨h.keep fun ad e hl => hk _ (hb ad e) hl, hb⟩
theorem Dat.at {w W : World} {b : Nat} {p : Option Addr} {n c : Nat} {l : List UInt8} (h : Dat w W b p n c l) (hb : W.heap[b]? = w.heap[b]?) : At W p n l := by
  rcases h with ⟨h, h2, _⟩ | ⟨h, _⟩
  · exact h.keep fun ad e _ => by rw [h2 ad e]; exact hb
  · exact h.at

/-- An append onto the data gathered so far. -/
theorem run_append_dat {P : Program} (ht : BT P) {w W : World} {b : Nat} {tx ty : TypeId} {p : Option Addr} {n c : Nat} {l : List UInt8} (h : Dat w W b p n c l) (hbd : W.heap[b]? = w.heap[b]?) (hw : w.heap.size < W.heap.size) {x : Value} {m : Nat} {k : List UInt8} (hs : Src P 1 tx x m (bvs k) W) (hm0 : 0 < m) (hb : n + k.length ≤ 140737488355328) :
    ∃ p' n' c' W', (Builtin.append_ #[22, tx] ty #[.slice p n c, x]).run P W = .ok (.slice p' n' c') W' ∧ Own W' p' n' c' (l ++ k) ∧ (∀ ad, p' = some ad → w.heap.size < ad.block) ∧ (∃ row, W.grownBy W' row ∧ ∀ g, row = some g → w.heap.size < g) := by
  have hat := h.at hbd
  rcases h with ⟨h1, h2, rfl⟩ | ⟨h1, h2⟩
  · obtain ⟨i, hi, hz, hsz, hby⟩ := info_parts ht.info
    have hm : m = k.length := by have := hs.newsLen; rw [bvs_length] at this; omega
    subst hm
    have hold : (Builtin.firstCells i.size c (.slice p c c)).run P W.drew = .ok (bvs l).toArray W.drew := by
      have := (hat.drew.src ht c).cells
      rw [hsz]; exact this
    have hr := run_append_grow_src (P := P) W 22 tx ty 5 i _ ht.slice hi hz p c c (bvs l) hold x k.length (bvs k) (by rw [hsz]; exact hs) (by omega) (by omega) (growslice_fits (by omega) (by rw [hby]; omega))
    have hge := grownCap_ge W (c + k.length) c 5
    refine ⟨_, _, _, _, hr, ⟨by simp [hat.len], by simp [bvs_length, hat.len], .inr ⟨W.heap.size, _, _, rfl, Nat.zero_le _, heap_alloc_new W.drew _, hge, grownCap_le_maxLen W (c + k.length) c 5 (by unfold maxLen; omega), ?_, ?_⟩⟩, ?_, none, ⟨rfl, rfl, rfl, by simp, fun j hj _ => Below.heap_alloc W.drew _ j hj⟩, fun g e => by cases e⟩
    · simp [size_zeroCells, bvs_length, ← hat.len]
      have : (Value.int IntKind.u8 0).cells.size = 1 := rfl
      rw [this]
      omega
    · simp only [Array.toList_append, Nat.mul_one]
      rw [bvs_append, List.take_append_of_le_length (by simp [bvs_length, ← hat.len])]
      exact List.take_of_length_le (by simp [bvs_length, ← hat.len])
    · intro ad e; cases e; exact hw
  · obtain ⟨p', n', c', W', hr, ho, hg, hl⟩ := run_append_b ht (ty := ty) h1 hs hb
    refine ⟨p', n', c', W', hr, ho, ?_, blk p, hg, ?_⟩
    · intro ad e
      rcases hl ad e with h3 | h3
      · cases p with
        | none => cases h3
        | some a => simp [blk] at h3; rw [h3]; exact h2 a rfl
      · omega
    · intro g e
      cases p with
      | none => cases e
      | some a => simp [blk] at e; subst e; exact h2 a rfl

theorem wpList_append_dat {P : Program} {w W : World} {b : Nat} {ops : Array Oper} {rest : List Oper} {o : Oper} {a : Act} {Q : Exit → Act → World → Prop} (ht : BT P) (hgd : o.guard = none) (s x : Operand) {tx : TypeId}
    {p : Option Addr} {n c : Nat} {l : List UInt8} (h : Dat w W b p n c l) (hbd : W.heap[b]? = w.heap[b]?) (hw : w.heap.size < W.heap.size) {xv : Value} {m : Nat} {k : List UInt8} (hs : Src P 1 tx xv m (bvs k) W) (hm0 : 0 < m)
    (ho : o.op = .call { callee := .builtin .append, args := #[s, x], argTypes := #[22, tx] }) (hse : a.eval s = .slice p n c) (hx : a.eval x = xv) (hb : n + m ≤ 140737488355328)
    (hK : ∀ p' n' c' W', Own W' p' n' c' (l ++ k) → (∀ ad, p' = some ad → w.heap.size < ad.block) → (∃ row, W.grownBy W' row ∧ ∀ g, row = some g → w.heap.size < g) → wpList P ops Q rest (a.put o.dst (.slice p' n' c')) W') : wpList P ops Q (o :: rest) a W := by
  refine wpList_plain hgd fun K hK' => ?_
  have hm : m = k.length := by have := hs.newsLen; rw [bvs_length] at this; omega
  subst hx
  obtain ⟨p', n', c', W', hr, h1, h2, h3⟩ := run_append_dat ht (ty := o.type) h hbd hw hs hm0 (by omega)
  unfold Oper.wp
  simp only [execOp, ho, resolve, invoke, builtin, Sem.run_bind, Sem.run_pure, Result.andThen_ok, List.map_toArray, List.map_cons, List.map_nil, hse, hr]
  exact hK' _ _ (hK _ _ _ _ h1 h2 h3)
end Go.Proofs.Qxb6602806aDoor
