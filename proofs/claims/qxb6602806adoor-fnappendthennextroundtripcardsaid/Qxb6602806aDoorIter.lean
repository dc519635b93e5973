/- bytes.SplitSeq at the separator a newline: the iterator's contract. -/
import Derived.Test.Qxb6602806aDoorGrow
import Derived.Test.Qxb6602806aDoorSeq
import Derived.Test.Qxb6602806aDoorLines
import Derived.Test.Qxb6602806aDoorShelf
namespace Go.Proofs.Qxb6602806aDoor
open Go Go.RowKit Go.Shelf
attribute [local go_sem] Oper.semAt_some

theorem At.cells_ints {w : World} {ad : Addr} {n : Nat} {l : List UInt8} (h : At w (some ad) n l) : ∀ i, i < n → w.cell? (ad.add i) = some (.int .u8 ((ints l).getD i 0)) := by
  intro i hi
  have hl := h.len
  obtain ⟨b, o, hp, hc⟩ := h.cells i (by omega)
  cases hp
  rw [Addr.add_lit, hc, ints_getD l i (by omega)]
  rfl

theorem ib_calls (p : Option Addr) (n c : Nat) (l : List UInt8) (w : World) (h : At w p n l) (hc : p = none → c = 0) :
    Calls Tryd.prog 16 #[.slice p n c, .int .u8 10] w fun e w' => e = .returned (.int .i64 (Lib.indexByte l 10)) ∧ w' = w := by
  cases p with
  | none =>
    have h0 := h.none_len
    have hl := h.len
    subst h0
    obtain rfl : n = 0 := hl
    obtain rfl := hc rfl
    exact Tryd.bytes_IndexByte_nil 10 w
  | some ad =>
    have := Tryd.bytes_IndexByte_at ad n c (ints l) 10 w (by rw [ints_length]; exact h.len.symm) h.cells_ints
    rw [bytesOf_ints] at this
    exact this

theorem ix_calls (ad : Addr) (n c b2 o2 d : Nat) (l : List UInt8) (w : World) (h : At w (some ad) n l) (h2 : w.cell? ⟨b2, o2, none⟩ = some (.int .u8 10)) :
    Calls Tryd.prog 25 #[.slice (some ad) n c, .slice (some ⟨b2, o2, none⟩) 1 d] w fun e w' => e = .returned (.int .i64 (Lib.indexByte l 10)) ∧ w' = w := by
  have := Tryd.bytes_Index_one_at ad n c b2 o2 d (ints l) 10 w (by rw [ints_length]; exact h.len.symm) h.cells_ints h2
  rw [bytesOf_ints] at this
  exact this

/-- A piece of the data, as the iterator hands it over: it lies in the data's block. -/
def Piece (w : World) (bd M : Nat) : Type := { x : Option Addr × Nat × List UInt8 // At w x.1 x.2.1 x.2.2 ∧ (∀ ad, x.1 = some ad → ad.block = bd) ∧ x.2.1 ≤ M }
def Piece.enc {w : World} {bd M : Nat} (x : Piece w bd M) : Array Value := #[.slice x.1.1 x.1.2.1 x.1.2.1]
def Piece.bytes {w : World} {bd M : Nat} (x : Piece w bd M) : List UInt8 := x.1.2.2

theorem At.take {w : World} {p : Option Addr} {n : Nat} {l : List UInt8} (h : At w p n l) (i : Nat) (hi : i ≤ n) : At w p i (l.take i) := by
  have hl := h.len
  refine ⟨by simp; omega, fun j hj => ?_⟩
  simp at hj
  obtain ⟨b, o, hp, hc⟩ := h.cells j (by omega)
  exact ⟨b, o, hp, by rw [hc]; simp⟩
theorem At.drop {w : World} {b o n : Nat} {l : List UInt8} (h : At w (some ⟨b, o, none⟩) n l) (i m : Nat) (hi : i + m = n) : At w (some ⟨b, o + i, none⟩) m (l.drop i) := by
  have hl := h.len
  refine ⟨by simp; omega, fun j hj => ?_⟩
  simp at hj
  obtain ⟨b', o', hp, hc⟩ := h.cells (i + j) (by omega)
  cases hp
  exact ⟨b, o + i, rfl, by rw [Nat.add_assoc, hc]; simp⟩

/-- What the iterator keeps between two rounds. -/
theorem cell_of_heap {w w' : World} {k : Nat} (h : w'.heap[k]? = w.heap[k]?) (o : Nat) : w'.cell? ⟨k, o, none⟩ = w.cell? ⟨k, o, none⟩ := World.cell?_of_block (a := ⟨k, o, none⟩) h

structure Rest (Bsep bsep Bs Bv bd : Nat) (w wr : World) (n c : Nat) (rest : List UInt8) (o : Nat) : Prop where
  sep : wr.cell? ⟨Bsep, 0, none⟩ = some (.slice (some ⟨bsep, 0, none⟩) 1 1)
  nl : wr.cell? ⟨bsep, 0, none⟩ = some (.int .u8 10)
  s : wr.heap[Bs]? = some (.cells #[.slice (some ⟨bd, o, none⟩) n c] 22 (0, 0))
  save : wr.cell? ⟨Bv, 0, none⟩ = some (.int .i64 0)
  le : n ≤ c
  cap : c ≤ 140737488355328
  here : At w (some ⟨bd, o, none⟩) n rest
  data : wr.heap[bd]? = w.heap[bd]?

def boxLen (wr : World) (Bs : Nat) : Nat := match wr.cell? ⟨Bs, 0, none⟩ with | some (.slice _ n _) => n | _ => 0

theorem Rest.cell {Bsep bsep Bs Bv bd : Nat} {w wr : World} {n c : Nat} {rest : List UInt8} {o : Nat} (h : Rest Bsep bsep Bs Bv bd w wr n c rest o) : wr.cell? ⟨Bs, 0, none⟩ = some (.slice (some ⟨bd, o, none⟩) n c) := cell_of_one h.s
theorem Rest.free {Bsep bsep Bs Bv bd : Nat} {w wr : World} {n c : Nat} {rest : List UInt8} {o : Nat} (h : Rest Bsep bsep Bs Bv bd w wr n c rest o) : wr.frozen? ⟨Bs, 0, none⟩ = false := free_of_one h.s
theorem Rest.at {Bsep bsep Bs Bv bd : Nat} {w wr : World} {n c : Nat} {rest : List UInt8} {o : Nat} (h : Rest Bsep bsep Bs Bv bd w wr n c rest o) : At wr (some ⟨bd, o, none⟩) n rest := h.here.keep (fun ad e _ => by cases e; exact h.data)
theorem Rest.len {Bsep bsep Bs Bv bd : Nat} {w wr : World} {n c : Nat} {rest : List UInt8} {o : Nat} (h : Rest Bsep bsep Bs Bv bd w wr n c rest o) : boxLen wr Bs = n := by simp [boxLen, h.cell]

theorem rest_next {Bsep bsep Bs Bv bd : Nat} {w W3 : World} {m c i o : Nat} {rest : List UInt8} (h : Rest Bsep bsep Bs Bv bd w W3 m c rest o) (him : i < m) (hd1 : Bsep ≠ Bs) (hd2 : bsep ≠ Bs) (hd3 : Bv ≠ Bs) (hd4 : bd ≠ Bs) :
    ∃ o', Rest Bsep bsep Bs Bv bd w (W3.setCell ⟨Bs, 0, none⟩ (.slice (if c = i + 1 then some ⟨bd, o, none⟩ else some ⟨bd, o + (i + 1), none⟩) (m - (i + 1)) (c - (i + 1)))) (m - (i + 1)) (c - (i + 1)) (rest.drop (i + 1)) o' := by
  have hle := h.le
  have hcap := h.cap
  have ho : ∀ (k : Nat) (u : Value), k ≠ Bs → (W3.setCell ⟨Bs, 0, none⟩ u).heap[k]? = W3.heap[k]? := fun k u hk => Below.heap_setCell _ _ _ _ hk
  by_cases hc : c = i + 1
  · refine ⟨o, ?_⟩
    rw [if_pos hc]
    have hm0 : m - (i + 1) = 0 := by omega
    have hr : rest.drop (i + 1) = [] := List.drop_eq_nil_of_le (by have := h.here.len; omega)
    exact ⟨(cell_of_heap (ho _ _ hd1) 0).trans h.sep, (cell_of_heap (ho _ _ hd2) 0).trans h.nl, one_setCell h.s, (cell_of_heap (ho _ _ hd3) 0).trans h.save, by omega, by omega, by rw [hm0, hr]; exact At.empty _ _, (ho _ _ hd4).trans h.data⟩
  · refine ⟨o + (i + 1), ?_⟩
    rw [if_neg hc]
    exact ⟨(cell_of_heap (ho _ _ hd1) 0).trans h.sep, (cell_of_heap (ho _ _ hd2) 0).trans h.nl, one_setCell h.s, (cell_of_heap (ho _ _ hd3) 0).trans h.save, by omega, by omega, h.here.drop (i + 1) _ (by omega), (ho _ _ hd4).trans h.data⟩

theorem grown_set (w : World) (a : Addr) (u : Value) : w.grownBy (w.setCell a u) (some a.block) :=
  ⟨rfl, rfl, rfl, by simp [World.setCell], fun k _ hk => Below.heap_setCell _ _ _ _ (fun e => hk (by rw [e]))⟩

set_option maxHeartbeats 2000000 in
theorem iter_in (n : Nat) (hn : 1 ≤ n) (l Bsep bsep Bs Bv bd : Nat) (w W : World) (len c o0 : Nat) (data : List UInt8) (_hlen : len ≤ 1048576) (J : List (Piece w bd len) → World → Prop) (hJ : Abides1 Bs J)
    (hd1 : Bsep ≠ Bs) (hd2 : bsep ≠ Bs) (hd3 : Bv ≠ Bs) (hd4 : bd ≠ Bs)
    (hY : ∀ pre x W1, J pre W1 → pre.length < len + 1 → YieldAt Fence.wide (n - 1) Tryd.prog l (Piece.enc x) W1 fun e W' => e = .returned (.bool true) ∧ J (pre ++ [x]) W' ∧
      (∀ k, k = Bsep ∨ k = bsep ∨ k = Bs ∨ k = Bv ∨ k = bd → W'.heap[k]? = W1.heap[k]?))
    (hR : Rest Bsep bsep Bs Bv bd w W len c data o0) (h0 : J [] W) :
    CallsIn Fence.wide n Tryd.prog 27 #[.func (.yield l) #[] #[], .pointer (some ⟨Bsep, 0, none⟩), .pointer (some ⟨Bs, 0, none⟩), .pointer (some ⟨Bv, 0, none⟩)] W fun e W' => (∃ v, e = .returned v) ∧ ∃ xs : List (Piece w bd len), xs.map Piece.bytes = lines data ∧ J xs W' := by
  refine callsIn_of_wp Tryd.func27 rfl trivial ?_ rfl
  simp only [Tryd.ntmps27, List.size_toArray, List.length_cons, List.length_nil, Nat.reduceAdd, Nat.reduceSub, Array.replicate_succ, Array.replicate_zero, List.push_toArray, List.append_toArray, List.nil_append, List.cons_append]
  have hsep := hR.sep
  have hwide : ∀ f, Fence.wide.fn f := fun _ => trivial
  have HY : Hid (∀ pre x W1, J pre W1 → pre.length < len + 1 → YieldAt Fence.wide (n - 1) Tryd.prog l (Piece.enc x) W1 fun e W' => e = .returned (.bool true) ∧ J (pre ++ [x]) W' ∧
      (∀ k, k = Bsep ∨ k = bsep ∨ k = Bs ∨ k = Bv ∨ k = bd → W'.heap[k]? = W1.heap[k]?)) := hY
  clear hY
  gi_wp2_with fail
  gi_loopw [7] (fun _ wr => ∃ (pre : List (Piece w bd len)) (m c o : Nat) (rest : List UInt8), pre.length + m ≤ len ∧ pre.map Piece.bytes ++ lines rest = lines data ∧ Rest Bsep bsep Bs Bv bd w wr m c rest o ∧ J pre wr) (fun _ wr => boxLen wr Bs)
  case atStart => exact ⟨[], len, c, o0, data, by simp, by simp, hR, h0⟩
  case round =>
    obtain ⟨pre, m, c, o, rest, hpl, hpre, hRr, hJr⟩ := hrel
    have hc1 := hRr.sep
    have hc2 := hRr.cell
    have hc3 := hRr.save
    have hix := ix_calls ⟨bd, o, none⟩ m c bsep 0 1 rest wr hRr.at hRr.nl
    have hle := hRr.le
    have hcap := hRr.cap
    have HP : Hid (pre.map Piece.bytes ++ lines rest = lines data) := hpre
    clear hpre hR hsep h0
    by_cases hneg : Lib.indexByte rest 10 = -1
    · rw [hneg] at hix
      have hlr := lines_none rest hneg
      have HL : Hid (lines rest = [rest]) := hlr
      clear hlr hneg
      obtain ⟨fn, tmps, assign, body, hy, hRd⟩ := HY.out pre ⟨(some ⟨bd, o, none⟩, m, rest), hRr.here, (fun ad e => by cases e; rfl), (by show m ≤ len; omega)⟩ wr hJr (by omega)
      dsimp only [Piece.enc] at hy
      gi_wp2_with (gi_at_call 25; refine (callsIn_wide.2 hix).mono ?_; rintro e w' ⟨rfl, rfl⟩)
      refine hRd.mono ?_
      rintro e W3 ⟨rfl, hJ3, _⟩
      gi_wp2
      go_end0
      exact ⟨⟨_, rfl⟩, _, by rw [← HP.out, HL.out, List.map_append]; rfl, hJ3⟩
    · obtain ⟨i, hi⟩ : ∃ i : Nat, Lib.indexByte rest 10 = (i : Int) := ⟨(Lib.indexByte rest 10).toNat, by have := index_ge rest; omega⟩
      rw [hi] at hix
      obtain ⟨hil, hlr⟩ := lines_some rest i hi
      have hrl := hRr.here.len
      have him : i < m := by omega
      have HL : Hid (lines rest = rest.take i :: lines (rest.drop (i + 1))) := hlr
      have HM : Hid (m = rest.length) := hrl
      have HB : Hid (boxLen wr Bs = m) := hRr.len
      clear hlr hneg hrl hil hi
      obtain ⟨x, hxe, hxb⟩ : ∃ x : Piece w bd len, Piece.enc x = #[.slice (some ⟨bd, o, none⟩) i i] ∧ x.bytes = rest.take i := ⟨⟨(some ⟨bd, o, none⟩, i, rest.take i), hRr.here.take i (by omega), (fun ad e => by cases e; rfl), (by show i ≤ len; omega)⟩, rfl, rfl⟩
      have HX : Hid (x.bytes = rest.take i) := hxb
      have hy0 := HY.out pre x wr hJr (by omega)
      rw [hxe] at hy0
      obtain ⟨fn, tmps, assign, body, hy, hRd⟩ := hy0
      clear hxe hxb
      have i1 : (i : Int) < (m : Int) := by omega
      have i2 : (m : Int) ≤ (c : Int) := by omega
      gi_wp2_with (gi_at_call 25; refine (callsIn_wide.2 hix).mono ?_; rintro e w' ⟨rfl, rfl⟩)
      refine hRd.mono ?_
      rintro e W3 ⟨rfl, hJ3, hkeep⟩
      have R3 : Rest Bsep bsep Bs Bv bd w W3 m c rest o := ⟨(cell_of_heap (hkeep _ (by simp)) 0).trans hRr.sep, (cell_of_heap (hkeep _ (by simp)) 0).trans hRr.nl, (hkeep _ (by simp)).trans hRr.s, (cell_of_heap (hkeep _ (by simp)) 0).trans hRr.save, hRr.le, hRr.cap, hRr.here, (hkeep _ (by simp)).trans hRr.data⟩
      clear hkeep hc1 hc2 hc3 hy hRd hix hRr hJr
      have hc1 := R3.sep
      have hc2 := R3.cell
      have hfz := R3.free
      gi_wp2
      obtain ⟨o', R4⟩ := rest_next R3 him hd1 hd2 hd3 hd4
      have J4 := hJ _ _ _ _ hJ3 (grown_set W3 ⟨Bs, 0, none⟩ (.slice (if c = i + 1 then some ⟨bd, o, none⟩ else some ⟨bd, o + (i + 1), none⟩) (m - (i + 1)) (c - (i + 1)))) (fun r e => by cases e; rfl)
      have L4 := R4.len
      go_roundw
      case rel => exact ⟨pre ++ [x], _, _, o', _, by simp; omega, by rw [← HP.out, HL.out, List.map_append, ← HX.out]; simp, R4, J4⟩
      case measure => rw [L4, HB.out]; omega
end Go.Proofs.Qxb6602806aDoor
