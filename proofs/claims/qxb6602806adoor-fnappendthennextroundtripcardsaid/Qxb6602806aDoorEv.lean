/- sse.AppendEvent: what it returns, for every buffer that the call owns. -/
import Derived.Test.Qxb6602806aDoorIter
import Derived.Lib.SlBytesConst
namespace Go.Proofs.Qxb6602806aDoor
open Go Go.RowKit Go.Shelf
attribute [local go_sem] Oper.semAt_some

set_option maxHeartbeats 1000000 in
theorem splitseq_calls (p q : Option Addr) (n c : Nat) (w : World) :
    Calls Tryd.prog 17 #[.slice p n c, .slice q 1 1] w fun e w' => e = .returned (.func (.func 27) #[] #[.pointer (some ⟨w.heap.size + 1, 0, none⟩), .pointer (some ⟨w.heap.size, 0, none⟩), .pointer (some ⟨w.heap.size + 2, 0, none⟩)]) ∧
      w' = ((w.alloc (.cells #[.slice p n c] 22)).alloc (.cells #[.slice q 1 1] 22)).alloc (.cells #[.int .i64 0] 3) := by
  go_enter Tryd.func17, Tryd.ntmps17
  go_wp2
  go_ret
  exact ⟨rfl, rfl⟩

/-- The buffer in its box: a row of the call's own; what else lay in W0 lies as it lay, but for the box B0 and the row's first block g1. -/
structure AccS (W0 : World) (B0 : Nat) (g1 : Option Nat) (W : World) (p : Option Addr) (n cap : Nat) (l : List UInt8) : Prop where
  own : Own W p n cap l
  box : ∃ v, W.heap[B0]? = some (.cells #[v] 22 (0, 0))
  os : W.os = W0.os
  tape : W.tape = W0.tape
  output : W.output = W0.output
  size : W0.heap.size ≤ W.heap.size
  kept : ∀ k, k < W0.heap.size → k ≠ B0 → some k ≠ g1 → W.heap[k]? = W0.heap[k]?
  lies : Lies g1 W0.heap.size p

theorem own_ne {W : World} {p : Option Addr} {n cap : Nat} {l : List UInt8} (h : Own W p n cap l) {B : Nat} {v : Value} (hb : W.heap[B]? = some (.cells #[v] 22 (0, 0))) : ∀ ad, p = some ad → ad.block ≠ B := by
  intro ad hp e
  rcases h.shape with ⟨h0, _⟩ | ⟨g, cur, h0, hg, _⟩
  · rw [hp] at h0; cases h0
  · rw [hp] at h0; cases h0
    subst e
    rw [hg] at hb
    simp at hb

theorem AccS.start {W0 : World} {B0 : Nat} {p : Option Addr} {n cap : Nat} {l : List UInt8} (h : Own W0 p n cap l) (hb : ∃ v, W0.heap[B0]? = some (.cells #[v] 22 (0, 0))) : AccS W0 B0 (blk p) W0 p n cap l :=
  ⟨h, hb, rfl, rfl, rfl, Nat.le_refl _, fun _ _ _ _ => rfl, fun ad e => .inl (by rw [e]; rfl)⟩

theorem AccS.alloc {W0 W : World} {B0 : Nat} {g1 : Option Nat} {p : Option Addr} {n cap : Nat} {l : List UInt8} (h : AccS W0 B0 g1 W p n cap l) (o : Obj) : AccS W0 B0 g1 (W.alloc o) p n cap l := by
  obtain ⟨v, hv⟩ := h.box
  exact ⟨h.own.alloc o, ⟨v, (Below.heap_alloc _ _ _ (Array.getElem?_eq_some_iff.1 hv).1).trans hv⟩, h.os, h.tape, h.output, by simp; have := h.size; omega, fun k hk h1 h2 => (Below.heap_alloc _ _ _ (by have := h.size; omega)).trans (h.kept k hk h1 h2), h.lies⟩

theorem AccS.store {W0 W : World} {B0 : Nat} {g1 : Option Nat} {p : Option Addr} {n cap : Nat} {l : List UInt8} (h : AccS W0 B0 g1 W p n cap l) (u : Value) : AccS W0 B0 g1 (W.setCell ⟨B0, 0, none⟩ u) p n cap l := by
  obtain ⟨v, hv⟩ := h.box
  exact ⟨h.own.setCell _ _ (own_ne h.own hv), ⟨u, one_setCell hv⟩, h.os, h.tape, h.output, by simpa [World.setCell] using h.size, fun k hk h1 h2 => (Below.heap_setCell _ _ _ _ h1).trans (h.kept k hk h1 h2), h.lies⟩

theorem AccS.step {W0 W W' : World} {B0 : Nat} {g1 : Option Nat} {p p' : Option Addr} {n cap n' cap' : Nat} {l l' : List UInt8} (h : AccS W0 B0 g1 W p n cap l) (ho : Own W' p' n' cap' l') (hg : W.grownBy W' (blk p)) (hl : Lies (blk p) W.heap.size p') : AccS W0 B0 g1 W' p' n' cap' l' := by
  obtain ⟨v, hv⟩ := h.box
  have hne := own_ne h.own hv
  have hB : W'.heap[B0]? = W.heap[B0]? := hg.block B0 (Array.getElem?_eq_some_iff.1 hv).1 (fun e => by
    cases p with
    | none => cases e
    | some a => exact hne a rfl (by simpa [blk] using e.symm))
  refine ⟨ho, ⟨v, hB.trans hv⟩, hg.os.trans h.os, hg.tape.trans h.tape, hg.output.trans h.output, Nat.le_trans h.size hg.size, fun k hk h1 h2 => ?_, lies_trans h.lies h.size hl⟩
  refine (hg.block k (Nat.lt_of_lt_of_le hk h.size) ?_).trans (h.kept k hk h1 h2)
  intro e
  cases p with
  | none => cases e
  | some a =>
    simp [blk] at e
    rcases h.lies a rfl with h3 | h3
    · exact h2 (by rw [e]; exact h3)
    · omega

theorem AccS.at {W0 W : World} {B0 : Nat} {g1 : Option Nat} {p : Option Addr} {n cap : Nat} {l : List UInt8} (h : AccS W0 B0 g1 W p n cap l) {q : Option Addr} {m : Nat} {k : List UInt8} (hq : At W0 q m k) (ho : ∀ ad, q = some ad → ad.block ≠ B0 ∧ some ad.block ≠ g1) : At W q m k :=
  hq.keep fun ad e hl => h.kept _ hl (ho ad e).1 (ho ad e).2

theorem AccS.cell {W0 W : World} {B0 : Nat} {g1 : Option Nat} {p : Option Addr} {n cap : Nat} {l : List UInt8} (h : AccS W0 B0 g1 W p n cap l) (k o : Nat) (hk : k < W0.heap.size) (h1 : k ≠ B0) (h2 : some k ≠ g1) : W.cell? ⟨k, o, none⟩ = W0.cell? ⟨k, o, none⟩ := cell_of_heap (h.kept k hk h1 h2) o
theorem AccS.cast {W0 W : World} {B0 : Nat} {g1 : Option Nat} {p : Option Addr} {n cap : Nat} {l l' : List UInt8} (h : AccS W0 B0 g1 W p n cap l) (e : l = l') : AccS W0 B0 g1 W p n cap l' := e ▸ h
theorem AccS.trans {W0 W1 W2 : World} {B0 : Nat} {g0 : Option Nat} {p p' : Option Addr} {n cap n' cap' : Nat} {l l' : List UInt8} (h : AccS W0 B0 g0 W1 p n cap l) (k : AccS W1 B0 (blk p) W2 p' n' cap' l') : AccS W0 B0 g0 W2 p' n' cap' l' := by
  refine ⟨k.own, k.box, k.os.trans h.os, k.tape.trans h.tape, k.output.trans h.output, Nat.le_trans h.size k.size, fun b hb h1 h2 => ?_, ?_⟩
  · refine (k.kept b (Nat.lt_of_lt_of_le hb h.size) h1 ?_).trans (h.kept b hb h1 h2)
    intro e
    cases p with
    | none => cases e
    | some a =>
      simp [blk] at e
      rcases h.lies a rfl with h3 | h3
      · exact h2 (by rw [e]; exact h3)
      · omega
  · intro ad e
    rcases k.lies ad e with h3 | h3
    · cases p with
      | none => cases h3
      | some a =>
        simp [blk] at h3
        have := h.lies a rfl
        rw [h3]; exact this
    · exact .inr (by have := h.size; omega)

section
variable {P : Program}
theorem wpListIn_accS {F : Fence} {nf : Nat} {W0 W : World} {B0 : Nat} {g1 : Option Nat} {ops : Array Oper} {rest : List Oper} {o : Oper} {a : Act} {Q : Exit → Act → World → Prop} (ht : BT P) (hgd : o.guard = none) (s x : Operand) {tx : TypeId}
    {p : Option Addr} {n cap : Nat} {l : List UInt8} (hacc : AccS W0 B0 g1 W p n cap l) {v0 : Value} (hv0 : W.cell? ⟨B0, 0, none⟩ = some v0) {xv : Value} {m : Nat} {k : List UInt8} (hsrc : Src P 1 tx xv m (bvs k) W)
    (ho : o.op = .call { callee := .builtin .append, args := #[s, x], argTypes := #[22, tx] })
    (hs : a.eval s = .slice p n cap) (hx : a.eval x = xv) (hb : n + m ≤ 140737488355328)
    (h : ∀ p' n' cap' W', AccS W0 B0 g1 W' p' n' cap' (l ++ k) → W'.cell? ⟨B0, 0, none⟩ = some v0 → W'.frozen? ⟨B0, 0, none⟩ = false → n' ≤ n + m → n ≤ n' → wpListIn F nf P ops Q rest (a.put o.dst (.slice p' n' cap')) W') : wpListIn F nf P ops Q (o :: rest) a W := by
  have hm : m = k.length := by have := hsrc.newsLen; rw [bvs_length] at this; omega
  refine wpListIn_append_b ht hgd s x tx ho hs hacc.own hx k hsrc (by omega) ?_
  intro p' n' cap' w' h1 h2 h3
  have e1 := h1.len
  have e2 := hacc.own.len
  have hst := hacc.step h1 h2 h3
  obtain ⟨v1, hv1⟩ := hst.box
  obtain ⟨v, hv⟩ := hacc.box
  have hne := own_ne hacc.own hv
  have hB : w'.heap[B0]? = W.heap[B0]? := h2.block B0 (Array.getElem?_eq_some_iff.1 hv).1 (fun e => by
    cases p with
    | none => cases e
    | some a => exact hne a rfl (by simpa [blk] using e.symm))
  exact h _ _ _ _ hst ((cell_of_heap hB 0).trans hv0) (free_of_one hv1) (by simp at e1; omega) (by simp at e1; omega)
end

theorem at_one' (w : World) (c : UInt8) (H : Nat) (hH : w.heap.size = H) : At (w.alloc (.cells #[.int .u8 (c.toNat : Int)] 5)) (some ⟨H, 0, none⟩) 1 [c] := hH ▸ at_one w c
theorem size_set (w : World) (a : Addr) (u : Value) : (w.setCell a u).heap.size = w.heap.size := by simp [World.setCell]
/-- The world behind the two boxes. -/
def boxed (w : World) (v e0 e1 : Value) : World := (w.alloc (.cells #[v] 22)).alloc (.cells #[e0, e1] 27)
theorem boxed_size (w : World) (v e0 e1 : Value) : (boxed w v e0 e1).heap.size = w.heap.size + 2 := by simp [boxed]
theorem boxed_box (w : World) (v e0 e1 : Value) : (boxed w v e0 e1).heap[w.heap.size]? = some (.cells #[v] 22 (0, 0)) := by
  unfold boxed
  rw [Below.heap_alloc _ _ _ (by simp)]
  exact heap_alloc_new w _
theorem boxed_ev (w : World) (v e0 e1 : Value) : (boxed w v e0 e1).heap[w.heap.size + 1]? = some (.cells #[e0, e1] 27 (0, 0)) := by
  unfold boxed
  have := heap_alloc_new (w.alloc (.cells #[v] 22)) (.cells #[e0, e1] 27)
  simpa using this
theorem boxed_old (w : World) (v e0 e1 : Value) (k : Nat) (hk : k < w.heap.size) : (boxed w v e0 e1).heap[k]? = w.heap[k]? := by
  unfold boxed
  rw [Below.heap_alloc _ _ _ (by simp; omega), Below.heap_alloc _ _ _ hk]

/-- What the walk of AppendEvent knows between two statements. -/
structure Ev (w : World) (v e0 e1 : Value) (g0 : Option Nat) (W : World) (p : Option Addr) (n cap : Nat) (l : List UInt8) : Prop where
  acc : AccS (boxed w v e0 e1) w.heap.size g0 W p n cap l
  ne : some (w.heap.size + 1) ≠ g0

section
variable {w : World} {v e0 e1 : Value} {g0 : Option Nat} {W : World} {p : Option Addr} {n cap : Nat} {l : List UInt8}
theorem Ev.store (h : Ev w v e0 e1 g0 W p n cap l) (u : Value) : Ev w v e0 e1 g0 (W.setCell ⟨w.heap.size, 0, none⟩ u) p n cap l := ⟨h.acc.store u, h.ne⟩
theorem Ev.alloc (h : Ev w v e0 e1 g0 W p n cap l) (o : Obj) : Ev w v e0 e1 g0 (W.alloc o) p n cap l := ⟨h.acc.alloc o, h.ne⟩
theorem Ev.cast {l' : List UInt8} (h : Ev w v e0 e1 g0 W p n cap l) (e : l = l') : Ev w v e0 e1 g0 W p n cap l' := e ▸ h
theorem Ev.cells (h : Ev w v e0 e1 g0 W p n cap l) : W.cell? ⟨w.heap.size + 1, 0, none⟩ = some e0 ∧ W.cell? ⟨w.heap.size + 1, 1, none⟩ = some e1 := by
  have e := h.acc.kept (w.heap.size + 1) (by rw [boxed_size]; omega) (by omega) h.ne
  rw [boxed_ev] at e
  exact ⟨by simp [World.cell?, e], by simp [World.cell?, e]⟩
theorem Ev.at (h : Ev w v e0 e1 g0 W p n cap l) {q : Option Addr} {m : Nat} {k : List UInt8} (hq : At w q m k) (ho : Off g0 w.heap.size q) : At W q m k :=
  hq.keep fun ad e hl => (h.acc.kept _ (by rw [boxed_size]; omega) (by omega) (ho ad e).1).trans (boxed_old _ _ _ _ _ hl)
theorem Ev.done (h : Ev w v e0 e1 g0 W p n cap l) : Acc w g0 W p n cap l := by
  have hs := h.acc.size
  rw [boxed_size] at hs
  refine ⟨h.acc.own, ⟨h.acc.os, h.acc.tape, h.acc.output, by omega, fun k hk hne => (h.acc.kept k (by rw [boxed_size]; omega) (by omega) hne).trans (boxed_old _ _ _ _ _ hk)⟩, ?_⟩
  intro ad e
  rcases h.acc.lies ad e with h1 | h1
  · exact .inl h1
  · rw [boxed_size] at h1; exact .inr (by omega)
end
theorem Ev.grow {w : World} {v e0 e1 : Value} {g0 : Option Nat} {W W' : World} {p p' : Option Addr} {n cap n' cap' : Nat} {l l' : List UInt8} (h : Ev w v e0 e1 g0 W p n cap l) (ho : Own W' p' n' cap' l') (hg : W.grownBy W' none) (hl : Lies (blk p) W.heap.size p') : Ev w v e0 e1 g0 W' p' n' cap' l' :=
  ⟨h.acc.step ho ⟨hg.os, hg.tape, hg.output, hg.size, fun k hk _ => hg.block k hk (by simp)⟩ hl, h.ne⟩
theorem Ev.boxcell {w : World} {v e0 e1 : Value} {g0 : Option Nat} {W : World} {p : Option Addr} {n cap : Nat} {l : List UInt8} (h : Ev w v e0 e1 g0 W p n cap l) : (∃ u, W.cell? ⟨w.heap.size, 0, none⟩ = some u) ∧ W.frozen? ⟨w.heap.size, 0, none⟩ = false := by
  obtain ⟨u, hu⟩ := h.acc.box
  exact ⟨⟨u, cell_of_one hu⟩, free_of_one hu⟩
theorem Ev.start {w : World} {p : Option Addr} {n cap : Nat} {l : List UInt8} (h : Own w p n cap l) (e0 e1 : Value) : Ev w (.slice p n cap) e0 e1 (blk p) (boxed w (.slice p n cap) e0 e1) p n cap l := by
  refine ⟨AccS.start (B0 := w.heap.size) (h.keep fun ad _ hl => boxed_old _ _ _ _ _ hl) ⟨_, boxed_box _ _ _ _⟩, ?_⟩
  intro e
  cases p with
  | none => cases e
  | some a => simp [blk] at e; have := h.lt a rfl; omega

theorem Ev.stored {w : World} {v e0 e1 : Value} {g0 : Option Nat} {W : World} {p : Option Addr} {n cap : Nat} {l : List UInt8} (h : Ev w v e0 e1 g0 W p n cap l) (u : Value) : (W.setCell ⟨w.heap.size, 0, none⟩ u).cell? ⟨w.heap.size, 0, none⟩ = some u := by
  obtain ⟨x, hx⟩ := h.acc.box
  exact cell_of_one (one_setCell hx)

theorem wpListIn_ev {P : Program} {F : Fence} {nf : Nat} {w W : World} {v e0 e1 : Value} {g0 : Option Nat} {ops : Array Oper} {rest : List Oper} {o : Oper} {a : Act} {Q : Exit → Act → World → Prop} (ht : BT P) (hgd : o.guard = none) (s x : Operand) {tx : TypeId}
    {p : Option Addr} {n cap : Nat} {l : List UInt8} (hev : Ev w v e0 e1 g0 W p n cap l) {xv : Value} {m : Nat} {k : List UInt8} (hsrc : Src P 1 tx xv m (bvs k) W)
    (ho : o.op = .call { callee := .builtin .append, args := #[s, x], argTypes := #[22, tx] })
    (hs : a.eval s = .slice p n cap) (hx : a.eval x = xv) (hb : n + m ≤ 140737488355328)
    (h : ∀ p' n' cap' W', Ev w v e0 e1 g0 W' p' n' cap' (l ++ k) → (∃ u, W'.cell? ⟨w.heap.size, 0, none⟩ = some u) → W'.frozen? ⟨w.heap.size, 0, none⟩ = false → W'.cell? ⟨w.heap.size + 1, 0, none⟩ = some e0 → W'.cell? ⟨w.heap.size + 1, 1, none⟩ = some e1 → n' ≤ n + m → n ≤ n' →
      wpListIn F nf P ops Q rest (a.put o.dst (.slice p' n' cap')) W') : wpListIn F nf P ops Q (o :: rest) a W := by
  obtain ⟨u, hu⟩ := hev.acc.box
  refine wpListIn_accS ht hgd s x hev.acc (cell_of_one hu) hsrc ho hs hx hb ?_
  intro p' n' cap' W' h1 h2 h3 h4 h5
  have h6 : Ev w v e0 e1 g0 W' p' n' cap' (l ++ k) := ⟨h1, hev.ne⟩
  exact h _ _ _ _ h6 ⟨_, h2⟩ h3 h6.cells.1 h6.cells.2 h4 h5


/-! ### The range over bytes.SplitSeq -/

theorem AccS.keepsOthers {W0 W : World} {B0 : Nat} {p p' : Option Addr} {n cap n' cap' : Nat} {l l' : List UInt8} (h : AccS W0 B0 (blk p) W p' n' cap' l') (h0 : Own W0 p n cap l) (hb : ∃ v, W0.heap[B0]? = some (.cells #[v] 22 (0, 0))) : KeepsOthers W0 W := by
  refine ⟨h.size, fun k o hk ho => (h.kept k (Array.getElem?_eq_some_iff.1 hk).1 ?_ ?_).trans hk⟩
  · rintro rfl
    obtain ⟨v, hv⟩ := hb
    rw [hv] at hk; cases hk; cases ho
  · intro e
    rcases h0.shape with ⟨rfl, _⟩ | ⟨g, cur, rfl, hg, _⟩
    · cases e
    · simp [blk] at e; subst e
      rw [hg] at hk; cases hk; cases ho

/-- Between two rounds: the buffer in its box holds what has come; all else is as when the loop began, but for the iterator's own cell Bs. -/
structure LoopInv (Ws : World) (B0 Bs : Nat) (g1 : Option Nat) (n0 M c : Nat) (l : List UInt8) (W : World) : Prop where
  buf : ∃ p n cap, Own W p n cap l ∧ W.heap[B0]? = some (.cells #[.slice p n cap] 22 (0, 0)) ∧ Lies g1 Ws.heap.size p ∧ n ≤ n0 + c * (M + 7)
  os : W.os = Ws.os
  tape : W.tape = Ws.tape
  output : W.output = Ws.output
  size : Ws.heap.size ≤ W.heap.size
  kept : ∀ k, k < Ws.heap.size → k ≠ B0 → some k ≠ g1 → k ≠ Bs → W.heap[k]? = Ws.heap[k]?

theorem LoopInv.own {Ws : World} {B0 Bs : Nat} {g1 : Option Nat} {n0 M : Nat} {α : Type} {f : α → List UInt8} {c : α → Nat} (hB0 : B0 < Ws.heap.size) : OwnFrom Ws.heap.size (fun (s : α) W => LoopInv Ws B0 Bs g1 n0 M (c s) (f s) W) := by
  intro s W W' row h hg hr
  obtain ⟨p, n, cap, ho, hb, hl, hn⟩ := h.buf
  refine ⟨⟨p, n, cap, ho.grown hg ?_, (hg.block B0 (Array.getElem?_eq_some_iff.1 hb).1 ?_).trans hb, hl, hn⟩, hg.os.trans h.os, hg.tape.trans h.tape, hg.output.trans h.output, Nat.le_trans h.size hg.size, fun k hk h1 h2 h3 => (hg.block k (Nat.lt_of_lt_of_le hk h.size) ?_).trans (h.kept k hk h1 h2 h3)⟩
  · intro ad e er
    obtain ⟨_, o, hro, hc⟩ := hr _ er.symm
    rcases ho.shape with ⟨h0, _⟩ | ⟨g, cur, h0, hgg, _⟩
    · rw [e] at h0; cases h0
    · rw [e] at h0; cases h0
      rw [hgg] at hro; cases hro; cases hc
  · intro er
    have := (hr _ er.symm).1
    omega
  · intro er
    have := (hr _ er.symm).1
    omega

theorem LoopInv.abides {Ws : World} {B0 Bs : Nat} {g1 : Option Nat} {n0 M : Nat} {α : Type} {f : List α → List UInt8} {c : List α → Nat} (h1 : B0 ≠ Bs) (h2 : some Bs ≠ g1) (h3 : Bs < Ws.heap.size) : Abides1 Bs (fun (s : List α) W => LoopInv Ws B0 Bs g1 n0 M (c s) (f s) W) := by
  intro s W W' row h hg hr
  obtain ⟨p, n, cap, ho, hb, hl, hn⟩ := h.buf
  refine ⟨⟨p, n, cap, ho.grown hg ?_, (hg.block B0 (Array.getElem?_eq_some_iff.1 hb).1 ?_).trans hb, hl, hn⟩, hg.os.trans h.os, hg.tape.trans h.tape, hg.output.trans h.output, Nat.le_trans h.size hg.size, fun k hk h1 h2 h3 => (hg.block k (Nat.lt_of_lt_of_le hk h.size) ?_).trans (h.kept k hk h1 h2 h3)⟩
  · intro ad e er
    have := hr _ er.symm
    rcases hl ad e with h4 | h4
    · rw [this] at h4; exact h2 h4
    · omega
  · intro er
    exact h1 (hr _ er.symm)
  · intro er
    exact h3 (hr _ er.symm)

/-- One round's end, told of the loop. -/
theorem LoopInv.next {Ws R W' : World} {B0 Bs : Nat} {g1 : Option Nat} {n0 M c : Nat} {l l' : List UInt8} {p p' : Option Addr} {n n' cap' : Nat} (h : LoopInv Ws B0 Bs g1 n0 M c l R) (hl : Lies g1 Ws.heap.size p)
    (hn : n ≤ n0 + c * (M + 7)) (ha : AccS R B0 (blk p) W' p' n' cap' l') (hb : W'.heap[B0]? = some (.cells #[.slice p' n' cap'] 22 (0, 0))) (hn' : n' ≤ n + (M + 7)) : LoopInv Ws B0 Bs g1 n0 M (c + 1) l' W' := by
  refine ⟨⟨p', n', cap', ha.own, hb, ?_, by rw [Nat.add_mul]; omega⟩, ha.os.trans h.os, ha.tape.trans h.tape, ha.output.trans h.output, Nat.le_trans h.size ha.size, fun k hk h1 h2 h3 => (ha.kept k (Nat.lt_of_lt_of_le hk h.size) h1 ?_).trans (h.kept k hk h1 h2 h3)⟩
  · exact lies_trans hl h.size ha.lies
  · intro e
    cases p with
    | none => cases e
    | some a =>
      simp [blk] at e
      rcases hl a rfl with h4 | h4
      · exact h2 (by rw [e]; exact h4)
      · omega

theorem wpIn_rangeFunc_S1 {F : Fence} {n : Nat} {P : Program} {α : Type} {g : Operand} {k1 : Tmp} (k2 : Tmp) {assign body : Code} {Q : Exit → Act → World → Prop} {a : Act} {w : World}
    (hro : F.round = none) (h1 : 1 ≤ n) {gf : Nat} {lb : Array Value} (hg : a.eval g = .func (.func gf) #[] lb) (hFg : F.fn gf) (eg : ∀ args w, (callFunc gf args).run P w = .ok (.enter gf args) w)
    {val : α → Value} {Kp : World → World → Prop} {S : List α → Prop} {N : Nat} {w0 : World} {Bs : Nat} (hseq : SeqS F (n - 1) P gf lb (fun x => #[val x]) Kp S N w0 Bs) (hBs : Bs < w.heap.size)
    (hKt : ∀ {A B C : World}, Kp A B → Kp B C → Kp A C) (hKb : ∀ (W : World) (l : Nat) (o o' : Obj), w.heap.size ≤ l → W.heap[l]? = some o → o.isCells = false → o.isWalk = false → Kp W (W.putObj l o')) (hb0 : Below w0.heap.size w0 w)
    (I : List α → World → Prop) (hI : OwnFrom w.heap.size I) (hIs : Abides1 Bs I) (h0 : I [] w)
    (hassign : ∀ (l : Nat) (x : α) (W : World) (K : Act → World → Prop), K { tmps := (a.tmps.setIfInBounds k1 (val x)).setIfInBounds k2 (val x), defers := [] } W →
      assign.wpIn (F.inRound l) (n - 1 - 1) P (Exit.then K (fun _ _ _ => False)) { tmps := a.tmps.setIfInBounds k1 (val x), defers := [] } W)
    (hbody : ∀ (l : Nat) (pre : List α) (x : α) (W : World), I pre W → pre.length < N → body.wpIn (F.inRound l) (n - 1 - 1) P (postS Kp I (pre ++ [x]) W) { tmps := (a.tmps.setIfInBounds k1 (val x)).setIfInBounds k2 (val x), defers := [] } W)
    (hdone : ∀ (D : Nat) (xs : List α) (W : World), w.heap.size ≤ D → S xs → I xs W → W.heap[D]? = some (.deferred (some [])) → Q .normal { a with defers := { target := .collected D, args := #[] } :: a.defers } W) :
    (Code.rangeFunc g #[k1] assign body).wpIn F n P Q a w :=
  wpIn_rangeFunc_S hro h1 hg hFg eg hseq hBs hKt hKb hb0 (fun _ => rfl) I hI hIs h0 (fun x => { tmps := (a.tmps.setIfInBounds k1 (val x)).setIfInBounds k2 (val x), defers := [] })
    (fun l x W K hK => by simpa using hassign l x W K hK) hbody hdone
end Go.Proofs.Qxb6602806aDoor
