/- The range over bytes.SplitSeq(data, a newline) in sse.AppendEvent: the plain facts on the worlds. -/
import Derived.Test.Qxb6602806aDoorEv
namespace Go.Proofs.Qxb6602806aDoor
open Go Go.RowKit Go.Shelf
attribute [local go_sem] Oper.semAt_some

/-- The world in which the loop begins. -/
def sepW (W : World) (s : Value) : World := (((W.alloc (.cells #[.int .u8 10] 5 (1, 2))).alloc (.cells #[s] 22)).alloc (.cells #[.slice (some ⟨W.heap.size, 0, none⟩) 1 1] 22)).alloc (.cells #[.int .i64 0] 3)

theorem sepW_size (W : World) (s : Value) : (sepW W s).heap.size = W.heap.size + 4 := by simp [sepW]
theorem sepW_old (W : World) (s : Value) (k : Nat) (hk : k < W.heap.size) : (sepW W s).heap[k]? = W.heap[k]? := by
  unfold sepW
  rw [Below.heap_alloc _ _ _ (by simp; omega), Below.heap_alloc _ _ _ (by simp; omega), Below.heap_alloc _ _ _ (by simp; omega), Below.heap_alloc _ _ _ hk]
theorem sepW_b (W : World) (s : Value) : (sepW W s).heap[W.heap.size]? = some (.cells #[.int .u8 10] 5 (1, 2)) := by
  unfold sepW
  rw [Below.heap_alloc _ _ _ (by simp; omega), Below.heap_alloc _ _ _ (by simp; omega), Below.heap_alloc _ _ _ (by simp)]
  exact heap_alloc_new W _
theorem sepW_s (W : World) (s : Value) : (sepW W s).heap[W.heap.size + 1]? = some (.cells #[s] 22 (0, 0)) := by
  unfold sepW
  rw [Below.heap_alloc _ _ _ (by simp), Below.heap_alloc _ _ _ (by simp)]
  have := heap_alloc_new (W.alloc (.cells #[.int .u8 10] 5 (1, 2))) (.cells #[s] 22)
  simpa using this
theorem sepW_sep (W : World) (s : Value) : (sepW W s).heap[W.heap.size + 2]? = some (.cells #[.slice (some ⟨W.heap.size, 0, none⟩) 1 1] 22 (0, 0)) := by
  unfold sepW
  rw [Below.heap_alloc _ _ _ (by simp)]
  have := heap_alloc_new ((W.alloc (.cells #[.int .u8 10] 5 (1, 2))).alloc (.cells #[s] 22)) (.cells #[.slice (some ⟨W.heap.size, 0, none⟩) 1 1] 22)
  simpa using this
theorem sepW_v (W : World) (s : Value) : (sepW W s).heap[W.heap.size + 3]? = some (.cells #[.int .i64 0] 3 (0, 0)) := by
  unfold sepW
  have := heap_alloc_new (((W.alloc (.cells #[.int .u8 10] 5 (1, 2))).alloc (.cells #[s] 22)).alloc (.cells #[.slice (some ⟨W.heap.size, 0, none⟩) 1 1] 22)) (.cells #[.int .i64 0] 3)
  simpa using this

def KeepP (W : World) (bd : Nat) (A B : World) : Prop := ∀ k, k = W.heap.size + 2 ∨ k = W.heap.size ∨ k = W.heap.size + 1 ∨ k = W.heap.size + 3 ∨ k = bd → B.heap[k]? = A.heap[k]?

theorem seq_split (nf : Nat) (hnf : 1 ≤ nf) (W : World) (bd od n2 c2 : Nat) (data : List UInt8) (hat : At W (some ⟨bd, od, none⟩) n2 data) (hb : n2 ≤ 1048576) (hc2 : n2 ≤ c2) (hc3 : c2 ≤ 140737488355328) (hbd : bd < W.heap.size) :
    SeqS Fence.wide nf Tryd.prog 27 #[.pointer (some ⟨W.heap.size + 2, 0, none⟩), .pointer (some ⟨W.heap.size + 1, 0, none⟩), .pointer (some ⟨W.heap.size + 3, 0, none⟩)]
      (fun x : Piece (sepW W (.slice (some ⟨bd, od, none⟩) n2 c2)) bd n2 => #[.slice x.1.1 x.1.2.1 x.1.2.1]) (KeepP W bd) (fun xs => xs.map Piece.bytes = lines data) (n2 + 1) (sepW W (.slice (some ⟨bd, od, none⟩) n2 c2)) (W.heap.size + 1) := by
  intro l J V hV hJ hY h0
  have hs := sepW_size W (.slice (some ⟨bd, od, none⟩) n2 c2)
  refine iter_in nf hnf l (W.heap.size + 2) W.heap.size (W.heap.size + 1) (W.heap.size + 3) bd (sepW W (.slice (some ⟨bd, od, none⟩) n2 c2)) V n2 c2 od data hb J hJ (by omega) (by omega) (by omega) (by omega) hY ?_ h0
  have hk : ∀ k, k < W.heap.size + 4 → V.heap[k]? = (sepW W (.slice (some ⟨bd, od, none⟩) n2 c2)).heap[k]? := fun k hk => hV.block k (by omega)
  refine ⟨?_, ?_, ?_, ?_, hc2, hc3, ?_, hk bd (by omega)⟩
  · exact (cell_of_heap (hk _ (by omega)) 0).trans (cell_of_one (sepW_sep _ _))
  · refine (cell_of_heap (hk _ (by omega)) 0).trans ?_
    simp [World.cell?, sepW_b]
  · exact (hk _ (by omega)).trans (sepW_s _ _)
  · exact (cell_of_heap (hk _ (by omega)) 0).trans (cell_of_one (sepW_v _ _))
  · exact hat.keep fun ad _ hl => sepW_old _ _ _ hl

theorem LoopInv.acc {w Ws W : World} {g0 : Option Nat} {p : Option Addr} {n cap : Nat} {l0 l : List UInt8} {Bs n0 M c : Nat} (ha : Acc w g0 Ws p n cap l0) (h : LoopInv Ws w.heap.size Bs (blk p) n0 M c l W) (hBs : w.heap.size ≤ Bs) :
    ∃ pW nW cW, W.heap[w.heap.size]? = some (.cells #[.slice pW nW cW] 22 (0, 0)) ∧ Acc w g0 W pW nW cW l ∧ nW ≤ n0 + c * (M + 7) := by
  obtain ⟨pW, nW, cW, ho, hb, hl, hn⟩ := h.buf
  refine ⟨pW, nW, cW, hb, ⟨ho, ⟨h.os.trans ha.grown.os, h.tape.trans ha.grown.tape, h.output.trans ha.grown.output, Nat.le_trans ha.grown.size h.size, fun k hk hne => (h.kept k (by have := ha.grown.size; omega) (by omega) ?_ (by omega)).trans (ha.grown.block k hk hne)⟩, ?_⟩, hn⟩
  · intro e
    cases p with
    | none => cases e
    | some a =>
      simp [blk] at e
      rcases ha.lies a rfl with h4 | h4
      · exact hne (by rw [e]; exact h4)
      · omega
  · exact lies_trans ha.lies ha.grown.size hl

theorem AccS.acc {w W W2 : World} {g0 : Option Nat} {B0 : Nat} {p p' : Option Addr} {n cap n' cap' : Nat} {l l' : List UInt8} (ha : Acc w g0 W p n cap l) (h : AccS W B0 (blk p) W2 p' n' cap' l') (hB : w.heap.size ≤ B0) : Acc w g0 W2 p' n' cap' l' := by
  refine ⟨h.own, ⟨h.os.trans ha.grown.os, h.tape.trans ha.grown.tape, h.output.trans ha.grown.output, Nat.le_trans ha.grown.size h.size, fun k hk hne => (h.kept k (by have := ha.grown.size; omega) (by omega) ?_).trans (ha.grown.block k hk hne)⟩, lies_trans ha.lies ha.grown.size h.lies⟩
  intro e
  cases p with
  | none => cases e
  | some a =>
    simp [blk] at e
    rcases ha.lies a rfl with h4 | h4
    · exact hne (by rw [e]; exact h4)
    · omega

theorem Acc.putObj {w W : World} {g0 : Option Nat} {p : Option Addr} {n cap : Nat} {l : List UInt8} (ha : Acc w g0 W p n cap l) {D : Nat} {ds : Option (List Deferred)} (hD : w.heap.size ≤ D) (hK : W.heap[D]? = some (.deferred ds)) (o : Obj) : Acc w g0 (W.putObj D o) p n cap l := by
  have hg := grownBy_putObj' W D o
  refine ⟨ha.own.grown hg ?_, grown_chain ha.grown hg (fun b e => by cases e; exact .inr hD), ha.lies⟩
  intro ad e er
  cases er
  rcases ha.own.shape with ⟨h0, _⟩ | ⟨g, cur, h0, hgg, _⟩
  · rw [e] at h0; cases h0
  · rw [e] at h0; cases h0
    rw [hgg] at hK; cases hK

theorem wpListIn_accE {P : Program} {F : Fence} {nf : Nat} {W0 W : World} {B0 : Nat} {g1 : Option Nat} {ops : Array Oper} {rest : List Oper} {o : Oper} {a : Act} {Q : Exit → Act → World → Prop} (ht : BT P) (hgd : o.guard = none) (s x : Operand) {tx : TypeId}
    {p : Option Addr} {n cap : Nat} {l : List UInt8} (hacc : AccS W0 B0 g1 W p n cap l) {xv : Value} {m : Nat} {k : List UInt8} (hsrc : Src P 1 tx xv m (bvs k) W)
    (ho : o.op = .call { callee := .builtin .append, args := #[s, x], argTypes := #[22, tx] })
    (hs : a.eval s = .slice p n cap) (hx : a.eval x = xv) (hb : n + m ≤ 140737488355328)
    (h : ∀ p' n' cap' W', AccS W0 B0 g1 W' p' n' cap' (l ++ k) → (∃ u, W'.cell? ⟨B0, 0, none⟩ = some u) → W'.frozen? ⟨B0, 0, none⟩ = false → n' ≤ n + m → n ≤ n' → wpListIn F nf P ops Q rest (a.put o.dst (.slice p' n' cap')) W') : wpListIn F nf P ops Q (o :: rest) a W := by
  obtain ⟨u, hu⟩ := hacc.box
  exact wpListIn_accS ht hgd s x hacc (cell_of_one hu) hsrc ho hs hx hb (fun p' n' cap' W' h1 h2 h3 h4 h5 => h p' n' cap' W' h1 ⟨_, h2⟩ h3 h4 h5)

theorem AccS.stored {W0 W : World} {B0 : Nat} {g1 : Option Nat} {p : Option Addr} {n cap : Nat} {l : List UInt8} (h : AccS W0 B0 g1 W p n cap l) (u : Value) : (W.setCell ⟨B0, 0, none⟩ u).heap[B0]? = some (.cells #[u] 22 (0, 0)) := by
  obtain ⟨x, hx⟩ := h.box
  exact one_setCell hx

theorem lies_ne {g : Option Nat} {B k : Nat} {p : Option Addr} (h : Lies g B p) (hk : k < B) (hg : some k ≠ g) : some k ≠ blk p := by
  intro e
  cases p with
  | none => cases e
  | some a =>
    simp [blk] at e
    rcases h a rfl with h4 | h4
    · exact hg (by rw [e]; exact h4)
    · omega
theorem lt_ne {B k : Nat} {p : Option Addr} (h : ∀ ad, p = some ad → ad.block < B) (hk : B ≤ k) : some k ≠ blk p := by
  intro e
  cases p with
  | none => cases e
  | some a => simp [blk] at e; have := h a rfl; omega
end Go.Proofs.Qxb6602806aDoor
