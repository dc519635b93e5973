/- Byte slices that the call owns: append from whatever source, over any program. -/
import Derived.Deep.AppendSrc
import Derived.Deep.Upon
import Derived.OwnWalk
import Derived.OwnWalkIn
import Derived.WalkKit
import Derived.Laws.CopyOwn
namespace Go.Proofs.Qxb6603370aDoor
open Go Go.RowKit

/-- A byte, as a value. -/
def bv (c : UInt8) : Value := .int .u8 c.toNat
def bvs (l : List UInt8) : List Value := l.map bv
theorem bvs_length (l : List UInt8) : (bvs l).length = l.length := by simp [bvs]
theorem bvs_append (l m : List UInt8) : bvs (l ++ m) = bvs l ++ bvs m := by simp [bvs]
theorem bvs_one (l : List UInt8) : ∀ u ∈ bvs l, u.oneCell' = true := by
  intro u hu
  obtain ⟨_, _, rfl⟩ := List.mem_map.1 hu
  rfl
theorem bvs_get (l : List UInt8) (j : Nat) : (bvs l)[j]? = l[j]?.map bv := by simp [bvs]

section
variable {P : Program} (w : World)

theorem run_append_src (base : Nat) (t tx ty e : TypeId) (i : TypeInfo) (z : Value) (ht : P.underlying t = some (.slice e)) (hi : P.info? e = some i) (hz : i.zero = some z)
    (hsize : i.size = 1) (hby : i.bytes = 1) (hzs : z.cells.size = 1)
    (v : Value) (n : Nat) (xs : List Value) (hown : w.ownsRow base e 1 v n xs)
    (x : Value) (m : Nat) (news : List Value) (hs : Src P 1 tx x m news w)
    (hbytes : n + m ≤ 140737488355328) (hbase : base ≤ w.heap.size) :
    ∃ v' w', (Builtin.append_ #[t, tx] ty #[v, x]).run P w = .ok v' w' ∧ w'.ownsRow base e 1 v' (n + m) (xs ++ news) ∧ w.grownBy w' v.ownBlock ∧
      (v'.ownBlock = v.ownBlock ∨ v'.ownBlock = some w.heap.size) := by
  have hlen : (xs ++ news).length = (n + m) * 1 := by rw [List.length_append, hown.1, hs.newsLen]; omega
  have hs' : Src P i.size tx x m news w := by rw [hsize]; exact hs
  have grown : ∀ (old : Nat), old < n + m → ∀ (row : Option Nat),
      (w.drew.alloc (.cells ((xs ++ news).toArray ++ Builtin.zeroCells z.cells (grownCap w (n + m) old e - (n + m))) e)).ownsRow base e 1
        (.slice (some ⟨w.heap.size, 0, none⟩) (n + m) (grownCap w (n + m) old e)) (n + m) (xs ++ news) ∧
      w.grownBy (w.drew.alloc (.cells ((xs ++ news).toArray ++ Builtin.zeroCells z.cells (grownCap w (n + m) old e - (n + m))) e)) row := by
    intro old ho row
    have hge := grownCap_ge w (n + m) old e
    have hcm : grownCap w (n + m) old e ≤ maxLen := grownCap_le_maxLen w (n + m) old e (by unfold maxLen; omega)
    refine ⟨⟨hlen, .inr ⟨w.heap.size, _, _, rfl, hbase, heap_alloc_new w.drew _, hge, hcm, ?_, ?_⟩⟩, ⟨rfl, rfl, rfl, by simp, fun k hk _ => Below.heap_alloc w.drew _ k hk⟩⟩
    · simp only [Array.size_append, List.size_toArray, size_zeroCells, hzs, hlen]
      omega
    · simp only [Array.toList_append]
      rw [← hlen]
      exact List.take_left
  rcases hown.2 with ⟨rfl, rfl⟩ | ⟨g, cap, cur, rfl, hbg, hg, hnc, hcm, hcs, htake⟩
  · have hx : xs = [] := List.eq_nil_of_length_eq_zero (by simpa using hown.1)
    subst hx
    by_cases hm : m = 0
    · subst hm
      have hn : news = [] := List.eq_nil_of_length_eq_zero (by simpa using hs.newsLen)
      subst hn
      exact ⟨.slice none 0 0, w, run_append_nothing w t tx ty e i ht hi none 0 0 (Nat.le_refl _) x hs', World.ownsRow_nil w base e 1, ⟨rfl, rfl, rfl, Nat.le_refl _, fun _ _ _ => rfl⟩, Or.inl rfl⟩
    · have hr := run_append_grow_src (P := P) w t tx ty e i z ht hi hz none 0 0 [] (run_firstCells_none w.drew i.size 0 0 0) x m news hs' (by omega) (by omega) (growslice_fits (by omega) (by rw [hby]; omega))
      have hgr := grown 0 (by omega) (Value.ownBlock (.slice none 0 0))
      simp only [List.nil_append] at hgr hr ⊢
      exact ⟨_, _, hr, hgr.1, hgr.2, Or.inr rfl⟩
  · by_cases hroom : n + m ≤ cap
    · have hfit : n * 1 + news.length ≤ cur.size := by rw [hs.newsLen, hcs]; omega
      have hst := run_storeCells_at P g (n * i.size) e news 0 cur w hg (by rw [hsize]; simpa using hfit) hs.one
      have hr : (Builtin.append_ #[t, tx] ty #[.slice (some ⟨g, 0, none⟩) n cap, x]).run P w = .ok (.slice (some ⟨g, 0, none⟩) (n + m) cap) (w.setRow g (cur.toList.take n ++ news ++ cur.toList.drop (n + news.length)).toArray) := by
        simp only [Nat.add_zero] at hst
        rw [hsize] at hst
        rcases hs.kind with ⟨e', hk⟩ | hk <;> simp [Builtin.append_, run_underlying ht, run_underlying hk, sizeOf, typeInfo, hi, hsize, hs.len, hroom, hs.cells, Addr.add_lit] <;> simp at hst <;> simp [hst]
      refine ⟨_, _, hr, ⟨hlen, .inr ⟨g, cap, _, rfl, hbg, setRow_heap w g cur _ e _ hg, hroom, hcm, ?_, ?_⟩⟩, ⟨rfl, rfl, rfl, by simp, fun k _ hk => setRow_other w g k _ (fun e => hk (by simp [Value.ownBlock, e]))⟩, Or.inl rfl⟩
      · simp only [List.size_toArray, List.length_append, List.length_take, List.length_drop, Array.length_toList]
        omega
      · rw [Nat.mul_one] at htake
        rw [htake, ← hlen]
        exact List.take_left
    · have holds : (Builtin.firstCells i.size n (.slice (some ⟨g, 0, none⟩) n cap)).run P w.drew = .ok xs.toArray w.drew :=
        run_firstCells_some w.drew i.size n ⟨g, 0, none⟩ n cap xs (by rw [hsize]; exact hown.1) (by simpa using hown.cells (g := g) rfl)
      have hr := run_append_grow_src (P := P) w t tx ty e i z ht hi hz (some ⟨g, 0, none⟩) n cap xs holds x m news hs' (by omega) (by omega) (growslice_fits (by omega) (by rw [hby]; omega))
      have hgr := grown cap (by omega) (Value.ownBlock (.slice (some ⟨g, 0, none⟩) n cap))
      exact ⟨_, _, hr, hgr.1, hgr.2, Or.inr rfl⟩

end

/-! ### Byte slices: read (At), owned (Own) -/

/-- The slice (p, n, _) reads as the bytes l. -/
structure At (w : World) (p : Option Addr) (n : Nat) (l : List UInt8) : Prop where
  len : n = l.length
  cells : ∀ j (h : j < l.length), ∃ b o, p = some ⟨b, o, none⟩ ∧ w.cell? ⟨b, o + j, none⟩ = some (bv l[j])

/-- The slice (p, n, cap) is a whole row of the call's own, and reads as the bytes l. -/
structure Own (w : World) (p : Option Addr) (n cap : Nat) (l : List UInt8) : Prop where
  len : n = l.length
  row : w.ownsRow 0 5 1 (.slice p n cap) n (bvs l)

/-- The block in which a slice lies. -/
def blk (p : Option Addr) : Option Nat := p.map (·.block)

/-- The type facts of a dump, in one word. -/
structure BT (P : Program) : Prop where
  slice : P.underlying 25 = some (.slice 5)
  string : P.underlying 9 = some .string
  info : (P.info? 5).map (fun i => (i.zero, i.size, i.bytes)) = some (some (.int .u8 0), 1, 1)

/-- A row lies in the block g0, or in one made since there were B blocks. -/
def Lies (g0 : Option Nat) (B : Nat) (p : Option Addr) : Prop := ∀ ad, p = some ad → some ad.block = g0 ∨ B ≤ ad.block
/-- A slice lies elsewhere. -/
def Off (g0 : Option Nat) (B : Nat) (p : Option Addr) : Prop := ∀ ad, p = some ad → some ad.block ≠ g0 ∧ ad.block < B

theorem At.nil (w : World) : At w none 0 [] := ⟨rfl, fun j h => absurd h (by simp)⟩
theorem At.empty (w : World) (p : Option Addr) : At w p 0 [] := ⟨rfl, fun j h => absurd h (by simp)⟩
theorem At.none_len {w : World} {n : Nat} {l : List UInt8} (h : At w none n l) : l = [] := by
  cases l with
  | nil => rfl
  | cons c r => obtain ⟨b, o, hp, _⟩ := h.cells 0 (by simp); cases hp

theorem At.src {P : Program} (ht : BT P) {w : World} {p : Option Addr} {n : Nat} {l : List UInt8} (h : At w p n l) (c : Nat) : Src P 1 25 (.slice p n c) n (bvs l) w := by
  cases p with
  | none =>
    have := h.none_len
    subst this
    have hn : n = 0 := h.len
    subst hn
    exact Src.ofNil w ht.slice c
  | some a =>
    refine Src.ofSlice w ht.slice a n c (bvs l) (by rw [bvs_length, h.len, Nat.mul_one]) ?_ (bvs_one l)
    intro j u hu
    rw [bvs_get] at hu
    obtain ⟨x, hx, rfl⟩ := Option.map_eq_some_iff.1 hu
    obtain ⟨hj, rfl⟩ := List.getElem?_eq_some_iff.1 hx
    obtain ⟨b, o, hp, hc⟩ := h.cells j hj
    cases hp
    rw [Addr.add_lit]
    exact hc

theorem At.keep {w w' : World} {p : Option Addr} {n : Nat} {l : List UInt8} (h : At w p n l) (hk : ∀ ad, p = some ad → ad.block < w.heap.size → w'.heap[ad.block]? = w.heap[ad.block]?) : At w' p n l := by
  refine ⟨h.len, fun j hj => ?_⟩
  obtain ⟨b, o, hp, hc⟩ := h.cells j hj
  exact ⟨b, o, hp, (World.cell?_of_block (a := ⟨b, o + j, none⟩) (hk ⟨b, o, none⟩ hp (World.block_lt_of_cell? w ⟨b, o + j, none⟩ hc))).trans hc⟩

theorem At.grown {w w' : World} {p : Option Addr} {n : Nat} {l : List UInt8} {row : Option Nat} (h : At w p n l) (hg : w.grownBy w' row) (hne : ∀ ad, p = some ad → some ad.block ≠ row) : At w' p n l :=
  h.keep fun ad hp hl => hg.block _ hl (hne ad hp)

theorem At.below {B : Nat} {w w' : World} {p : Option Addr} {n : Nat} {l : List UInt8} (h : At w p n l) (hb : Below B w w') (hlt : ∀ ad, p = some ad → ad.block < B) : At w' p n l :=
  h.keep fun ad hp _ => hb.block _ (hlt ad hp)

theorem At.alloc {w : World} {p : Option Addr} {n : Nat} {l : List UInt8} (h : At w p n l) (o : Obj) : At (w.alloc o) p n l :=
  h.keep fun _ _ hl => Below.heap_alloc _ _ _ hl
theorem At.drew {w : World} {p : Option Addr} {n : Nat} {l : List UInt8} (h : At w p n l) : At w.drew p n l := h.keep fun _ _ _ => rfl
theorem At.setCell {w : World} {p : Option Addr} {n : Nat} {l : List UInt8} (h : At w p n l) (a : Addr) (u : Value) (hne : ∀ ad, p = some ad → ad.block ≠ a.block) : At (w.setCell a u) p n l :=
  h.keep fun ad hp _ => Below.heap_setCell _ _ _ _ (hne ad hp)

theorem Own.nil (w : World) : Own w none 0 0 [] := ⟨rfl, World.ownsRow_nil w 0 5 1⟩

theorem Own.at {w : World} {p : Option Addr} {n cap : Nat} {l : List UInt8} (h : Own w p n cap l) : At w p n l := by
  refine ⟨h.len, fun j hj => ?_⟩
  rcases h.row.2 with ⟨hv, hn⟩ | ⟨g, cap', cur, hv, _, _⟩
  · have := h.len; omega
  · simp only [Value.slice.injEq] at hv
    obtain ⟨rfl, _, rfl⟩ := hv
    refine ⟨g, 0, rfl, ?_⟩
    have := h.row.cells (g := g) rfl j _ (by rw [bvs_get, List.getElem?_eq_getElem hj]; rfl)
    rwa [Addr.add_lit] at this

theorem Own.shape {w : World} {p : Option Addr} {n cap : Nat} {l : List UInt8} (h : Own w p n cap l) : (p = none ∧ n = 0 ∧ cap = 0 ∧ l = []) ∨ ∃ g cur, p = some ⟨g, 0, none⟩ ∧ w.heap[g]? = some (.cells cur 5 (0, 0)) ∧ n ≤ cap ∧ cap ≤ maxLen ∧ cur.size = cap ∧ cur.toList.take n = bvs l := by
  rcases h.row.2 with ⟨hv, hn⟩ | ⟨g, cap', cur, hv, _, hg, h1, h2, h3, h4⟩
  · simp only [Value.slice.injEq] at hv
    have := h.len
    exact .inl ⟨hv.1, hn, hv.2.2, List.eq_nil_of_length_eq_zero (by omega)⟩
  · simp only [Value.slice.injEq] at hv
    obtain ⟨rfl, _, rfl⟩ := hv
    exact .inr ⟨g, cur, rfl, hg, h1, h2, by simpa using h3, by simpa using h4⟩

theorem Own.le {w : World} {p : Option Addr} {n cap : Nat} {l : List UInt8} (h : Own w p n cap l) : n ≤ cap := by
  rcases h.shape with ⟨_, rfl, rfl, _⟩ | ⟨_, _, _, _, h1, _⟩
  · exact Nat.le_refl _
  · exact h1

theorem Own.lt {w : World} {p : Option Addr} {n cap : Nat} {l : List UInt8} (h : Own w p n cap l) : ∀ ad, p = some ad → ad.block < w.heap.size := by
  intro ad hp
  rcases h.shape with ⟨h0, _⟩ | ⟨g, _, h0, hg, _⟩
  · rw [hp] at h0; cases h0
  · rw [hp] at h0; cases h0; exact (Array.getElem?_eq_some_iff.1 hg).1

theorem Own.keep {w w' : World} {p : Option Addr} {n cap : Nat} {l : List UInt8} (h : Own w p n cap l) (hk : ∀ ad, p = some ad → ad.block < w.heap.size → w'.heap[ad.block]? = w.heap[ad.block]?) : Own w' p n cap l := by
  refine ⟨h.len, h.row.1, ?_⟩
  rcases h.row.2 with hv | ⟨g, cap', cur, hv, hb, hg, r⟩
  · exact .inl hv
  · refine .inr ⟨g, cap', cur, hv, hb, ?_, r⟩
    simp only [Value.slice.injEq] at hv
    exact (hk _ hv.1 (Array.getElem?_eq_some_iff.1 hg).1).trans hg

theorem Own.alloc {w : World} {p : Option Addr} {n cap : Nat} {l : List UInt8} (h : Own w p n cap l) (o : Obj) : Own (w.alloc o) p n cap l := h.keep fun _ _ hl => Below.heap_alloc _ _ _ hl
theorem Own.drew {w : World} {p : Option Addr} {n cap : Nat} {l : List UInt8} (h : Own w p n cap l) : Own w.drew p n cap l := h.keep fun _ _ _ => rfl
theorem Own.setCell {w : World} {p : Option Addr} {n cap : Nat} {l : List UInt8} (h : Own w p n cap l) (a : Addr) (u : Value) (hne : ∀ ad, p = some ad → ad.block ≠ a.block) : Own (w.setCell a u) p n cap l :=
  h.keep fun ad hp _ => Below.heap_setCell _ _ _ _ (hne ad hp)
theorem Own.grown {w w' : World} {p : Option Addr} {n cap : Nat} {l : List UInt8} {row : Option Nat} (h : Own w p n cap l) (hg : w.grownBy w' row) (hne : ∀ ad, p = some ad → some ad.block ≠ row) : Own w' p n cap l :=
  h.keep fun ad hp hl => hg.block _ hl (hne ad hp)

/-- 'grownBy', chained: the second step writes to a row that is the first's, or new. -/
theorem grown_chain {w0 w1 w2 : World} {g0 r : Option Nat} (h : w0.grownBy w1 g0) (k : w1.grownBy w2 r) (hr : ∀ b, r = some b → some b = g0 ∨ w0.heap.size ≤ b) : w0.grownBy w2 g0 :=
  ⟨k.os.trans h.os, k.tape.trans h.tape, k.output.trans h.output, Nat.le_trans h.size k.size, fun b hb hne =>
    (k.block b (Nat.lt_of_lt_of_le hb h.size) (fun e => by rcases hr b e.symm with h1 | h1; exact hne h1; omega)).trans (h.block b hb hne)⟩
theorem grown_alloc {w0 w1 : World} {g0 : Option Nat} (h : w0.grownBy w1 g0) (o : Obj) : w0.grownBy (w1.alloc o) g0 :=
  grown_chain h (World.grownBy_alloc w1 o none) (fun b e => by cases e)
theorem grown_drew {w0 w1 : World} {g0 : Option Nat} (h : w0.grownBy w1 g0) : w0.grownBy w1.drew g0 := ⟨h.os, h.tape, h.output, h.size, h.block⟩
theorem grown_setCell {w0 w1 : World} {g0 : Option Nat} (h : w0.grownBy w1 g0) (a : Addr) (u : Value) (ha : w0.heap.size ≤ a.block) : w0.grownBy (w1.setCell a u) g0 :=
  grown_chain h (r := some a.block) ⟨rfl, rfl, rfl, by simp [World.setCell], fun k _ hk => Below.heap_setCell _ _ _ _ (fun e => hk (by rw [e]))⟩ (fun b e => by cases e; exact .inr ha)
theorem grown_below {w w' : World} (h : w.grownBy w' none) : Below w.heap.size w w' := ⟨h.os, h.tape, h.output, h.size, fun k hk => h.block k hk (by simp)⟩
theorem grown_of_below {w w' : World} (h : Below w.heap.size w w') (r : Option Nat) : w.grownBy w' r := ⟨h.os, h.tape, h.output, h.size, fun k hk _ => h.block k hk⟩

section
variable {P : Program}

/-- An append onto an owned row, from whatever source. -/
theorem run_append_b (ht : BT P) {w : World} {tx ty : TypeId} {p : Option Addr} {n cap : Nat} {l : List UInt8} (hown : Own w p n cap l) {x : Value} {m : Nat} {k : List UInt8} (hs : Src P 1 tx x m (bvs k) w) (hb : n + k.length ≤ 140737488355328) :
    ∃ p' n' cap' w', (Builtin.append_ #[25, tx] ty #[.slice p n cap, x]).run P w = .ok (.slice p' n' cap') w' ∧ Own w' p' n' cap' (l ++ k) ∧ w.grownBy w' (blk p) ∧ Lies (blk p) w.heap.size p' := by
  obtain ⟨i, hi, hz, hsz, hby⟩ := info_parts ht.info
  have hm : m = k.length := by have := hs.newsLen; rw [bvs_length] at this; omega
  subst hm
  obtain ⟨v', w', hr, ho, hg, hl⟩ := run_append_src (P := P) w 0 25 tx ty 5 i _ ht.slice hi hz hsz hby rfl (.slice p n cap) n (bvs l) hown.row x k.length (bvs k) hs hb (Nat.zero_le _)
  obtain ⟨p', cap', rfl⟩ : ∃ p' cap', v' = .slice p' (n + k.length) cap' := by
    rcases ho.2 with ⟨rfl, hn⟩ | ⟨g, cap', cur, rfl, _⟩
    · exact ⟨none, 0, by rw [hn]⟩
    · exact ⟨_, _, rfl⟩
  have hbk : Value.ownBlock (.slice p n cap) = blk p := by cases p <;> rfl
  rw [hbk] at hg hl
  refine ⟨p', n + k.length, cap', w', hr, ⟨by simp [hown.len], by rw [bvs_append]; exact ho⟩, hg, ?_⟩
  intro ad hp
  subst hp
  rcases hl with h | h
  · exact .inl h
  · exact .inr (by simp [Value.ownBlock] at h; omega)

theorem wpList_append_b {w : World} {ops : Array Oper} {rest : List Oper} {o : Oper} {a : Act} {Q : Exit → Act → World → Prop} (ht : BT P) (hgd : o.guard = none) (s x : Operand) (tx : TypeId)
    (ho : o.op = .call { callee := .builtin .append, args := #[s, x], argTypes := #[25, tx] })
    {p : Option Addr} {n cap : Nat} {l : List UInt8} (hs : a.eval s = .slice p n cap) (hown : Own w p n cap l) {xv : Value} (hx : a.eval x = xv) {m : Nat} (k : List UInt8) (hsrc : Src P 1 tx xv m (bvs k) w) (hb : n + k.length ≤ 140737488355328)
    (h : ∀ p' n' cap' w', Own w' p' n' cap' (l ++ k) → w.grownBy w' (blk p) → Lies (blk p) w.heap.size p' → wpList P ops Q rest (a.put o.dst (.slice p' n' cap')) w') : wpList P ops Q (o :: rest) a w := by
  refine wpList_plain hgd fun K hK => ?_
  subst hx
  obtain ⟨p', n', cap', w', hr, h1, h2, h3⟩ := run_append_b ht (ty := o.type) hown hsrc hb
  unfold Oper.wp
  simp only [execOp, ho, resolve, invoke, builtin, Sem.run_bind, Sem.run_pure, Result.andThen_ok, List.map_toArray, List.map_cons, List.map_nil, hs, hr]
  exact hK _ _ (h _ _ _ _ h1 h2 h3)

theorem wpListIn_append_b {F : Fence} {nf : Nat} {w : World} {ops : Array Oper} {rest : List Oper} {o : Oper} {a : Act} {Q : Exit → Act → World → Prop} (ht : BT P) (hgd : o.guard = none) (s x : Operand) (tx : TypeId)
    (ho : o.op = .call { callee := .builtin .append, args := #[s, x], argTypes := #[25, tx] })
    {p : Option Addr} {n cap : Nat} {l : List UInt8} (hs : a.eval s = .slice p n cap) (hown : Own w p n cap l) {xv : Value} (hx : a.eval x = xv) {m : Nat} (k : List UInt8) (hsrc : Src P 1 tx xv m (bvs k) w) (hb : n + k.length ≤ 140737488355328)
    (h : ∀ p' n' cap' w', Own w' p' n' cap' (l ++ k) → w.grownBy w' (blk p) → Lies (blk p) w.heap.size p' → wpListIn F nf P ops Q rest (a.put o.dst (.slice p' n' cap')) w') : wpListIn F nf P ops Q (o :: rest) a w := by
  refine wpListIn_plain hgd fun K hK => ?_
  subst hx
  obtain ⟨p', n', cap', w', hr, h1, h2, h3⟩ := run_append_b ht (ty := o.type) hown hsrc hb
  unfold Oper.wpIn
  refine ⟨?_, ?_⟩
  · simp [Oper.about, ho, resolve, Target.leads, Sem.run_pure]
  · rw [Oper.semAt_plain F _ _ (by rw [ho]; intro c hc'; cases hc')]
    simp only [execOp, ho, resolve, invoke, builtin, Sem.run_bind, Sem.run_pure, Result.andThen_ok, List.map_toArray, List.map_cons, List.map_nil, hs, hr]
    exact hK _ _ (h _ _ _ _ h1 h2 h3)

theorem bvs_rep (n : Nat) : bvs (List.replicate n 0) = List.replicate n (.int .u8 0) := by simp [bvs, bv]

/-- 'make([]byte, n, c)'. -/
theorem wpList_make_b {w : World} {ops : Array Oper} {rest : List Oper} {o : Oper} {a : Act} {Q : Exit → Act → World → Prop} (ht : BT P) (hg : o.guard = none) (l c : Operand) (hop : o.op = Op.makeSlice 25 l c)
    {kl kc : IntKind} {L C : Int} (hl : a.eval l = .int kl L) (hc : a.eval c = .int kc C) (n cap : Nat) (hL : L = n) (hC : C = cap) (hle : n ≤ cap) (hb : cap ≤ 281474976710656)
    (hK : ∀ w', Own w' (some ⟨w.heap.size, 0, none⟩) n cap (List.replicate n 0) → w.grownBy w' none → wpList P ops Q rest (a.put o.dst (.slice (some ⟨w.heap.size, 0, none⟩) n cap)) w') :
    wpList P ops Q (o :: rest) a w := by
  obtain ⟨i, hi, hz, hsz, hby⟩ := info_parts ht.info
  refine wpList_plain hg fun K hK' => ?_
  have hr := run_make (P := P) w 25 5 i _ ht.slice hi hz kl kc L C (by omega) (by omega) (by rw [hby]; omega) (by omega)
  rw [hsz, Nat.mul_one] at hr
  unfold Oper.wp
  simp [execOp, hop, hl, hc, hr, Result.andThen]
  obtain rfl : L.toNat = n := by omega
  obtain rfl : C.toNat = cap := by omega
  refine hK' _ _ (hK _ ⟨by simp, by simp [bvs_length], .inr ⟨_, _, _, rfl, Nat.zero_le _, heap_alloc_new w _, hle, by unfold maxLen; omega, by simp [size_madeCells], ?_⟩⟩ (World.grownBy_alloc w _ none))
  rw [show (Value.int IntKind.u8 0).cells = #[.int .u8 0] from rfl, toList_madeCells_one, bvs_rep, Nat.mul_one, List.take_replicate, Nat.min_eq_left hle]

/-- 'copy(dst, src)', dst an owned row at least as long as src. -/
theorem wpList_copy_b {w : World} {ops : Array Oper} {rest : List Oper} {o : Oper} {a : Act} {Q : Exit → Act → World → Prop} (ht : BT P) (hgd : o.guard = none) (d s : Operand)
    (ho : o.op = .call { callee := .builtin .copy, args := #[d, s], argTypes := #[25, 25] }) {p q : Option Addr} {n cap m c2 : Nat} {l k : List UInt8} (hd : a.eval d = .slice p n cap) (hs : a.eval s = .slice q m c2)
    (hown : Own w p n cap l) (hat : At w q m k) (hle : m ≤ n)
    (h : ∀ w', Own w' p n cap (k ++ l.drop m) → w.grownBy w' (blk p) → wpList P ops Q rest (a.put o.dst (goInt m)) w') : wpList P ops Q (o :: rest) a w := by
  obtain ⟨i, hi, hz, hsz, hby⟩ := info_parts ht.info
  have hinf : (P.info? 5).map (·.size) = some 1 := by rw [hi]; simp [hsz]
  have hkm := hat.len
  have hnl := hown.len
  by_cases h0 : m = 0
  · subst h0
    have hk0 : k = [] := List.eq_nil_of_length_eq_zero hkm.symm
    subst hk0
    exact wpList_copy_nothing hgd d s 25 25 ho 5 ht.slice hinf p q n cap 0 c2 hd hs (by simp) (h w (by simpa using hown) (World.grownBy.refl _ _))
  · rcases hown.shape with ⟨_, hn0, _⟩ | ⟨g, cur, rfl, hg, h1, h2, h3, h4⟩
    · omega
    obtain ⟨bq, oq, hq, _⟩ := hat.cells 0 (by omega)
    subst hq
    refine wpList_copy_own hgd d s 25 25 ho 5 ht.slice hinf g 0 n cap ⟨bq, oq, none⟩ m c2 hd hs cur 5 hg (bvs k) (by rw [bvs_length, ← hkm]; exact (Nat.min_eq_left hle).symm) ?_ (by rw [bvs_length]; omega) (bvs_one k) ?_
    · intro j u hu
      rw [bvs_get] at hu
      obtain ⟨x, hx, rfl⟩ := Option.map_eq_some_iff.1 hu
      obtain ⟨hj, rfl⟩ := List.getElem?_eq_some_iff.1 hx
      obtain ⟨b', o', hp, hc⟩ := hat.cells j hj
      cases hp
      rw [Addr.add_lit]
      exact hc
    · rw [bvs_length, ← hkm]
      refine h _ ⟨by simp; omega, by simp [bvs_length]; omega, .inr ⟨g, cap, _, rfl, Nat.zero_le _, setRow_heap w g cur _ 5 _ hg, h1, h2, ?_, ?_⟩⟩ ⟨rfl, rfl, rfl, by simp, fun b _ hb => setRow_other w g b _ (fun e => hb (by simp [blk, e]))⟩
      · simp only [List.size_toArray, List.length_append, List.length_take, List.length_drop, Array.length_toList, bvs_length]
        omega
      · simp only [List.take_zero, List.nil_append, Nat.zero_add, Nat.mul_one]
        rw [bvs_append, List.take_append, bvs_length, ← hkm, List.take_of_length_le (by rw [bvs_length]; omega), List.take_drop, show m + (n - m) = n by omega, h4]
        simp [bvs]

end
end Go.Proofs.Qxb6603370aDoor
