/- What is carried: an owned row of bytes; a string out of it. -/
import Derived.Test.Qxb6603370aDoorProg
import Derived.Test.Qxb6603370aDoorKit
import Derived.Test.Qxb6603370aDoorPlain
import Derived.Test.Qxb6603370aDoorShelf
import Derived.WalkKit
import Derived.Deep.QuietTactic
import Derived.BigQuiet
import Derived.Handy
import Derived.WalkSpells
import Derived.WalkLawsBesides
import Derived.Laws.IdiomStrings
namespace Go.Proofs.Qxb6603370aDoor
open Go Go.RowKit

theorem bt : BT Tryd.prog := ⟨Tryd.underlying25, Tryd.underlying9, by kernel_rfl⟩

theorem srcS {P : Program} (ht : BT P) (w : World) (l : List UInt8) : Src P 1 9 (.string ⟨l.toArray⟩) l.length (bvs l) w := by
  have h := Src.ofString w ht.string (⟨l.toArray⟩ : ByteArray)
  have e1 : (⟨l.toArray⟩ : ByteArray).size = l.length := by simp [ByteArray.size]
  rw [e1] at h
  exact h

theorem at_one (w : World) (c : UInt8) : At (w.alloc (.cells #[.int .u8 (c.toNat : Int)] 5)) (some ⟨w.heap.size, 0, none⟩) 1 [c] := by
  refine ⟨rfl, fun j hj => ⟨_, _, rfl, ?_⟩⟩
  have : j = 0 := by simpa using hj
  subst this
  simp [bv]

theorem lies_trans {g0 : Option Nat} {B : Nat} {p p' : Option Addr} {w : World} (h : Lies g0 B p) (hB : B ≤ w.heap.size) (h' : Lies (blk p) w.heap.size p') : Lies g0 B p' := by
  intro ad e
  rcases h' ad e with h1 | h1
  · cases p with
    | none => simp [blk] at h1
    | some a =>
      have := h a rfl
      simp [blk] at h1
      rw [h1]; exact this
  · exact .inr (by omega)

theorem grown_lies {w0 w1 w2 : World} {g0 : Option Nat} {p : Option Addr} (h : w0.grownBy w1 g0) (k : w1.grownBy w2 (blk p)) (hl : Lies g0 w0.heap.size p) : w0.grownBy w2 g0 :=
  grown_chain h k (fun b e => by
    cases p with
    | none => simp [blk] at e
    | some a => simp [blk] at e; subst e; exact hl a rfl)

/-- A source that lies elsewhere, read again. -/
theorem at_off {w0 w1 : World} {g0 : Option Nat} {p : Option Addr} {n : Nat} {l : List UInt8} (h : At w0 p n l) (hg : w0.grownBy w1 g0) (ho : Off g0 w0.heap.size p) : At w1 p n l :=
  h.grown hg (fun ad e => (ho ad e).1)

/-- What the walk carries: an owned row that holds l, made since w0. -/
structure Acc (w0 : World) (g0 : Option Nat) (w : World) (p : Option Addr) (n cap : Nat) (l : List UInt8) : Prop where
  own : Own w p n cap l
  grown : w0.grownBy w g0
  lies : Lies g0 w0.heap.size p

theorem Acc.step {w0 w w' : World} {g0 : Option Nat} {p p' : Option Addr} {n cap n' cap' : Nat} {l l' : List UInt8} (h : Acc w0 g0 w p n cap l) (ho : Own w' p' n' cap' l') (hg : w.grownBy w' (blk p)) (hl : Lies (blk p) w.heap.size p') : Acc w0 g0 w' p' n' cap' l' :=
  ⟨ho, grown_lies h.grown hg h.lies, lies_trans h.lies h.grown.size hl⟩
theorem Acc.alloc {w0 w : World} {g0 : Option Nat} {p : Option Addr} {n cap : Nat} {l : List UInt8} (h : Acc w0 g0 w p n cap l) (o : Obj) : Acc w0 g0 (w.alloc o) p n cap l :=
  ⟨h.own.alloc o, grown_alloc h.grown o, h.lies⟩
theorem Acc.at {w0 w : World} {g0 : Option Nat} {p : Option Addr} {n cap : Nat} {l : List UInt8} (h : Acc w0 g0 w p n cap l) {q : Option Addr} {m : Nat} {k : List UInt8} (hq : At w0 q m k) (ho : Off g0 w0.heap.size q) : At w q m k := at_off hq h.grown ho


section
variable {P : Program}
theorem wpList_acc {w0 w : World} {g0 : Option Nat} {ops : Array Oper} {rest : List Oper} {o : Oper} {a : Act} {Q : Exit → Act → World → Prop} (ht : BT P) (hgd : o.guard = none) (s x : Operand) {tx : TypeId}
    {p : Option Addr} {n cap : Nat} {l : List UInt8} (hacc : Acc w0 g0 w p n cap l) {xv : Value} {m : Nat} {k : List UInt8} (hsrc : Src P 1 tx xv m (bvs k) w)
    (ho : o.op = .call { callee := .builtin .append, args := #[s, x], argTypes := #[25, tx] })
    (hs : a.eval s = .slice p n cap) (hx : a.eval x = xv) (hb : n + m ≤ 140737488355328)
    (h : ∀ p' n' cap' w', Acc w0 g0 w' p' n' cap' (l ++ k) → n' ≤ n + m → n ≤ n' → wpList P ops Q rest (a.put o.dst (.slice p' n' cap')) w') : wpList P ops Q (o :: rest) a w := by
  have hm : m = k.length := by have := hsrc.newsLen; rw [bvs_length] at this; omega
  refine wpList_append_b ht hgd s x tx ho hs hacc.own hx k hsrc (by omega) ?_
  intro p' n' cap' w' h1 h2 h3
  have e1 := h1.len
  have e2 := hacc.own.len
  exact h _ _ _ _ (hacc.step h1 h2 h3) (by simp at e1; omega) (by simp at e1; omega)

theorem wpListIn_acc {F : Fence} {nf : Nat} {w0 w : World} {g0 : Option Nat} {ops : Array Oper} {rest : List Oper} {o : Oper} {a : Act} {Q : Exit → Act → World → Prop} (ht : BT P) (hgd : o.guard = none) (s x : Operand) {tx : TypeId}
    {p : Option Addr} {n cap : Nat} {l : List UInt8} (hacc : Acc w0 g0 w p n cap l) {xv : Value} {m : Nat} {k : List UInt8} (hsrc : Src P 1 tx xv m (bvs k) w)
    (ho : o.op = .call { callee := .builtin .append, args := #[s, x], argTypes := #[25, tx] })
    (hs : a.eval s = .slice p n cap) (hx : a.eval x = xv) (hb : n + m ≤ 140737488355328)
    (h : ∀ p' n' cap' w', Acc w0 g0 w' p' n' cap' (l ++ k) → n' ≤ n + m → n ≤ n' → wpListIn F nf P ops Q rest (a.put o.dst (.slice p' n' cap')) w') : wpListIn F nf P ops Q (o :: rest) a w := by
  have hm : m = k.length := by have := hsrc.newsLen; rw [bvs_length] at this; omega
  refine wpListIn_append_b ht hgd s x tx ho hs hacc.own hx k hsrc (by omega) ?_
  intro p' n' cap' w' h1 h2 h3
  have e1 := h1.len
  have e2 := hacc.own.len
  exact h _ _ _ _ (hacc.step h1 h2 h3) (by simp at e1; omega) (by simp at e1; omega)
end

theorem off_none_alloc {w : World} {p : Option Addr} (h : Off none w.heap.size p) : ∀ ad, p = some ad → some ad.block ≠ (none : Option Nat) := fun ad e => (h ad e).1
theorem acc_made {w w1 : World} {n cap : Nat} {l : List UInt8} (ho : Own w1 (some ⟨w.heap.size, 0, none⟩) n cap l) (hg : w.grownBy w1 none) : Acc w none w1 (some ⟨w.heap.size, 0, none⟩) n cap l :=
  ⟨ho, hg, fun ad e => by cases e; exact .inr (Nat.le_refl _)⟩

theorem Acc.cast {w0 w : World} {g0 : Option Nat} {p : Option Addr} {n cap : Nat} {l l' : List UInt8} (h : Acc w0 g0 w p n cap l) (e : l = l') : Acc w0 g0 w p n cap l' := e ▸ h


theorem At.str {w : World} {p : Option Addr} {n : Nat} {l : List UInt8} (h : At w p n l) (c : Nat) : (convert 25 9 (.slice p n c)).run Tryd.prog w = .ok (.string ⟨l.toArray⟩) w := by
  have hl := h.len
  subst hl
  cases p with
  | none =>
    have := h.none_len
    subst this
    exact run_convert_bytes_nil w 25 5 Tryd.underlying25 Tryd.underlying5 0 c 9 Tryd.underlying9
  | some a =>
    refine run_convert_bytes_back w 25 9 5 a c l Tryd.underlying25 Tryd.underlying5 Tryd.underlying9 ?_
    intro j hj
    obtain ⟨b, o, e, hc⟩ := h.cells j hj
    cases e
    rw [Addr.add_lit, hc]
    rfl
theorem at_three (w : World) (c d e : UInt8) : At (w.alloc (.cells #[.int .u8 (c.toNat : Int), .int .u8 (d.toNat : Int), .int .u8 (e.toNat : Int)] 5)) (some ⟨w.heap.size, 0, none⟩) 3 [c, d, e] := by
  refine ⟨rfl, fun j hj => ⟨_, _, rfl, ?_⟩⟩
  simp at hj
  obtain rfl | rfl | rfl : j = 0 ∨ j = 1 ∨ j = 2 := by omega
  all_goals simp [bv]
theorem getb (s : ByteArray) (k : Nat) (h : k < s.size) : s.data.toList[k]? = some s[k] := by
  simp [ByteArray.getElem_eq_getElem_data]
theorem slen (s : ByteArray) : s.data.toList.length = s.size := (Lib.size_eq s).symm
theorem getd (s : ByteArray) (i k : Nat) (h : i + k < s.size) : (s.data.toList.drop i).getD k 0 = s[i + k] := by
  rw [List.getD_eq_getElem?_getD, List.getElem?_drop, getb s (i + k) h]
  rfl

theorem bytes_calls (s : ByteArray) (w : World) (hs : s.size ≤ 9223372036854775807) :
    Calls Tryd.prog 6 #[.string s] w fun e w' => e = .returned (.bool (decide (s.size ≤ 1048576))) ∧ w' = w := by
  by_cases h1 : s.size ≤ 1048576
  · go_enter Tryd.func6, Tryd.ntmps6
    go_wp2
    go_ret
    exact ⟨by simp [h1], rfl⟩
  · go_enter Tryd.func6, Tryd.ntmps6
    go_wp2
    go_ret
    exact ⟨by simp; omega, rfl⟩
/-- The closure. -/
theorem up_calls (x : Nat) (hx : x ≤ 1114111) (w : World) : Calls Tryd.prog 15 #[.int .i32 (x : Int)] w fun e w' => e = .returned (.int .i32 (upR x)) ∧ w' = w := by
  by_cases h1 : 97 ≤ x
  · by_cases h2 : x ≤ 122
    · have e : upR x = (x : Int) - 97 + 65 := by unfold upR; rw [if_pos (by omega)]; omega
      rw [e]
      clear e
      go_enter Tryd.func15, Tryd.ntmps15
      go_wp2
      go_ret
      exact ⟨rfl, rfl⟩
    · have e : upR x = (x : Int) := by unfold upR; rw [if_neg (by omega)]
      rw [e]
      clear e
      go_enter Tryd.func15, Tryd.ntmps15
      go_wp2
      go_ret
      exact ⟨rfl, rfl⟩
  · have e : upR x = (x : Int) := by unfold upR; rw [if_neg (by omega)]
    rw [e]
    clear e
    go_enter Tryd.func15, Tryd.ntmps15
    go_wp2
    go_ret
    exact ⟨rfl, rfl⟩
end Go.Proofs.Qxb6603370aDoor
