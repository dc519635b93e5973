import Derived.Test.Qxb6603002aDoorProg
import Derived.Test.Qxb6603002aDoorKit
import Derived.WalkKit
import Derived.Deep.QuietTactic
import Derived.BigQuiet
import Derived.Handy
import Derived.WalkSpells
import Derived.WalkLawsBesides
namespace Go.Proofs.Qxb6603002aDoor
open Go Go.RowKit

theorem bt : BT Tryd.prog := ⟨Tryd.underlying22, Tryd.underlying9, by kernel_rfl⟩

set_option maxHeartbeats 400000 in
theorem bytes_calls (p0 p1 : Option Addr) (n0 c0 n1 c1 : Nat) (r : Int) (w : World) (h0 : n0 ≤ 9223372036854775807) (h1 : n1 ≤ 9223372036854775807) :
    Calls Tryd.prog 6 #[.slice p0 n0 c0, .slice p1 n1 c1, .int .i64 r] w fun e w' => e = .returned (.bool (decide (n0 + n1 ≤ 1048576))) ∧ w' = w := by
  by_cases h : n0 + n1 ≤ 1048576
  · have hd : decide (n0 + n1 ≤ 1048576) = true := by simp [h]
    rw [hd]
    clear hd
    go_enter Tryd.func6, Tryd.ntmps6
    go_wp2
    go_ret
    exact ⟨rfl, rfl⟩
  · have hd : decide (n0 + n1 ≤ 1048576) = false := by simp; omega
    rw [hd]
    clear hd
    go_enter Tryd.func6, Tryd.ntmps6
    go_wp2
    all_goals
      go_ret
      first | exact ⟨rfl, rfl⟩ | omega

set_option maxHeartbeats 400000 in
theorem clone_nil (w : World) : Calls Tryd.prog 7 #[.slice none 0 0] w fun e w' => e = .returned (.slice none 0 0) ∧ w' = w := by
  have q := fun a l c w => Lib.run_eql_slice_nil (P := Tryd.prog) w 22 5 a l c 0 0 Tryd.underlying22
  go_enter Tryd.func7, Tryd.ntmps7
  go_wp2
  go_ret
  exact ⟨rfl, rfl⟩

set_option maxHeartbeats 400000 in
theorem clone_some (a : Addr) (n c : Nat) (l : List UInt8) (w : World) (hat : At w (some a) n l) (hn : n ≤ 1048576) :
    Calls Tryd.prog 7 #[.slice (some a) n c] w fun e w' => e = .returned (.slice (some ⟨w.heap.size, 0, none⟩) n n) ∧ Own w' (some ⟨w.heap.size, 0, none⟩) n n l ∧ w.grownBy w' none := by
  have q := fun a l c w => Lib.run_eql_slice_nil (P := Tryd.prog) w 22 5 a l c 0 0 Tryd.underlying22
  go_enter Tryd.func7, Tryd.ntmps7
  go_wp2_with (first
    | (at_make; refine wpList_make_b bt rfl _ _ rfl rfl rfl n n (by omega) (by omega) (Nat.le_refl _) (by omega) ?_; intro w1 hown1 hg1)
    | (refine wpList_copy_b bt rfl _ _ rfl rfl rfl hown1 (hat.grown hg1 (fun _ _ h => by cases h)) (Nat.le_refl _) ?_; intro w2 hown2 hg2))
  go_ret
  have e : l ++ (List.replicate n (0 : UInt8)).drop n = l := by simp
  rw [e] at hown2
  exact ⟨rfl, hown2, grown_chain hg1 hg2 (fun b e => by cases e; exact .inr (Nat.le_refl _))⟩

theorem clone_calls (p : Option Addr) (n c : Nat) (l : List UInt8) (w : World) (hat : At w p n l) (hnil : p = none → n = 0 ∧ c = 0) (hn : n ≤ 1048576) :
    Calls Tryd.prog 7 #[.slice p n c] w fun e w' => ∃ p' c', e = .returned (.slice p' n c') ∧ Own w' p' n c' l ∧ w.grownBy w' none ∧ Lies none w.heap.size p' := by
  cases p with
  | none =>
    obtain ⟨rfl, rfl⟩ := hnil rfl
    have := hat.none_len
    subst this
    refine (clone_nil w).mono ?_
    rintro e w' ⟨rfl, rfl⟩
    exact ⟨_, _, rfl, Own.nil _, World.grownBy.refl _ _, fun _ h => by cases h⟩
  | some a =>
    refine (clone_some a n c l w hat hn).mono ?_
    rintro e w' ⟨rfl, ho, hg⟩
    exact ⟨_, _, rfl, ho, hg, fun ad h => by cases h; exact .inr (Nat.le_refl _)⟩

theorem get_cell {w : World} {p : Option Addr} {n : Nat} {l : List UInt8} (h : At w p n l) (k : Nat) (hk : k < n) : ∃ b o, p = some ⟨b, o, none⟩ ∧ w.cell? ⟨b, o + k, none⟩ = some (.int .u8 ((l[k]?.getD 0).toNat : Int)) := by
  have hl := h.len
  obtain ⟨b, o, hp, hc⟩ := h.cells k (by omega)
  refine ⟨b, o, hp, ?_⟩
  rw [hc, List.getElem?_eq_getElem (by omega)]
  rfl

theorem eq_step {la lb : List UInt8} {k : Nat} (h : la.take k = lb.take k) (hl : la.length = lb.length) (hk : k < la.length) (he : la[k]?.getD 0 = lb[k]?.getD 0) : la.take (k + 1) = lb.take (k + 1) := by
  rw [List.take_add_one, List.take_add_one, h]
  rw [List.getElem?_eq_getElem hk, List.getElem?_eq_getElem (by omega)] at he ⊢
  simp at he
  simp [he]

set_option maxHeartbeats 400000 in
theorem eq_calls (p q : Option Addr) (n c m d : Nat) (la lb : List UInt8) (w : World) (ha : At w p n la) (hb : At w q m lb) (hn : n ≤ 140737488355328) (_hm : m ≤ 140737488355328) :
    Calls Tryd.prog 9 #[.slice p n c, .slice q m d] w fun e w' => e = .returned (.bool (la == lb)) ∧ ∃ k, w' = w.drewN k := by
  have hla := ha.len
  have hlb := hb.len
  by_cases hnm : n = m
  · have hB : Hid (n = m) := hnm
    have HA : Hid (n = la.length) := hla
    have HB : Hid (m = lb.length) := hlb
    have hne : ((n : Int) != (m : Int)) = false := by simp [hnm]
    clear hla hlb hnm
    go_enter Tryd.func9, Tryd.ntmps9
    go_wp2
    go_loopw [5] (fun i wr => ∃ k : Nat, k ≤ n ∧ i = .int .i64 k ∧ la.take k = lb.take k ∧ ∃ j, wr = w.drewN j) (fun i _ => n - (intOf i).toNat)
    case atStart => exact ⟨0, Nat.zero_le _, rfl, rfl, 0, rfl⟩
    case round =>
      obtain ⟨k, hk, rfl, htk, j, rfl⟩ := hrel
      have HT : Hid (la.take k = lb.take k) := htk
      clear htk
      by_cases hlt : k < n
      · obtain ⟨b1, o1, rfl, hc1⟩ := get_cell ha k hlt
        obtain ⟨b2, o2, rfl, hc2⟩ := get_cell hb k (by have := hB.out; omega)
        have i1 : (k : Int) < (n : Int) := by omega
        have i2 : (k : Int) < (m : Int) := by have := hB.out; omega
        have i0 : (0 : Int) ≤ (k : Int) := by omega
        by_cases he : la[k]?.getD 0 = lb[k]?.getD 0
        · have hbe : (((la[k]?.getD 0).toNat : Int) != ((lb[k]?.getD 0).toNat : Int)) = false := by simp [he]
          have HE : Hid (la[k]?.getD 0 = lb[k]?.getD 0) := he
          clear he ha hb
          go_wp2
          go_quiet (fail)
          go_wp2
          go_roundw
          case rel => exact ⟨k + 1, by omega, by go_num, eq_step HT.out (by have := HA.out; have := HB.out; have := hB.out; omega) (by have := HA.out; omega) HE.out, ⟨_, rfl⟩⟩
          case measure => simp [intOf]; omega
        · have hbe : (((la[k]?.getD 0).toNat : Int) != ((lb[k]?.getD 0).toNat : Int)) = true := by
            rw [bne_iff_ne]; intro e; exact he (UInt8.toNat_inj.1 (by omega))
          have hf : Hid ((la == lb) = false) := by
            show _ = _
            rw [beq_eq_false_iff_ne]; intro e; exact he (by rw [e])
          clear he ha hb
          go_wp2
          go_quiet (fail)
          go_wp2
          go_ret
          exact ⟨by rw [hf.out]; rfl, ⟨j + nq, by rw [World.drewN_drewN]⟩⟩
      · have ht : Hid ((la == lb) = true) := by
          show _ = _
          rw [beq_iff_eq]
          have := HT.out
          have := HA.out
          have := HB.out
          have := hB.out
          rwa [List.take_of_length_le (by omega), List.take_of_length_le (by omega)] at HT
        have hge : ¬ (k : Int) < (n : Int) := by omega
        go_wp2
        go_ret
        exact ⟨by rw [ht.out]; rfl, ⟨_, rfl⟩⟩
  · have hne : ((n : Int) != (m : Int)) = true := by simp; omega
    have hf : (la == lb) = false := by
      rw [beq_eq_false_iff_ne]; intro e; rw [e] at hla; omega
    rw [hf]
    clear hf hla hlb hnm
    go_enter Tryd.func9, Tryd.ntmps9
    go_wp2
    go_ret
    exact ⟨rfl, 0, rfl⟩

theorem srcS {P : Program} (ht : BT P) (w : World) (l : List UInt8) : Src P 1 9 (.string ⟨l.toArray⟩) l.length (bvs l) w := by
  have h := Src.ofString w ht.string (⟨l.toArray⟩ : ByteArray)
  have e1 : (⟨l.toArray⟩ : ByteArray).size = l.length := by simp [ByteArray.size]
  rw [e1] at h
  exact h

theorem at_one (w : World) (c : UInt8) : At (w.alloc (.cells #[.int .u8 (c.toNat : Int)] 5)) (some ⟨w.heap.size, 0, none⟩) 1 [c] := by
  refine ⟨rfl, fun j hj => ⟨_, _, rfl, ?_⟩⟩
  have : j = 0 := by simpa using hj
  subst this
  simp [bv]

theorem lies_trans {g0 : Option Nat} {B : Nat} {p p' : Option Addr} {w : World} (h : Lies g0 B p) (hB : B ≤ w.heap.size) (h' : Lies (blk p) w.heap.size p') : Lies g0 B p' := by
  intro ad e
  rcases h' ad e with h1 | h1
  · cases p with
    | none => simp [blk] at h1
    | some a =>
      have := h a rfl
      simp [blk] at h1
      rw [h1]; exact this
  · exact .inr (by omega)

theorem grown_lies {w0 w1 w2 : World} {g0 : Option Nat} {p : Option Addr} (h : w0.grownBy w1 g0) (k : w1.grownBy w2 (blk p)) (hl : Lies g0 w0.heap.size p) : w0.grownBy w2 g0 :=
  grown_chain h k (fun b e => by
    cases p with
    | none => simp [blk] at e
    | some a => simp [blk] at e; subst e; exact hl a rfl)

/-- A source that lies elsewhere, read again. -/
theorem at_off {w0 w1 : World} {g0 : Option Nat} {p : Option Addr} {n : Nat} {l : List UInt8} (h : At w0 p n l) (hg : w0.grownBy w1 g0) (ho : Off g0 w0.heap.size p) : At w1 p n l :=
  h.grown hg (fun ad e => (ho ad e).1)

/-- What the walk carries: an owned row that holds l, made since w0. -/
structure Acc (w0 : World) (g0 : Option Nat) (w : World) (p : Option Addr) (n cap : Nat) (l : List UInt8) : Prop where
  own : Own w p n cap l
  grown : w0.grownBy w g0
  lies : Lies g0 w0.heap.size p

theorem Acc.step {w0 w w' : World} {g0 : Option Nat} {p p' : Option Addr} {n cap n' cap' : Nat} {l l' : List UInt8} (h : Acc w0 g0 w p n cap l) (ho : Own w' p' n' cap' l') (hg : w.grownBy w' (blk p)) (hl : Lies (blk p) w.heap.size p') : Acc w0 g0 w' p' n' cap' l' :=
  ⟨ho, grown_lies h.grown hg h.lies, lies_trans h.lies h.grown.size hl⟩
theorem Acc.alloc {w0 w : World} {g0 : Option Nat} {p : Option Addr} {n cap : Nat} {l : List UInt8} (h : Acc w0 g0 w p n cap l) (o : Obj) : Acc w0 g0 (w.alloc o) p n cap l :=
  ⟨h.own.alloc o, grown_alloc h.grown o, h.lies⟩
theorem Acc.at {w0 w : World} {g0 : Option Nat} {p : Option Addr} {n cap : Nat} {l : List UInt8} (h : Acc w0 g0 w p n cap l) {q : Option Addr} {m : Nat} {k : List UInt8} (hq : At w0 q m k) (ho : Off g0 w0.heap.size q) : At w q m k := at_off hq h.grown ho


section
variable {P : Program}
theorem wpList_acc {w0 w : World} {g0 : Option Nat} {ops : Array Oper} {rest : List Oper} {o : Oper} {a : Act} {Q : Exit → Act → World → Prop} (ht : BT P) (hgd : o.guard = none) (s x : Operand) {tx : TypeId}
    {p : Option Addr} {n cap : Nat} {l : List UInt8} (hacc : Acc w0 g0 w p n cap l) {xv : Value} {m : Nat} {k : List UInt8} (hsrc : Src P 1 tx xv m (bvs k) w)
    (ho : o.op = .call { callee := .builtin .append, args := #[s, x], argTypes := #[22, tx] })
    (hs : a.eval s = .slice p n cap) (hx : a.eval x = xv) (hb : n + m ≤ 140737488355328)
    (h : ∀ p' n' cap' w', Acc w0 g0 w' p' n' cap' (l ++ k) → n' ≤ n + m → n ≤ n' → wpList P ops Q rest (a.put o.dst (.slice p' n' cap')) w') : wpList P ops Q (o :: rest) a w := by
  have hm : m = k.length := by have := hsrc.newsLen; rw [bvs_length] at this; omega
  refine wpList_append_b ht hgd s x tx ho hs hacc.own hx k hsrc (by omega) ?_
  intro p' n' cap' w' h1 h2 h3
  have e1 := h1.len
  have e2 := hacc.own.len
  exact h _ _ _ _ (hacc.step h1 h2 h3) (by simp at e1; omega) (by simp at e1; omega)

theorem wpListIn_acc {F : Fence} {nf : Nat} {w0 w : World} {g0 : Option Nat} {ops : Array Oper} {rest : List Oper} {o : Oper} {a : Act} {Q : Exit → Act → World → Prop} (ht : BT P) (hgd : o.guard = none) (s x : Operand) {tx : TypeId}
    {p : Option Addr} {n cap : Nat} {l : List UInt8} (hacc : Acc w0 g0 w p n cap l) {xv : Value} {m : Nat} {k : List UInt8} (hsrc : Src P 1 tx xv m (bvs k) w)
    (ho : o.op = .call { callee := .builtin .append, args := #[s, x], argTypes := #[22, tx] })
    (hs : a.eval s = .slice p n cap) (hx : a.eval x = xv) (hb : n + m ≤ 140737488355328)
    (h : ∀ p' n' cap' w', Acc w0 g0 w' p' n' cap' (l ++ k) → n' ≤ n + m → n ≤ n' → wpListIn F nf P ops Q rest (a.put o.dst (.slice p' n' cap')) w') : wpListIn F nf P ops Q (o :: rest) a w := by
  have hm : m = k.length := by have := hsrc.newsLen; rw [bvs_length] at this; omega
  refine wpListIn_append_b ht hgd s x tx ho hs hacc.own hx k hsrc (by omega) ?_
  intro p' n' cap' w' h1 h2 h3
  have e1 := h1.len
  have e2 := hacc.own.len
  exact h _ _ _ _ (hacc.step h1 h2 h3) (by simp at e1; omega) (by simp at e1; omega)
end

theorem off_none_alloc {w : World} {p : Option Addr} (h : Off none w.heap.size p) : ∀ ad, p = some ad → some ad.block ≠ (none : Option Nat) := fun ad e => (h ad e).1
theorem acc_made {w w1 : World} {n cap : Nat} {l : List UInt8} (ho : Own w1 (some ⟨w.heap.size, 0, none⟩) n cap l) (hg : w.grownBy w1 none) : Acc w none w1 (some ⟨w.heap.size, 0, none⟩) n cap l :=
  ⟨ho, hg, fun ad e => by cases e; exact .inr (Nat.le_refl _)⟩

theorem Acc.cast {w0 w : World} {g0 : Option Nat} {p : Option Addr} {n cap : Nat} {l l' : List UInt8} (h : Acc w0 g0 w p n cap l) (e : l = l') : Acc w0 g0 w p n cap l' := e ▸ h

end Go.Proofs.Qxb6603002aDoor
