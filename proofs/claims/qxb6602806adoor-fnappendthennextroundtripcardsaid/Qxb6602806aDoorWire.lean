import Derived.Test.Qxb6602806aDoorLeaf
import Derived.Test.Qxb6602806aDoorPlain
namespace Go.Proofs.Qxb6602806aDoor
open Go Go.RowKit

theorem srcS {P : Program} (ht : BT P) (w : World) (l : List UInt8) : Src P 1 9 (.string ⟨l.toArray⟩) l.length (bvs l) w := by
  have h := Src.ofString w ht.string (⟨l.toArray⟩ : ByteArray)
  have e1 : (⟨l.toArray⟩ : ByteArray).size = l.length := by simp [ByteArray.size]
  rw [e1] at h
  exact h

theorem at_one (w : World) (c : UInt8) : At (w.alloc (.cells #[.int .u8 (c.toNat : Int)] 5)) (some ⟨w.heap.size, 0, none⟩) 1 [c] := by
  refine ⟨rfl, fun j hj => ⟨_, _, rfl, ?_⟩⟩
  have : j = 0 := by simpa using hj
  subst this
  simp [bv]

theorem lies_trans {g0 : Option Nat} {B : Nat} {p p' : Option Addr} {w : World} (h : Lies g0 B p) (hB : B ≤ w.heap.size) (h' : Lies (blk p) w.heap.size p') : Lies g0 B p' := by
  intro ad e
  rcases h' ad e with h1 | h1
  · cases p with
    | none => simp [blk] at h1
    | some a =>
      have := h a rfl
      simp [blk] at h1
      rw [h1]; exact this
  · exact .inr (by omega)

theorem grown_lies {w0 w1 w2 : World} {g0 : Option Nat} {p : Option Addr} (h : w0.grownBy w1 g0) (k : w1.grownBy w2 (blk p)) (hl : Lies g0 w0.heap.size p) : w0.grownBy w2 g0 :=
  grown_chain h k (fun b e => by
    cases p with
    | none => simp [blk] at e
    | some a => simp [blk] at e; subst e; exact hl a rfl)

/-- A source that lies elsewhere, read again. -/
theorem at_off {w0 w1 : World} {g0 : Option Nat} {p : Option Addr} {n : Nat} {l : List UInt8} (h : At w0 p n l) (hg : w0.grownBy w1 g0) (ho : Off g0 w0.heap.size p) : At w1 p n l :=
  h.grown hg (fun ad e => (ho ad e).1)

/-- What the walk carries: an owned row that holds l, made since w0. -/
structure Acc (w0 : World) (g0 : Option Nat) (w : World) (p : Option Addr) (n cap : Nat) (l : List UInt8) : Prop where
  own : Own w p n cap l
  grown : w0.grownBy w g0
  lies : Lies g0 w0.heap.size p

theorem Acc.step {w0 w w' : World} {g0 : Option Nat} {p p' : Option Addr} {n cap n' cap' : Nat} {l l' : List UInt8} (h : Acc w0 g0 w p n cap l) (ho : Own w' p' n' cap' l') (hg : w.grownBy w' (blk p)) (hl : Lies (blk p) w.heap.size p') : Acc w0 g0 w' p' n' cap' l' :=
  ⟨ho, grown_lies h.grown hg h.lies, lies_trans h.lies h.grown.size hl⟩
theorem Acc.alloc {w0 w : World} {g0 : Option Nat} {p : Option Addr} {n cap : Nat} {l : List UInt8} (h : Acc w0 g0 w p n cap l) (o : Obj) : Acc w0 g0 (w.alloc o) p n cap l :=
  ⟨h.own.alloc o, grown_alloc h.grown o, h.lies⟩
theorem Acc.at {w0 w : World} {g0 : Option Nat} {p : Option Addr} {n cap : Nat} {l : List UInt8} (h : Acc w0 g0 w p n cap l) {q : Option Addr} {m : Nat} {k : List UInt8} (hq : At w0 q m k) (ho : Off g0 w0.heap.size q) : At w q m k := at_off hq h.grown ho


section
variable {P : Program}
theorem wpList_acc {w0 w : World} {g0 : Option Nat} {ops : Array Oper} {rest : List Oper} {o : Oper} {a : Act} {Q : Exit → Act → World → Prop} (ht : BT P) (hgd : o.guard = none) (s x : Operand) {tx : TypeId}
    {p : Option Addr} {n cap : Nat} {l : List UInt8} (hacc : Acc w0 g0 w p n cap l) {xv : Value} {m : Nat} {k : List UInt8} (hsrc : Src P 1 tx xv m (bvs k) w)
    (ho : o.op = .call { callee := .builtin .append, args := #[s, x], argTypes := #[22, tx] })
    (hs : a.eval s = .slice p n cap) (hx : a.eval x = xv) (hb : n + m ≤ 140737488355328)
    (h : ∀ p' n' cap' w', Acc w0 g0 w' p' n' cap' (l ++ k) → n' ≤ n + m → n ≤ n' → wpList P ops Q rest (a.put o.dst (.slice p' n' cap')) w') : wpList P ops Q (o :: rest) a w := by
  have hm : m = k.length := by have := hsrc.newsLen; rw [bvs_length] at this; omega
  refine wpList_append_b ht hgd s x tx ho hs hacc.own hx k hsrc (by omega) ?_
  intro p' n' cap' w' h1 h2 h3
  have e1 := h1.len
  have e2 := hacc.own.len
  exact h _ _ _ _ (hacc.step h1 h2 h3) (by simp at e1; omega) (by simp at e1; omega)

theorem wpListIn_acc {F : Fence} {nf : Nat} {w0 w : World} {g0 : Option Nat} {ops : Array Oper} {rest : List Oper} {o : Oper} {a : Act} {Q : Exit → Act → World → Prop} (ht : BT P) (hgd : o.guard = none) (s x : Operand) {tx : TypeId}
    {p : Option Addr} {n cap : Nat} {l : List UInt8} (hacc : Acc w0 g0 w p n cap l) {xv : Value} {m : Nat} {k : List UInt8} (hsrc : Src P 1 tx xv m (bvs k) w)
    (ho : o.op = .call { callee := .builtin .append, args := #[s, x], argTypes := #[22, tx] })
    (hs : a.eval s = .slice p n cap) (hx : a.eval x = xv) (hb : n + m ≤ 140737488355328)
    (h : ∀ p' n' cap' w', Acc w0 g0 w' p' n' cap' (l ++ k) → n' ≤ n + m → n ≤ n' → wpListIn F nf P ops Q rest (a.put o.dst (.slice p' n' cap')) w') : wpListIn F nf P ops Q (o :: rest) a w := by
  have hm : m = k.length := by have := hsrc.newsLen; rw [bvs_length] at this; omega
  refine wpListIn_append_b ht hgd s x tx ho hs hacc.own hx k hsrc (by omega) ?_
  intro p' n' cap' w' h1 h2 h3
  have e1 := h1.len
  have e2 := hacc.own.len
  exact h _ _ _ _ (hacc.step h1 h2 h3) (by simp at e1; omega) (by simp at e1; omega)
end

theorem off_none_alloc {w : World} {p : Option Addr} (h : Off none w.heap.size p) : ∀ ad, p = some ad → some ad.block ≠ (none : Option Nat) := fun ad e => (h ad e).1
theorem acc_made {w w1 : World} {n cap : Nat} {l : List UInt8} (ho : Own w1 (some ⟨w.heap.size, 0, none⟩) n cap l) (hg : w.grownBy w1 none) : Acc w none w1 (some ⟨w.heap.size, 0, none⟩) n cap l :=
  ⟨ho, hg, fun ad e => by cases e; exact .inr (Nat.le_refl _)⟩

theorem Acc.cast {w0 w : World} {g0 : Option Nat} {p : Option Addr} {n cap : Nat} {l l' : List UInt8} (h : Acc w0 g0 w p n cap l) (e : l = l') : Acc w0 g0 w p n cap l' := e ▸ h

set_option maxHeartbeats 2000000 in
theorem wire_calls (p0 p1 p2 : Option Addr) (n0 c0 n1 c1 n2 c2 : Nat) (b name data : List UInt8) (w : World) (h0 : At w p0 n0 b) (h1 : At w p1 n1 name) (h2 : At w p2 n2 data)
    (hb : n0 + n1 + n2 ≤ 1048576) (o0 : Off none w.heap.size p0) (o1 : Off none w.heap.size p1) (o2 : Off none w.heap.size p2) :
    Calls Tryd.prog 9 #[.slice p0 n0 c0, .slice p1 n1 c1, .slice p2 n2 c2] w fun e w' => ∃ p n cap, e = .returned (.slice p n cap) ∧ Acc w none w' p n cap (wire b name data) := by
  obtain ⟨pre, hpre⟩ : ∃ pre, pre = b ++ evt name ++ sData := ⟨_, rfl⟩
  have HP : Hid (pre = b ++ evt name ++ sData) := hpre
  have hpl : pre.length ≤ n0 + n1 + 14 := by
    have e1 := h0.len
    have e2 := h1.len
    have e3 := evt_length name
    rw [hpre]; simp [sData]; omega
  have HW : Hid (wire b name data = pre ++ enc data ++ [10, 10]) := by show _ = _; rw [hpre]; rfl
  clear hpre
  by_cases hn : 0 < n1
  case' pos =>
    have hev : Hid (evt name = sEvent ++ name ++ [10]) := by
      show _ = _
      unfold evt; rw [if_neg]; intro e; have := h1.len; rw [e] at this; simp at this; omega
    go_enter Tryd.func9, Tryd.ntmps9
    go_wp2_with (first
      | (at_make; refine wpList_make_b bt rfl _ _ rfl rfl rfl 0 (n0 + n1 + n2 + 16) (by omega) (by omega) (by omega) (by omega) ?_; intro w1 hown1 hg1; have a1 := acc_made hown1 hg1; clear hown1 hg1)
      | (at_builtin; refine wpList_acc bt rfl (.tmp 19) (.tmp 20) a1 ((a1.at h0 o0).src bt _) rfl rfl rfl (by omega) ?_; intro p4 n4 cap4 w4 a4 hn4 _; clear a1)
      | (at_builtin; refine wpList_acc bt rfl (.tmp 25) _ a4 (srcS bt _ sEvent) rfl rfl rfl (by simp [sEvent]; omega) ?_; intro p5 n5 cap5 w5 a5 hn5 _; clear a4)
      | (at_builtin; refine wpList_acc bt rfl (.tmp 27) (.tmp 28) a5 ((a5.at h1 o1).src bt _) rfl rfl rfl (by simp [sEvent] at hn5; omega) ?_; intro p6 n6 cap6 w6 a6 hn6 _; clear a5)
      | (at_builtin; refine wpList_acc bt rfl (.tmp 30) (.tmp 31) (a6.alloc _) ((at_one _ 10).src bt _) rfl rfl rfl (by simp [sEvent] at hn5; omega) ?_; intro p7 n7 cap7 w7 a7 hn7 _; clear a6)
      | (at_builtin; refine wpList_acc bt rfl (.tmp 33) _ a7 (srcS bt _ sData) rfl rfl rfl (by simp [sEvent, sData] at hn5 ⊢; omega) ?_; intro p8 n8 cap8 w8 a8 hn8 _; clear a7))
    have acc : Acc w none w8 p8 n8 cap8 pre := a8.cast (by rw [HP.out, hev.out]; simp)
    clear a8 hn4 hn5 hn6 hn7 hn8 hev
  case' neg =>
    have hev : Hid (evt name = []) := by
      show _ = _
      unfold evt; rw [if_pos]; exact List.eq_nil_of_length_eq_zero (by have := h1.len; omega)
    go_enter Tryd.func9, Tryd.ntmps9
    go_wp2_with (first
      | (at_make; refine wpList_make_b bt rfl _ _ rfl rfl rfl 0 (n0 + n1 + n2 + 16) (by omega) (by omega) (by omega) (by omega) ?_; intro w1 hown1 hg1; have a1 := acc_made hown1 hg1; clear hown1 hg1)
      | (at_builtin; refine wpList_acc bt rfl (.tmp 19) (.tmp 20) a1 ((a1.at h0 o0).src bt _) rfl rfl rfl (by omega) ?_; intro p4 n4 cap4 w4 a4 hn4 _; clear a1)
      | (at_builtin; refine wpList_acc bt rfl (.tmp 33) _ a4 (srcS bt _ sData) rfl rfl rfl (by simp [sData]; omega) ?_; intro p8 n8 cap8 w8 a8 hn8 _; clear a4))
    have acc : Acc w none w8 p8 n8 cap8 pre := a8.cast (by rw [HP.out, hev.out]; simp)
    clear a8 hn4 hn8 hev
  all_goals
    go_loopw [7, 8] (fun v i wr => ∃ p n cap k, k ≤ n2 ∧ v = .slice p n cap ∧ i = .int .i64 (k : Nat) ∧ Acc w none wr p n cap (pre ++ enc (data.take k))) (fun _ i _ => n2 - (intOf i).toNat)
    case atStart => exact ⟨_, _, _, 0, Nat.zero_le _, rfl, rfl, acc.cast (by simp [enc])⟩
    case round =>
      obtain ⟨p, n, cap, k, hk, rfl, rfl, a9⟩ := hrel
      have hlen : n ≤ n0 + n1 + 14 + 7 * n2 := by
        have e1 := a9.own.len
        have e2 := enc_length (data.take k)
        have e3 := h2.len
        simp at e1 e2
        omega
      have hl2 : Hid (n2 = data.length) := h2.len
      clear acc
      by_cases hlt : k < n2
      · obtain ⟨b2, o2', rfl, hc2⟩ := get_cell (a9.at h2 o2) k hlt
        have i1 : (k : Int) < (n2 : Int) := by omega
        by_cases hnl : data[k]?.getD 0 = 10
        · have hbe : (((data[k]?.getD 0).toNat : Int) == 10) = true := by simp [hnl]
          have HE : Hid (encB (data[k]?.getD 0) = sNlData) := by show _ = _; simp [encB, hnl]
          clear hnl
          go_wp2_with (at_builtin; refine wpList_acc bt rfl (.tmp 46) _ a9 (srcS bt _ sNlData) rfl rfl rfl (by simp [sNlData]; omega) ?_; intro p4 n4 cap4 w4 a4 hn4 _; clear a9)
          go_roundw
          case rel => exact ⟨_, _, _, k + 1, by omega, rfl, by go_num, a4.cast (by rw [enc_snoc _ _ (by have := hl2.out; omega), HE.out]; simp)⟩
          case measure => simp [intOf]; omega
        · have hbe : (((data[k]?.getD 0).toNat : Int) == 10) = false := by
            rw [beq_eq_false_iff_ne]; intro e; exact hnl (UInt8.toNat_inj.1 (by simp; omega))
          have HE : Hid (encB (data[k]?.getD 0) = [data[k]?.getD 0]) := by show _ = _; simp [encB, hnl]
          clear hnl
          go_wp2_with (at_builtin; refine wpList_acc bt rfl (.tmp 48) (.tmp 53) (a9.alloc _) ((at_one _ _).src bt _) rfl rfl rfl (by omega) ?_; intro p4 n4 cap4 w4 a4 hn4 _; clear a9)
          go_roundw
          case rel => exact ⟨_, _, _, k + 1, by omega, rfl, by go_num, a4.cast (by rw [enc_snoc _ _ (by have := hl2.out; omega), HE.out]; simp)⟩
          case measure => simp [intOf]; omega
      · have hge : ¬ (k : Int) < (n2 : Int) := by omega
        go_wp2_with (at_builtin; refine wpList_acc bt rfl (.tmp 55) _ a9 (srcS bt _ [10, 10]) rfl rfl rfl (by simp; omega) ?_; intro p4 n4 cap4 w4 a4 hn4 _; clear a9)
        go_ret
        exact ⟨_, _, _, rfl, a4.cast (by rw [HW.out, List.take_of_length_le (by have := hl2.out; omega)])⟩
end Go.Proofs.Qxb6602806aDoor
