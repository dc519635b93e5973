/- base64Text's callees in the walk's words; what its walk carries. -/
import Derived.Test.Qxb6603002aDoorModKit
namespace Go.Proofs.Qxb6603002aDoor
open Go Go.RowKit Go.Shelf

def ints (l : List UInt8) : List Int := l.map fun c => (c.toNat : Int)
theorem ints_length (l : List UInt8) : (ints l).length = l.length := by simp [ints]
theorem ints_getD (l : List UInt8) (i : Nat) (h : i < l.length) : (ints l).getD i 0 = (l[i].toNat : Int) := by simp [ints, h]
theorem bytesOf_ints (l : List UInt8) : Lib.bytesOf (ints l) = l := by
  unfold Lib.bytesOf ints
  rw [List.map_map]
  conv => rhs; rw [← List.map_id l]
  apply List.map_congr_left
  intro c _
  simp
theorem At.bytesIn {w : World} {p : Option Addr} {n : Nat} {l : List UInt8} (h : At w p n l) : Lib.BytesIn w p n (ints l) := by
  intro hn
  have hl := h.len
  obtain ⟨b, o, hp, _⟩ := h.cells 0 (by omega)
  refine ⟨b, o, hp, fun i hi => ?_⟩
  obtain ⟨b', o', hp', hc⟩ := h.cells i (by omega)
  rw [hp] at hp'
  cases hp'
  rw [hc, ints_getD l i (by omega)]
  rfl
theorem ints_range (l : List UInt8) : ∀ x ∈ ints l, 0 ≤ x ∧ x < 256 := by
  intro x hx
  obtain ⟨c, _, rfl⟩ := List.mem_map.1 hx
  have := c.toNat_lt
  omega

theorem ascii2 {l : List UInt8} (h : l.all (fun b => decide (b.toNat < 128)) = true) : ∀ (j : Nat) b, l[j]? = some b → b.toNat < 128 := by
  intro j b hb
  have := List.all_eq_true.1 h b (List.mem_of_getElem? hb)
  simpa using this
theorem dropWhile_len {α : Type} (p : α → Bool) (l : List α) : (l.dropWhile p).length = l.length - (l.takeWhile p).length := by
  have h := congrArg List.length (List.takeWhile_append_dropWhile (p := p) (l := l))
  rw [List.length_append] at h
  omega
theorem trim_back (l : List UInt8) : (Lib.trimLeftS l [92]).length = l.length - (l.takeWhile isBack).length := by
  unfold Lib.trimLeftS
  rw [show (fun x => List.contains [(92 : UInt8)] x) = isBack from funext fun x => by simp only [isBack, List.contains, List.elem]; cases (x == 92) <;> rfl]
  exact dropWhile_len _ _
theorem trim_blank (l : List UInt8) : (Lib.trimLeftS l [32, 9]).length = l.length - (l.takeWhile isBlank).length := by
  unfold Lib.trimLeftS
  rw [show (fun x => List.contains [(32 : UInt8), 9] x) = isBlank from funext fun x => by simp only [isBlank, List.contains, List.elem]; cases (x == 32) <;> cases (x == 9) <;> rfl]
  exact dropWhile_len _ _

theorem leftV_len (p : Option Addr) (n c j : Nat) : ∃ p' c', Lib.leftV p n c j = .slice p' (n - j) c' := by
  unfold Lib.leftV Lib.fromV
  by_cases h : j = n
  · rw [if_pos h]; exact ⟨none, 0, by rw [h, Nat.sub_self]⟩
  · rw [if_neg h]; exact ⟨_, _, rfl⟩

/-- bytes.TrimLeft(s, a backslash): only its length matters. -/
theorem tlBack (b o n c : Nat) (l : List UInt8) (w : World) (h : At w (some ⟨b, o, none⟩) n l) (hnc : n ≤ c) (hc : c ≤ 9223372036854775807) (h0 : 0 < n) :
    ∃ p' c', ∀ i, Calls Tryd.prog 16 #[.slice (some ⟨b, o, none⟩) n c, .string ⟨#[92]⟩] (w.drewN i) fun e w'' => e = .returned (.slice p' (n - (l.takeWhile isBack).length) c') ∧ w'' = w.drewN i := by
  have hl := h.len
  have hb : Lib.BytesAt w (some ⟨b, o, none⟩) n l := by
    have := (h.bytesIn).at8 (by rw [ints_length]; exact hl.symm) (ints_range l)
    rwa [bytesOf_ints] at this
  have hcall := fun i => Any.bytes_TrimLeft_one Tryd.laysV8 (some ⟨b, o, none⟩) n c l 92 (w.drewN i) hl.symm hnc hc hb h0 (by decide)
  have e1 : n - (Lib.trimLeftS l [92]).length = (l.takeWhile isBack).length := by
    rw [trim_back]
    have := takeWhile_le isBack l
    omega
  simp only [e1] at hcall
  obtain ⟨p', c', hV⟩ := leftV_len (some ⟨b, o, none⟩) n c (l.takeWhile isBack).length
  simp only [hV] at hcall
  exact ⟨p', c', hcall⟩

theorem esc_index (c : UInt8) : (0 ≤ Lib.indexByte [110, 114, 116] c) = (isEsc c = true) := by
  unfold isEsc
  by_cases h1 : c = 110
  · subst h1; decide
  · by_cases h2 : c = 114
    · subst h2; decide
    · by_cases h3 : c = 116
      · subst h3; decide
      · have n1 : ((110 : UInt8) == c) = false := by simpa using Ne.symm h1
        have n2 : ((114 : UInt8) == c) = false := by simpa using Ne.symm h2
        have n3 : ((116 : UInt8) == c) = false := by simpa using Ne.symm h3
        simp [Lib.indexByte, n1, n2, n3, h1, h2, h3]

/-- bytes.TrimLeft(s, the blanks). -/
theorem tlBlank (p : Option Addr) (n c : Nat) (l : List UInt8) (w : World) (h : At w p n l) (hnc : n ≤ c) (hc : c ≤ 9223372036854775807) :
    Calls Tryd.prog 16 #[.slice p n c, .string ⟨#[32, 9]⟩] w fun e w' => Below w.heap.size w w' ∧ ∃ p' c', e = .returned (.slice p' (n - (l.takeWhile isBlank).length) c') ∧ At w p' (n - (l.takeWhile isBlank).length) (l.drop (l.takeWhile isBlank).length) ∧ n - (l.takeWhile isBlank).length ≤ c' := by
  have hl := h.len
  have hcall := Tryd.bytes_TrimLeft p n c (ints l) ⟨#[32, 9]⟩ w (by rw [ints_length]; exact hl.symm) hnc hc h.bytesIn (ints_range l) (by decide) (ascii2 (by decide))
  rw [bytesOf_ints] at hcall
  refine hcall.mono ?_
  rintro e w' ⟨rfl, hB⟩
  refine ⟨hB, ?_⟩
  have e1 : n - (Lib.trimLeftS l [32, 9]).length = (l.takeWhile isBlank).length := by
    rw [trim_blank]
    have := takeWhile_le isBlank l
    omega
  have htw := takeWhile_le isBlank l
  show ∃ p' c', Ending.returned (Lib.leftV p n c (n - (Lib.trimLeftS l [32, 9]).length)) = _ ∧ _
  rw [e1]
  generalize (l.takeWhile isBlank).length = j at htw ⊢
  unfold Lib.leftV
  by_cases hj : j = n
  · rw [if_pos hj]
    refine ⟨none, 0, by rw [hj, Nat.sub_self], ?_, by omega⟩
    rw [hj, Nat.sub_self, List.drop_of_length_le (by omega)]
    exact At.empty _ _
  · rw [if_neg hj]
    unfold Lib.fromV
    refine ⟨_, _, rfl, ?_, by omega⟩
    rw [if_neg (by omega)]
    refine ⟨by simp; omega, fun i hi => ?_⟩
    simp at hi
    obtain ⟨b, o, rfl, hcell⟩ := h.cells (j + i) (by omega)
    refine ⟨b, o + j, by rw [Option.map_some, Addr.add_lit], ?_⟩
    rw [Nat.add_assoc, hcell]
    simp

theorem hasPrefix_calls (p q : Option Addr) (n c m d : Nat) (la lb : List UInt8) (w : World) (ha : At w p n la) (hb : At w q m lb) (hnc : n ≤ c) :
    Calls Tryd.prog 18 #[.slice p n c, .slice q m d] w fun e w' => e = .returned (.bool (lb.isPrefixOf la)) ∧ w' = w := by
  have := Tryd.bytes_HasPrefix_all p q n c m d (ints la) (ints lb) w (by rw [ints_length]; exact ha.len.symm) (by rw [ints_length]; exact hb.len.symm) hnc ha.bytesIn hb.bytesIn
  rw [bytesOf_ints, bytesOf_ints] at this
  exact this

theorem Own.take {w : World} {p : Option Addr} {n cap : Nat} {l : List UInt8} (h : Own w p n cap l) (k : Nat) (hk : k ≤ n) : Own w p k cap (l.take k) := by
  have hl := h.len
  refine ⟨by simp; omega, by simp [bvs_length]; omega, ?_⟩
  rcases h.row.2 with ⟨hv, hn⟩ | ⟨g, cap', cur, hv, hb, hg, h1, h2, h3, h4⟩
  · left
    simp only [Value.slice.injEq] at hv ⊢
    exact ⟨⟨hv.1, by omega, hv.2.2⟩, by omega⟩
  · right
    simp only [Value.slice.injEq] at hv
    refine ⟨g, cap', cur, by rw [hv.1, hv.2.2], hb, hg, by omega, h2, h3, ?_⟩
    rw [Nat.mul_one] at h4 ⊢
    have : cur.toList.take k = (cur.toList.take n).take k := by rw [List.take_take, Nat.min_eq_left hk]
    rw [this, h4]
    simp [bvs]
theorem Acc.take {w0 w : World} {g0 : Option Nat} {p : Option Addr} {n cap : Nat} {l : List UInt8} (h : Acc w0 g0 w p n cap l) (k : Nat) (hk : k ≤ n) : Acc w0 g0 w p k cap (l.take k) := ⟨h.own.take k hk, h.grown, h.lies⟩
theorem Acc.below {w0 w w' : World} {g0 : Option Nat} {p : Option Addr} {n cap : Nat} {l : List UInt8} (h : Acc w0 g0 w p n cap l) (hB : Below w.heap.size w w') : Acc w0 g0 w' p n cap l :=
  ⟨h.own.keep fun ad _ hl => hB.block _ hl, grown_chain h.grown (grown_of_below hB none) (fun b e => by cases e), h.lies⟩
theorem Acc.drewN {w0 w : World} {g0 : Option Nat} {p : Option Addr} {n cap : Nat} {l : List UInt8} (h : Acc w0 g0 w p n cap l) (k : Nat) : Acc w0 g0 (w.drewN k) p n cap l :=
  ⟨h.own.keep fun _ _ _ => rfl, grown_drewN h.grown k, h.lies⟩

/-- The scan, from i on with the state s, ends at R. -/
def Sca (t mk : List UInt8) (br : Int) (R : List UInt8) (i : Nat) (s : St) : Prop := ∃ f, t.length - i ≤ f ∧ scan t mk br f i s = R
theorem Sca.step {t mk : List UInt8} {br : Int} {R : List UInt8} {i : Nat} {s : St} (h : Sca t mk br R i s) (hi : i < t.length) {nx : Nat} {fr : Bool} {ct : Option Nat} {s' : St} (hs : tokS t i ⟨nx, fr, ct⟩ s = s') (e : step t mk br i = ⟨nx, fr, ct⟩) : Sca t mk br R nx s' := by
  obtain ⟨f, hf, hp⟩ := h
  obtain ⟨f, rfl⟩ : ∃ g, f = g + 1 := ⟨f - 1, by omega⟩
  have h1 := (step_ok t mk br i hi).1
  simp only [scan, if_pos hi, e] at hp h1
  subst hs
  exact ⟨f, by omega, hp⟩
theorem Sca.done {t mk : List UInt8} {br : Int} {R : List UInt8} {i : Nat} {s : St} (h : Sca t mk br R i s) (hi : t.length ≤ i) : R = s.out := by
  obtain ⟨f, _, hp⟩ := h
  rw [← hp]
  cases f with
  | zero => rfl
  | succ f => simp [scan, Nat.not_lt.2 hi]
theorem Sca.free {t mk : List UInt8} {br : Int} {R : List UInt8} {i : Nat} {s : St} (h : Sca t mk br R i s) (hi : i < t.length) (h1 : at8 t i ≠ 92) (h2 : at8 t i ≠ 10) : Sca t mk br R (i + 1) (freeS s (at8 t i)) :=
  h.step hi (nx := i + 1) (fr := true) (ct := none) rfl (by simp [Qxb6603002aDoor.step, h1, h2])
theorem Sca.line {t mk : List UInt8} {br : Int} {R : List UInt8} {i : Nat} {s : St} (h : Sca t mk br R i s) (hi : i < t.length) (h2 : at8 t i = 10) {k : Nat} (hk : k = i + 1 + runP isBlank t (i + 1)) (hp : mk.isPrefixOf (t.drop k) = true) : Sca t mk br R (k + mk.length) (cutS s) :=
  h.step hi (nx := k + mk.length) (fr := false) (ct := some (i + 1)) rfl (by subst hk; simp [Qxb6603002aDoor.step, h2, hp])
theorem Sca.lineN {t mk : List UInt8} {br : Int} {R : List UInt8} {i : Nat} {s : St} (h : Sca t mk br R i s) (hi : i < t.length) (h2 : at8 t i = 10) {k : Nat} (hk : k = i + 1 + runP isBlank t (i + 1)) (hp : mk.isPrefixOf (t.drop k) = false) : Sca t mk br R (i + 1) (cutS s) :=
  h.step hi (nx := i + 1) (fr := false) (ct := some (i + 1)) rfl (by subst hk; simp [Qxb6603002aDoor.step, h2, hp])
theorem Sca.back {t mk : List UInt8} {br : Int} {R : List UInt8} {i : Nat} {s : St} (h : Sca t mk br R i s) (hi : i < t.length) (h2 : at8 t i = 92) {j : Nat} (hj : j = i + runP isBack t i) (hp : ¬ (j < t.length ∧ isEsc (at8 t j) = true)) : Sca t mk br R j s :=
  h.step hi (nx := j) (fr := false) (ct := none) rfl (by subst hj; simp only [Qxb6603002aDoor.step, if_pos h2, if_neg hp])
theorem Sca.esc {t mk : List UInt8} {br : Int} {R : List UInt8} {i : Nat} {s : St} (h : Sca t mk br R i s) (hi : i < t.length) (h2 : at8 t i = 92) {j : Nat} (hj : j = i + runP isBack t i) (hp : j < t.length ∧ isEsc (at8 t j) = true) (hn : ¬ (at8 t j = 110 ∧ brk (runP isBack t i) br = true)) : Sca t mk br R (j + 1) s :=
  h.step hi (nx := j + 1) (fr := false) (ct := none) rfl (by subst hj; simp only [Qxb6603002aDoor.step, if_pos h2, if_pos hp, if_neg hn])
theorem Sca.escN {t mk : List UInt8} {br : Int} {R : List UInt8} {i : Nat} {s : St} (h : Sca t mk br R i s) (hi : i < t.length) (h2 : at8 t i = 92) {j : Nat} (hj : j = i + runP isBack t i) (hp : j < t.length ∧ isEsc (at8 t j) = true) (hn : at8 t j = 110 ∧ brk (runP isBack t i) br = true) : Sca t mk br R (j + 1) (cutS s) :=
  h.step hi (nx := j + 1) (fr := false) (ct := some (j + 1)) rfl (by subst hj; simp only [Qxb6603002aDoor.step, if_pos h2, if_pos hp, if_pos hn])
end Go.Proofs.Qxb6603002aDoor
