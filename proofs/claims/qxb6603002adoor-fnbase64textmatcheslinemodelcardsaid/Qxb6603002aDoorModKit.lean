/- What the walk of the two-pass model carries. -/
import Derived.Test.Qxb6603002aDoorBool
namespace Go.Proofs.Qxb6603002aDoor
open Go Go.RowKit

/-- The two rows of bools, made since w0. -/
structure Ars (w0 w : World) (n bF oF bC oC : Nat) (F C : List Bool) : Prop where
  grown : w0.grownBy w none
  fF : Bo w bF oF F
  fC : Bo w bC oC C
  lF : F.length = n
  lC : C.length = n + 1
  hF : w0.heap.size ≤ bF
  hC : w0.heap.size ≤ bC
  ne : bF ≠ bC

theorem Ars.setF {w0 w : World} {n bF oF bC oC : Nat} {F C : List Bool} (h : Ars w0 w n bF oF bC oC F C) (k : Nat) (hk : k < n) : Ars w0 (w.setCell ⟨bF, oF + k, none⟩ (.bool true)) n bF oF bC oC (F.set k true) C :=
  ⟨grown_setCell h.grown _ _ h.hF, h.fF.set k (by rw [h.lF]; exact hk), h.fC.far _ _ (Ne.symm h.ne), by rw [List.length_set]; exact h.lF, h.lC, h.hF, h.hC, h.ne⟩
theorem Ars.setC {w0 w : World} {n bF oF bC oC : Nat} {F C : List Bool} (h : Ars w0 w n bF oF bC oC F C) (k : Nat) (hk : k ≤ n) : Ars w0 (w.setCell ⟨bC, oC + k, none⟩ (.bool true)) n bF oF bC oC F (C.set k true) :=
  ⟨grown_setCell h.grown _ _ h.hC, h.fF.far _ _ h.ne, h.fC.set k (by rw [h.lC]; omega), h.lF, by rw [List.length_set]; exact h.lC, h.hF, h.hC, h.ne⟩
theorem grown_drewN {w0 w1 : World} {g0 : Option Nat} (h : w0.grownBy w1 g0) (k : Nat) : w0.grownBy (w1.drewN k) g0 := ⟨h.os, h.tape, h.output, h.size, h.block⟩
theorem Ars.drewN {w0 w : World} {n bF oF bC oC : Nat} {F C : List Bool} (h : Ars w0 w n bF oF bC oC F C) (k : Nat) : Ars w0 (w.drewN k) n bF oF bC oC F C :=
  ⟨grown_drewN h.grown k, h.fF.drewN k, h.fC.drewN k, h.lF, h.lC, h.hF, h.hC, h.ne⟩
theorem Ars.cellF {w0 w : World} {n bF oF bC oC : Nat} {F C : List Bool} (h : Ars w0 w n bF oF bC oC F C) (k : Nat) (hk : k < n) : w.cell? ⟨bF, oF + k, none⟩ = some (.bool (at1 F k)) := h.fF.cells k (by rw [h.lF]; exact hk)
theorem Ars.cellC {w0 w : World} {n bF oF bC oC : Nat} {F C : List Bool} (h : Ars w0 w n bF oF bC oC F C) (k : Nat) (hk : k ≤ n) : w.cell? ⟨bC, oC + k, none⟩ = some (.bool (at1 C k)) := h.fC.cells k (by rw [h.lC]; omega)

theorem Ars.softF {w0 w : World} {n bF oF bC oC : Nat} {F C : List Bool} (h : Ars w0 w n bF oF bC oC F C) (k : Nat) : w.frozen? ⟨bF, oF + k, none⟩ = false := h.fF.soft _
theorem Ars.softC {w0 w : World} {n bF oF bC oC : Nat} {F C : List Bool} (h : Ars w0 w n bF oF bC oC F C) (k : Nat) : w.frozen? ⟨bC, oC + k, none⟩ = false := h.fC.soft _

/-- The first pass, from i on, ends at R. -/
def Pas (t mk : List UInt8) (br : Int) (R : List Bool × List Bool) (i : Nat) (F C : List Bool) : Prop := ∃ f, t.length - i ≤ f ∧ pass t mk br f i F C = R
theorem Pas.step {t mk : List UInt8} {br : Int} {R : List Bool × List Bool} {i : Nat} {F C : List Bool} (h : Pas t mk br R i F C) (hi : i < t.length) {nx : Nat} {fr : Bool} {ct : Option Nat} {C' : List Bool} (hC' : (match ct with | none => C | some k => C.set k true) = C') (e : step t mk br i = ⟨nx, fr, ct⟩) {F' : List Bool} (hF' : (if fr = true then F.set i true else F) = F') :
    Pas t mk br R nx F' C' := by
  obtain ⟨f, hf, hp⟩ := h
  obtain ⟨f, rfl⟩ : ∃ g, f = g + 1 := ⟨f - 1, by omega⟩
  have h1 := (step_ok t mk br i hi).1
  simp only [pass, if_pos hi, e] at hp h1
  subst hC' hF'
  exact ⟨f, by omega, hp⟩
theorem Pas.done {t mk : List UInt8} {br : Int} {R : List Bool × List Bool} {i : Nat} {F C : List Bool} (h : Pas t mk br R i F C) (hi : t.length ≤ i) : R = (F, C) := by
  obtain ⟨f, _, hp⟩ := h
  rw [← hp]
  cases f with
  | zero => rfl
  | succ f => simp [pass, Nat.not_lt.2 hi]

theorem Pas.free {t mk : List UInt8} {br : Int} {R : List Bool × List Bool} {i : Nat} {F C : List Bool} (h : Pas t mk br R i F C) (hi : i < t.length) (h1 : at8 t i ≠ 92) (h2 : at8 t i ≠ 10) : Pas t mk br R (i + 1) (F.set i true) C :=
  h.step hi (nx := i + 1) (fr := true) (ct := none) rfl (by simp [Qxb6603002aDoor.step, h1, h2]) rfl
theorem Pas.line {t mk : List UInt8} {br : Int} {R : List Bool × List Bool} {i : Nat} {F C : List Bool} (h : Pas t mk br R i F C) (hi : i < t.length) (h2 : at8 t i = 10) {k : Nat} (hk : k = i + 1 + runP isBlank t (i + 1)) (hp : mk.isPrefixOf (t.drop k) = true) : Pas t mk br R (k + mk.length) F (C.set (i + 1) true) :=
  h.step hi (nx := k + mk.length) (fr := false) (ct := some (i + 1)) rfl (by subst hk; simp [Qxb6603002aDoor.step, h2, hp]) rfl
theorem Pas.lineN {t mk : List UInt8} {br : Int} {R : List Bool × List Bool} {i : Nat} {F C : List Bool} (h : Pas t mk br R i F C) (hi : i < t.length) (h2 : at8 t i = 10) {k : Nat} (hk : k = i + 1 + runP isBlank t (i + 1)) (hp : mk.isPrefixOf (t.drop k) = false) : Pas t mk br R (i + 1) F (C.set (i + 1) true) :=
  h.step hi (nx := i + 1) (fr := false) (ct := some (i + 1)) rfl (by subst hk; simp [Qxb6603002aDoor.step, h2, hp]) rfl
theorem Pas.back {t mk : List UInt8} {br : Int} {R : List Bool × List Bool} {i : Nat} {F C : List Bool} (h : Pas t mk br R i F C) (hi : i < t.length) (h2 : at8 t i = 92) {j : Nat} (hj : j = i + runP isBack t i) (hp : ¬ (j < t.length ∧ isEsc (at8 t j) = true)) : Pas t mk br R j F C :=
  h.step hi (nx := j) (fr := false) (ct := none) rfl (by subst hj; simp only [Qxb6603002aDoor.step, if_pos h2, if_neg hp]) rfl
theorem Pas.esc {t mk : List UInt8} {br : Int} {R : List Bool × List Bool} {i : Nat} {F C : List Bool} (h : Pas t mk br R i F C) (hi : i < t.length) (h2 : at8 t i = 92) {j : Nat} (hj : j = i + runP isBack t i) (hp : j < t.length ∧ isEsc (at8 t j) = true) (hn : ¬ (at8 t j = 110 ∧ brk (runP isBack t i) br = true)) : Pas t mk br R (j + 1) F C :=
  h.step hi (nx := j + 1) (fr := false) (ct := none) rfl (by subst hj; simp only [Qxb6603002aDoor.step, if_pos h2, if_pos hp, if_neg hn]) rfl
theorem Pas.escN {t mk : List UInt8} {br : Int} {R : List Bool × List Bool} {i : Nat} {F C : List Bool} (h : Pas t mk br R i F C) (hi : i < t.length) (h2 : at8 t i = 92) {j : Nat} (hj : j = i + runP isBack t i) (hp : j < t.length ∧ isEsc (at8 t j) = true) (hn : at8 t j = 110 ∧ brk (runP isBack t i) br = true) : Pas t mk br R (j + 1) F (C.set (j + 1) true) :=
  h.step hi (nx := j + 1) (fr := false) (ct := some (j + 1)) rfl (by subst hj; simp only [Qxb6603002aDoor.step, if_pos h2, if_pos hp, if_pos hn]) rfl

/-- The second pass, from a on with the bytes o, ends at R. -/
def Sec (t : List UInt8) (F C : List Bool) (R : List UInt8) (a : Nat) (o : List UInt8) : Prop := ∃ f, t.length - a ≤ f ∧ second t F C f a o = R
theorem Sec.step {t : List UInt8} {F C : List Bool} {R : List UInt8} {a : Nat} {o : List UInt8} (h : Sec t F C R a o) (hC : C.length = t.length + 1) (ha : a < t.length) {b : Nat} (hb : lend C t.length a = b) : Sec t F C R b (o ++ if hdr (seg F t a (b - a)) = true then [] else kept (seg F t a (b - a))) := by
  obtain ⟨f, hf, hp⟩ := h
  obtain ⟨f, rfl⟩ : ∃ g, f = g + 1 := ⟨f - 1, by omega⟩
  have h1 := (lend_ok C t.length a ha (by omega)).1
  simp only [second, if_pos ha, hb] at hp h1
  exact ⟨f, by omega, hp⟩
theorem Sec.done {t : List UInt8} {F C : List Bool} {R : List UInt8} {a : Nat} {o : List UInt8} (h : Sec t F C R a o) (ha : t.length ≤ a) : R = o := by
  obtain ⟨f, _, hp⟩ := h
  rw [← hp]
  cases f with
  | zero => rfl
  | succ f => simp [second, Nat.not_lt.2 ha]

theorem get8 {w : World} {p : Option Addr} {n : Nat} {l : List UInt8} (h : At w p n l) (k : Nat) (hk : k < n) : ∃ b o, p = some ⟨b, o, none⟩ ∧ w.cell? ⟨b, o + k, none⟩ = some (.int .u8 ((at8 l k).toNat : Int)) := get_cell h k hk
theorem beqN {c : UInt8} {k : Nat} (hk : k < 256) (h : c = UInt8.ofNat k) : ((c.toNat : Int) == (k : Int)) = true := by
  subst h
  have : (UInt8.ofNat k).toNat = k := by simp [Nat.mod_eq_of_lt hk]
  rw [this]; simp
theorem bneN {c : UInt8} {k : Nat} (h : c ≠ UInt8.ofNat k) : ((c.toNat : Int) == (k : Int)) = false := by
  rw [beq_eq_false_iff_ne]
  intro e
  apply h
  have : c.toNat = k := by omega
  rw [← this]; simp
theorem at8_get {t : List UInt8} {k : Nat} (h : k < t.length) : t[k] = at8 t k := by simp [at8, h]
end Go.Proofs.Qxb6603002aDoor
