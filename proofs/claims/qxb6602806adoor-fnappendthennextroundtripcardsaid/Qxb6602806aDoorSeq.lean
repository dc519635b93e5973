/- A range over a function whose iterator WRITES A CELL OF ITS OWN between two rounds (bytes.SplitSeq's 's = s[i+1:]'): the library's law (Derived.RangeFuncWrites), at a body that never leaves, the iterator's one written block named. -/
import Derived.RangeFuncWrites
import Derived.RangeFuncLeaves
import Derived.RangeFuncNested
import Derived.RangeFuncBound
import Derived.RangeFuncCalls
import Derived.Shelf.Abstract
import Derived.Shelf.RegionOpen
import Derived.WalkKit
import Derived.OwnWalkIn
import Derived.TacticsInMore
import Derived.LoopNIn
import Derived.LoopIn
namespace Go.Proofs.Qxb6602806aDoor
open Go Go.RowKit

def Abides1 {α : Type} (Bs : Nat) (J : List α → World → Prop) : Prop := ∀ s W W' row, J s W → W.grownBy W' row → (∀ r, row = some r → r = Bs) → J s W'

def SeqS {α : Type} (F : Fence) (n : Nat) (P : Program) (g : Nat) (lb : Array Value) (encs : α → Array Value) (Kp : World → World → Prop) (S : List α → Prop) (N : Nat) (w : World) (Bs : Nat) : Prop :=
  ∀ (l : Nat) (J : List α → World → Prop) (W : World), Below w.heap.size w W → Abides1 Bs J →
    (∀ pre x W1, J pre W1 → pre.length < N → YieldAt F (n - 1) P l (encs x) W1 fun e W' => e = .returned (.bool true) ∧ J (pre ++ [x]) W' ∧ Kp W1 W') →
    J [] W →
    CallsIn F n P g (#[.func (.yield l) #[] #[]] ++ lb) W fun e W' => (∃ v, e = .returned v) ∧ ∃ xs, S xs ∧ J xs W'

def postS {α : Type} (Kp : World → World → Prop) (I : List α → World → Prop) (xs : List α) (W : World) : Exit → Act → World → Prop
  | .normal, _, W' => KeepsOthers W W' ∧ Kp W W' ∧ I xs W'
  | _, _, _ => False

theorem wpIn_rangeFunc_S {F : Fence} {n : Nat} {P : Program} {α : Type} {g : Operand} {ps : Array Tmp} {assign body : Code} {Q : Exit → Act → World → Prop} {a : Act} {w : World}
    (hro : F.round = none) (h1 : 1 ≤ n) {gf : Nat} {lb : Array Value} (hg : a.eval g = .func (.func gf) #[] lb) (hFg : F.fn gf) (eg : ∀ args w, (callFunc gf args).run P w = .ok (.enter gf args) w)
    {encs : α → Array Value} {Kp : World → World → Prop} {S : List α → Prop} {N : Nat} {w0 : World} {Bs : Nat} (hseq : SeqS F (n - 1) P gf lb encs Kp S N w0 Bs) (hBs : Bs < w.heap.size)
    (hKt : ∀ {A B C : World}, Kp A B → Kp B C → Kp A C) (hKb : ∀ (W : World) (l : Nat) (o o' : Obj), w.heap.size ≤ l → W.heap[l]? = some o → o.isCells = false → o.isWalk = false → Kp W (W.putObj l o')) (hb0 : Below w0.heap.size w0 w) (hps : ∀ x, (encs x).size = ps.size)
    (I : List α → World → Prop) (hI : OwnFrom w.heap.size I) (hIs : Abides1 Bs I) (h0 : I [] w) (a₁ : α → Act)
    (hassign : ∀ (l : Nat) (x : α) (W : World) (K : Act → World → Prop), K (a₁ x) W →
      assign.wpIn (F.inRound l) (n - 1 - 1) P (Exit.then K (fun _ _ _ => False)) { tmps := (ps.zip (encs x)).foldl (fun t (p, v) => t.setIfInBounds p v) a.tmps, defers := [] } W)
    (hbody : ∀ (l : Nat) (pre : List α) (x : α) (W : World), I pre W → pre.length < N → body.wpIn (F.inRound l) (n - 1 - 1) P (postS Kp I (pre ++ [x]) W) (a₁ x) W)
    (hdone : ∀ (D : Nat) (xs : List α) (W : World), w.heap.size ≤ D → S xs → I xs W → W.heap[D]? = some (.deferred (some [])) → Q .normal { a with defers := { target := .collected D, args := #[] } :: a.defers } W) :
    (Code.rangeFunc g ps assign body).wpIn F n P Q a w := by
  refine wpIn_rangeFunc ?_
  intro fn hfn
  rw [hro]
  obtain ⟨rec, hrec⟩ : ∃ rec : LoopState → Option Code → Loop, rec = fun st pe => { state := st, pending := pe, fn, tmps := a.tmps, params := ps, assign, body, defers := w.heap.size } := ⟨_, rfl⟩
  obtain ⟨W1, hW1⟩ : ∃ W1, (w.alloc (.deferred (some []))).alloc (.loop (rec .ready none)) = W1 := ⟨_, rfl⟩
  have hL1 : W1.heap[w.heap.size + 1]? = some (.loop (rec .ready none)) := by
    rw [← hW1]; have := World.alloc_heap_new (w.alloc (.deferred (some []))) (.loop (rec .ready none)); rwa [World.size_alloc] at this
  have hK1 : W1.heap[w.heap.size]? = some (.deferred (some [])) := by
    rw [← hW1]; exact (Below.heap_alloc _ _ _ (by simp)).trans (World.alloc_heap_new w _)
  have hI1 : I [] W1 := by rw [← hW1]; exact hI.alloc _ (hI.alloc _ h0)
  have hb1 : Below w0.heap.size w0 W1 := by
    rw [← hW1]; exact hb0.trans ((((Below.refl _ w).alloc (Nat.le_refl _) _).alloc (by simp) _).mono hb0.size)
  refine ⟨w.heap.size + 1, [{ target := .collected w.heap.size, args := #[] }], W1, { target := .fn (.func gf) lb, args := #[.func (.yield (w.heap.size + 1)) #[] #[]] }, W1, gf,
    #[.func (.yield (w.heap.size + 1)) #[] #[]] ++ lb, W1, ?_, ?_, ?_, ?_, fun _ => h1, ?_⟩
  · rw [← hW1, hrec]; exact run_enterLoop_outer _ _ _ _ _
  · simp only [resolve, hg]
    simp [go_sem]
  · intro f' hf'; simp [Target.leads] at hf'; subst hf'; exact hFg
  · simp [invoke, go_sem, eg]
  · -- THE ITERATOR's CONTRACT, AT THE CALLER's INVARIANT WITH THE TWO FACTS OF BOOK-KEEPING BESIDE IT
    have hkeep : ∀ {A B : World} {row : Option Nat} {k : Nat} {o : Obj}, w.heap.size ≤ k → A.heap[k]? = some o → A.grownBy B row → (∀ r, row = some r → r = Bs) → B.heap[k]? = some o :=
      fun hk ho hg' hr => (hg'.block _ (Array.getElem?_eq_some_iff.1 ho).1 (fun e => by have := hr _ e.symm; omega)).trans ho
    refine (hseq (w.heap.size + 1)
      (fun pre W => I pre W ∧ W.heap[w.heap.size + 1]? = some (.loop (rec .ready none)) ∧ W.heap[w.heap.size]? = some (.deferred (some [])))
      W1 hb1
      (fun s A B row hs hg' hr => ⟨hIs s A B row hs.1 hg' hr, hkeep (by omega) hs.2.1 hg' hr, hkeep (Nat.le_refl _) hs.2.2 hg' hr⟩)
      ?_ ⟨hI1, hL1, hK1⟩).mono ?_
    · -- ONE ROUND
      rintro pre x W ⟨hi, hl, hk⟩ hlen
      have hlt : w.heap.size + 1 < W.heap.size := (Array.getElem?_eq_some_iff.1 hl).1
      have hy := run_yield (P := P) (args := encs x) hl (by rw [hrec]; exact hps x)
      rw [hrec] at hy
      refine ⟨fn, _, assign, body, hy, roundIn_of_wpIn hfn (hassign _ x W _ ⟨_, run_beginRound hl (by rw [hrec]), ?_⟩)⟩
      have hl2 : (W.putObj (w.heap.size + 1) (.loop { rec .ready none with state := .busy })).heap[w.heap.size + 1]? = some (.loop { rec .ready none with state := .busy }) := World.putObj_heap_same hlt
      have hk2 : (W.putObj (w.heap.size + 1) (.loop { rec .ready none with state := .busy })).heap[w.heap.size]? = some (.deferred (some [])) := (World.putObj_heap_other (by omega)).trans hk
      have hw2 : Kp W (W.putObj (w.heap.size + 1) (.loop { rec .ready none with state := .busy })) := hKb _ _ _ _ (by omega) hl rfl rfl
      refine wpIn_mono (hbody _ pre x _ (hI.putObj _ hi (by omega) hl rfl) hlen) ?_
      have fin : ∀ (jump : Option Code) (W3 : World), KeepsFrom w.heap.size (W.putObj (w.heap.size + 1) (.loop { rec .ready none with state := .busy })) W3 →
          (Instr.endRound (w.heap.size + 1) jump).run P W3 = .ok (.bool jump.isNone) (W3.putObj (w.heap.size + 1) (.loop (rec (if jump.isNone then .ready else .done) jump))) ∧
          W3.heap[w.heap.size + 1]? = some (.loop { rec .ready none with state := .busy }) ∧
          (W3.putObj (w.heap.size + 1) (.loop (rec (if jump.isNone then .ready else .done) jump))).heap[w.heap.size + 1]? = some (.loop (rec (if jump.isNone then .ready else .done) jump)) ∧
          (W3.putObj (w.heap.size + 1) (.loop (rec (if jump.isNone then .ready else .done) jump))).heap[w.heap.size]? = some (.deferred (some [])) := fun jump W3 hk3 => by
        have hl3 := hk3.same _ _ (by omega) hl2 rfl
        have := run_endRound (P := P) jump hl3
        rw [hrec] at this ⊢
        exact ⟨this, by rw [hrec] at hl3; exact hl3, World.putObj_heap_same (Array.getElem?_eq_some_iff.1 hl3).1, (World.putObj_heap_other (by omega)).trans (hk3.same _ _ (Nat.le_refl _) hk2 rfl)⟩
      rintro e a3 W3 hp
      cases e with
      | normal =>
        obtain ⟨hk3, hkp3, hi3⟩ := hp
        obtain ⟨hr, hl3, hl4, hk4⟩ := fin none W3 (hk3.from _)
        exact ⟨_, _, hr, rfl, ⟨hI.putObj _ hi3 (by omega) hl3 rfl, hl4, hk4⟩, hKt (hKt hw2 hkp3) (hKb _ _ _ _ (by omega) hl3 rfl rfl)⟩
      | ret => exact hp.elim
      | exit id => exact hp.elim
      | goto t => exact hp.elim
      | panic ch => exact hp.elim
      | outgrown => exact hp.elim
    · rintro e W2 ⟨⟨v, rfl⟩, xs, hS, hi, hl, hk⟩
      exact ⟨none, _, by have := run_endLoop (P := P) hl (by rw [hrec]; simp); rw [hrec] at this; exact this, hdone _ xs _ (Nat.le_refl _) hS (hI.putObj _ hi (by omega) hl rfl) ((World.putObj_heap_other (by omega)).trans hk)⟩

end Go.Proofs.Qxb6602806aDoor
