/- Rows of bools that the call has made. -/
import Derived.Test.Qxb6603002aDoorPre
namespace Go.Proofs.Qxb6603002aDoor
open Go Go.RowKit

/-- The cells from (b, o) on read as the bools l. -/
structure Bo (w : World) (b o : Nat) (l : List Bool) : Prop where
  cells : ∀ j, j < l.length → w.cell? ⟨b, o + j, none⟩ = some (.bool (at1 l j))
  thaw : ∃ cur e, w.heap[b]? = some (.cells cur e (0, 0))

theorem Bo.keep {w w' : World} {b o : Nat} {l : List Bool} (h : Bo w b o l) (hk : b < w.heap.size → w'.heap[b]? = w.heap[b]?) : Bo w' b o l := by
  obtain ⟨cur, e, hb⟩ := h.thaw
  refine ⟨fun j hj => ?_, cur, e, (hk (Array.getElem?_eq_some_iff.1 hb).1).trans hb⟩
  have hc := h.cells j hj
  exact (World.cell?_of_block (a := ⟨b, o + j, none⟩) (hk (World.block_lt_of_cell? w ⟨b, o + j, none⟩ hc))).trans hc
theorem Bo.grown {w w' : World} {b o : Nat} {l : List Bool} (h : Bo w b o l) (hg : w.grownBy w' none) : Bo w' b o l := h.keep fun hl => hg.block _ hl (by simp)
theorem Bo.drewN {w : World} {b o : Nat} {l : List Bool} (h : Bo w b o l) (k : Nat) : Bo (w.drewN k) b o l := h.keep fun _ => by simp
theorem Bo.far {w : World} {b o : Nat} {l : List Bool} (h : Bo w b o l) (a : Addr) (v : Value) (hne : b ≠ a.block) : Bo (w.setCell a v) b o l := h.keep fun _ => Below.heap_setCell _ _ _ _ hne
theorem Bo.soft {w : World} {b o : Nat} {l : List Bool} (h : Bo w b o l) (k : Nat) : w.frozen? ⟨b, k, none⟩ = false := by
  obtain ⟨cur, e, hb⟩ := h.thaw
  simp [World.frozen?, hb]
theorem Bo.set {w : World} {b o : Nat} {l : List Bool} (h : Bo w b o l) (k : Nat) (hk : k < l.length) : Bo (w.setCell ⟨b, o + k, none⟩ (.bool true)) b o (l.set k true) := by
  obtain ⟨cur, e, hb⟩ := h.thaw
  refine ⟨fun j hj => ?_, ?_⟩
  case refine_2 =>
    have hlt := (Array.getElem?_eq_some_iff.1 hb).1
    simp only [World.setCell, Array.getElem?_modify, hb]
    exact ⟨_, _, rfl⟩
  rw [List.length_set] at hj
  by_cases e : j = k
  · subst e
    rw [World.cell?_setCell_same _ _ _ (h.cells j hj), at1_set_self l j hj]
  · rw [World.cell?_setCell_other _ _ _ _ (by intro e2; have e3 : o + k = o + j := congrArg Addr.off e2; omega), h.cells j hj, at1_set_ne l k j e]

section
variable {P : Program}
theorem wpList_make_bool {w : World} {ops : Array Oper} {rest : List Oper} {o : Oper} {a : Act} {Q : Exit → Act → World → Prop} (ht : P.underlying 28 = some (.slice 4)) (hinfo : (P.info? 4).map (fun i => (i.zero, i.size, i.bytes)) = some (some (.bool false), 1, 1)) (hg : o.guard = none) (l c : Operand) (hop : o.op = Op.makeSlice 28 l c)
    {kl kc : IntKind} {L C : Int} (hl : a.eval l = .int kl L) (hc : a.eval c = .int kc C) (n : Nat) (hL : L = n) (hC : C = n) (hb : n ≤ 281474976710656)
    (hK : ∀ w' b off, Bo w' b off (zeros n) → w.grownBy w' none → w.heap.size ≤ b → b < w'.heap.size → wpList P ops Q rest (a.put o.dst (.slice (some ⟨b, off, none⟩) n n)) w') :
    wpList P ops Q (o :: rest) a w := by
  obtain ⟨i, hi, hz, hsz, hby⟩ := info_parts hinfo
  refine wpList_plain hg fun K hK' => ?_
  have hr := run_make (P := P) w 28 4 i _ ht hi hz kl kc L C (by omega) (by omega) (by rw [hby]; omega) (by omega)
  rw [hsz, Nat.mul_one] at hr
  unfold Oper.wp
  simp [execOp, hop, hl, hc, hr, Result.andThen]
  subst hL
  subst hC
  simp only [Int.toNat_natCast]
  obtain ⟨w1, hw1⟩ : ∃ w1, w.alloc (.cells (madeCells (Value.bool false).cells n) 4) = w1 := ⟨_, rfl⟩
  have hown : w1.ownsRow 0 4 1 (.slice (some ⟨w.heap.size, 0, none⟩) n n) n (List.replicate n (.bool false)) := by
    rw [← hw1]
    refine ⟨by simp, .inr ⟨_, _, _, rfl, Nat.zero_le _, heap_alloc_new w _, Nat.le_refl _, by unfold maxLen; omega, by simp [size_madeCells], ?_⟩⟩
    rw [show (Value.bool false).cells = #[.bool false] from rfl, toList_madeCells_one, Nat.mul_one, List.take_replicate, Nat.min_self]
  refine hK' _ _ ?_
  have hfin := hK w1 w.heap.size 0 ⟨fun j hj => ?_, _, _, by rw [← hw1]; exact heap_alloc_new w _⟩ (by rw [← hw1]; exact World.grownBy_alloc w _ none) (Nat.le_refl _) (by rw [← hw1]; simp)
  · rw [← hw1] at hfin
    exact hfin
  · have hj' : j < n := by simpa [zeros] using hj
    have := hown.cells (g := w.heap.size) rfl j (.bool false) (by simp [hj'])
    rw [Addr.add_lit] at this
    rw [this, at1_zeros]
end
end Go.Proofs.Qxb6603002aDoor
