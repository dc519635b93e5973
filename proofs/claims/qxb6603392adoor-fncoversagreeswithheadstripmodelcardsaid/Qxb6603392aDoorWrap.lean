/- The rows' wrap: the listed tables and the world's shape, both handed to the walk. -/
import Derived.Test.Qxb6603392aDoorLaw
import Derived.Test.Qxb6603392aDoorRows
import Derived.Test.Qxb6603392aDoorTie
import Derived.Test.Qxb6603392aDoorCards
import Derived.ProofKit
import Derived.OpenShut
import Derived.Lay
import Derived.LaidOnce
import Derived.SevenTiedAt
import Derived.HandedShaped
import Derived.ChangeMaps5
namespace Go.Proofs.Qxb6603392aDoor
open Go Go.ChangeShapes Go.WideShapes Go.ChangeAt Go.RowKit

theorem ownKnobNone : ownKnob Tryd.prog.godebug = none := by kernel_rfl
theorem laidOut : laidOutB Tryd.prog = true := by kernel_rfl
/-- A world that has the program's shape holds internal/bytealg.MaxLen. -/
theorem mx_of (W : World) (h : W.ShapedOpen Tryd.prog) : Mx W := by
  obtain ⟨m, hm⟩ := Tryd.laysM146.s1_3 W h
  have hm' : W.cell? ⟨0, 0, none⟩ = some (.int .i64 m) := hm
  exact ⟨World.block_lt_of_cell? W _ hm', m, hm'⟩

theorem wrap {H : Type} {enc : TypeId × Value → H} {os : Os} {f : FuncId} {fn : Func} {s : ChangeSpec} (L : List (String × DataW Unit))
    (started : os.Started) (noInit : Tryd.prog.inits.idxOf? f = none) (hfn : Tryd.prog.funcs[f]? = some fn)
    (witness : ∃ (w : World) (tape : Tape) (i : Input), w.os = os ∧ (w.forCall tape i).Shaped Tryd.prog ∧ i.vars = [] ∧ Input.okWide Tryd.prog (w.forCall tape i) .any w.heap.size f i ∧
      ((s.pre enc Tryd.prog fn [] false (w.forCall tape i).memory i.args ∧ laidMetH Tryd.prog L (w.forCall tape i).memory) ∧ sizedMet enc Tryd.prog fn (OpenSpec.ofChange s) false (w.forCall tape i).memory i.args) ∧ ({} : Assume).holds Tryd.prog (lone (Frame.enter Tryd.prog f i.args .normal) [] (w.forCall tape i)))
    (contract : ∀ (W : World) (base : Nat) (args : Array Value) (ds gs : List (DataW H)) (before : List MemPlace),
      (∀ (j : Nat) t v, fn.params[j]? = some t → args[j]? = some v → Value.okWide Tryd.prog W .any base t v) →
      DataW.Whole enc Tryd.prog fn.params.toList s.vars false W args.toList ds gs before →
      W.ShapedOpen Tryd.prog →
      Calls Tryd.prog f args W fun e W' => ∃ v, e = .returned v ∧ s.post enc Tryd.prog fn false true false false W args v W') :
    ReturnsInHanded {} Tryd.checked os f .any (fun w args => (s.pre enc Tryd.prog fn [] false w args ∧ laidMetH Tryd.prog L w) ∧ sizedMet enc Tryd.prog fn (OpenSpec.ofChange s) false w args) (s.post enc Tryd.prog fn false true false false) := by
  refine returnsInHanded_of_calls (C := Tryd.checked) ownKnobNone started noInit witness ?_
  intro w tape i _ hsh _ hok hpre _
  obtain ⟨_, _, _, fn', hfn', _, _, _, _, hval⟩ := hok
  have e : fn' = fn := Option.some.inj (hfn'.symm.trans hfn)
  subst e
  obtain ⟨⟨⟨ds, gs, before, hw, _⟩, _⟩, _⟩ := hpre
  have hw' := DataW.Whole.of_heap (w' := w.forCall tape i) (by rfl) hw
  refine (contract (w.forCall tape i) w.heap.size i.args ds gs before hval hw' hsh).mono fun e W' ⟨v, he, hp⟩ => ?_
  subst he
  exact ChangeSpec.post_blind hp
end Go.Proofs.Qxb6603392aDoor
