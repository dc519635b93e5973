/- FnUpperASCIIMatchesByteModel returns true. -/
import Derived.Test.Qxb6603370aDoorMod
import Derived.Test.Qxb6603370aDoorMap
namespace Go.Proofs.Qxb6603370aDoor
open Go Go.RowKit

theorem law_calls (s : ByteArray) (w : World) (hs : s.size ≤ 9223372036854775807) (hT : Lib.Utf8Tabs 0 1 w) :
    Calls Tryd.prog 3 #[.string s] w fun e w' => e = .returned (.bool true) ∧ Below w.heap.size w w' := by
  have hb := bytes_calls s w hs
  by_cases h1 : s.size ≤ 1048576
  · rw [decide_eq_true h1] at hb
    have hu := upper_calls s w h1 hT
    have hmo := fun W => model_calls s W h1
    generalize (⟨(Lib.mapD upR s.data.toList).toArray⟩ : ByteArray) = V at hu hmo
    go_enter Tryd.func3, Tryd.ntmps3
    go_wp2_with (first | (go_at_call 6; refine hb.mono ?_; rintro e w1 ⟨rfl, hw⟩; have hw := hw.symm; subst hw) | (go_at_call 7; refine hu.mono ?_; rintro e w2 ⟨rfl, hB⟩) | (go_at_call 8; refine (hmo _).mono ?_; rintro e w3 ⟨rfl, hB3⟩))
    go_ret
    exact ⟨by simp, hB.trans (hB3.mono hB.size)⟩
  · rw [decide_eq_false h1] at hb
    go_enter Tryd.func3, Tryd.ntmps3
    go_wp2_with (go_at_call 6; refine hb.mono ?_; rintro e w1 ⟨rfl, hw⟩; have hw := hw.symm; subst hw)
    go_ret
    exact ⟨rfl, Below.refl _ _⟩
end Go.Proofs.Qxb6603370aDoor
