/- upperASCII: by strings.Map's contract. -/
import Derived.Test.Qxb6603370aDoorLeaf
namespace Go.Proofs.Qxb6603370aDoor
open Go Go.RowKit

theorem enters15 : ∀ args w, (callFunc 15 args).run Tryd.prog w = .ok (.enter 15 args) w := enters_of Tryd.func15 (by kernel_rfl) rfl
theorem map_calls (s : ByteArray) (w : World) (hs : s.size ≤ 1048576) (hT : Lib.Utf8Tabs 0 1 w) :
    Calls Tryd.prog 14 #[.func (.func 15) #[] #[], .string s] w fun e w' => e = .returned (.string ⟨(Lib.mapD upR s.data.toList).toArray⟩) ∧ Below w.heap.size w w' :=
  Tryd.strings_Map_runes 15 #[] enters15 upR s w (by omega)
    (fun W x hx _ => (up_calls x hx W).mono fun e w' ⟨he, hw⟩ => ⟨he, 0, hw⟩)
    (fun x hx => by unfold upR; split <;> omega) hT
theorem upper12_calls (s : ByteArray) (w : World) (hs : s.size ≤ 1048576) (hT : Lib.Utf8Tabs 0 1 w) :
    Calls Tryd.prog 12 #[.string s] w fun e w' => e = .returned (.string ⟨(Lib.mapD upR s.data.toList).toArray⟩) ∧ Below w.heap.size w w' := by
  have hm := map_calls s w hs hT
  go_enter Tryd.func12, Tryd.ntmps12
  go_wp2_with (go_at_call 14; refine hm.mono ?_; rintro e w1 ⟨rfl, hB⟩)
  go_ret
  exact ⟨rfl, hB⟩
theorem upper_calls (s : ByteArray) (w : World) (hs : s.size ≤ 1048576) (hT : Lib.Utf8Tabs 0 1 w) :
    Calls Tryd.prog 7 #[.string s] w fun e w' => e = .returned (.string ⟨(Lib.mapD upR s.data.toList).toArray⟩) ∧ Below w.heap.size w w' := by
  have hm := upper12_calls s w hs hT
  go_enter Tryd.func7, Tryd.ntmps7
  go_wp2_with (go_at_call 12; refine hm.mono ?_; rintro e w1 ⟨rfl, hB⟩)
  go_ret
  exact ⟨rfl, hB⟩
end Go.Proofs.Qxb6603370aDoor
