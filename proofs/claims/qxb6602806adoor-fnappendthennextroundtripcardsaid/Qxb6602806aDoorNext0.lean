/- (*sse.EventReader).Next on a stream without a newline; the walk of FnAppendThenNextRoundTrip's smaller parts. -/
import Derived.Test.Qxb6602806aDoorNextKit
namespace Go.Proofs.Qxb6602806aDoor
open Go Go.RowKit Go.Shelf

set_option maxHeartbeats 1000000 in
set_option maxRecDepth 100000 in
theorem next_empty (Br : Nat) (p : Option Addr) (c : Nat) (w : World) (hz : p = none → c = 0) (hp : ∀ ad, p = some ad → ad.spot = none) (hc : c ≤ 9223372036854775807)
    (hr : w.heap[Br]? = some (.cells #[.int .i64 0, .int .i64 0, .slice none 0 0, .slice none 0 0, .bool false] 33 (0, 0))) :
    Calls Tryd.prog 12 #[.pointer (some ⟨Br, 0, none⟩), .slice p 0 c] w fun e w' => e = .returned (.tuple #[.agg #[.slice none 0 0, .slice none 0 0], .int .i64 0, .bool false]) ∧ (∀ j, j < w.heap.size → j ≠ Br → w'.heap[j]? = w.heap[j]?) ∧ w'.os = w.os ∧ w'.tape = w.tape ∧ w'.output = w.output ∧ w.heap.size ≤ w'.heap.size := by
  have hBr : Br < w.heap.size := (Array.getElem?_eq_some_iff.1 hr).1
  have ns0 : NS w Br (w.alloc (.cells #[.slice none 0 0, .slice none 0 0] 27)) 0 0 (.slice none 0 0) (.slice none 0 0) false :=
    ⟨(Below.heap_alloc _ _ _ hBr).trans hr, heap_alloc_new w _, rfl, rfl, rfl, by simp, hBr, fun j hj _ => Below.heap_alloc _ _ _ hj⟩
  obtain ⟨r0, r1, r2, r3, r4⟩ := ns0.cells
  have fz1 := ns0.free 1
  have hib : ∀ W, Calls Tryd.prog 16 #[.slice p 0 c, .int .u8 10] W fun e w' => e = .returned (.int .i64 (-1)) ∧ w' = W := fun W => ib_calls p 0 c [] W (At.empty W p) hz
  clear hr
  cases p with
  | none =>
    obtain rfl := hz rfl
    go_enter Tryd.func12, Tryd.ntmps12
    go_wp2
    refine wp_loop_rounds 1 ?_
    rw [rounds_succ]
    go_wp2_with (go_at_call 16; refine (hib _).mono ?_; rintro e wx ⟨rfl, hw⟩; have hw := hw.symm; subst hw)
    refine bodyPost_ret (v := .tuple #[.agg #[.slice none 0 0, .slice none 0 0], .int .i64 0, .bool false]) (by simp [results, Tryd.results12, go_sem]) rfl ⟨rfl, fun j hj hne => ?_, rfl, rfl, rfl, by simp [World.setCell]⟩
    exact (Below.heap_alloc _ _ _ (by simpa [World.setCell] using hj)).trans (Below.heap_setCell _ _ _ _ hne)
  | some ad =>
    obtain ⟨b, o, s⟩ := ad
    obtain rfl : s = none := hp _ rfl
    go_enter Tryd.func12, Tryd.ntmps12
    go_wp2
    refine wp_loop_rounds 1 ?_
    rw [rounds_succ]
    go_wp2_with (go_at_call 16; refine (hib _).mono ?_; rintro e wx ⟨rfl, hw⟩; have hw := hw.symm; subst hw)
    refine bodyPost_ret (v := .tuple #[.agg #[.slice none 0 0, .slice none 0 0], .int .i64 0, .bool false]) (by simp [results, Tryd.results12, go_sem]) rfl ⟨rfl, fun j hj hne => ?_, rfl, rfl, rfl, by simp [World.setCell]⟩
    exact (Below.heap_alloc _ _ _ (by simpa [World.setCell] using hj)).trans (Below.heap_setCell _ _ _ _ hne)
end Go.Proofs.Qxb6602806aDoor
