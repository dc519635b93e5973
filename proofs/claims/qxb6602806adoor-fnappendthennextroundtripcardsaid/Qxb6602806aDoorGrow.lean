import Derived.Test.Qxb6602806aDoorWire
import Derived.Lib.AppendZerosOnto
namespace Go.Proofs.Qxb6602806aDoor
open Go Go.RowKit

set_option maxHeartbeats 1000000 in
theorem grow_room (p : Option Addr) (l c n : Nat) (w : World) (hlc : l ≤ c) (hc63 : c ≤ 9223372036854775807) (hn63 : n ≤ 140737488355328) (hroom : l + n ≤ c) :
    Calls Tryd.prog 15 #[.slice p l c, .int .i64 n] w fun e w' => e = .returned (.slice p l c) ∧ w' = w := by
  have h1 : ¬ ((n : Int) < 0) := by omega
  have h2 : wrap64 ((c : Int) - (l : Int)) = (c : Int) - (l : Int) := by unfold wrap64; omega
  have h3 : wrap64 ((n : Int) - ((c : Int) - (l : Int))) = (n : Int) - ((c : Int) - (l : Int)) := by unfold wrap64; omega
  have h4 : ¬ ((n : Int) - ((c : Int) - (l : Int)) > 0) := by omega
  go_enter Tryd.func15, Tryd.ntmps15
  go_wp2
  go_ret
  exact ⟨rfl, rfl⟩

set_option maxHeartbeats 2000000 in
theorem grow_grow (base : Option Addr) (l c n : Nat) (cs : List Value) (w : World) (hlc : l ≤ c) (hroom : c < l + n) (hbig : l + n ≤ 140737488355328)
    (hcl : cs.length = c) (hnil : base = none → c = 0) (hcs : ∀ a, base = some a → ∀ j v, cs[j]? = some v → w.cell? (a.add j) = some v) :
    Calls Tryd.prog 15 #[.slice base l c, .int .i64 n] w fun e w' =>
      e = .returned (.slice (some ⟨w.heap.size, 0, none⟩) l (grownCap w (l + n) c 5)) ∧
      w' = w.drew.alloc (.cells (cs.toArray ++ Builtin.zeroCells #[.int .u8 0] (l + n - c) ++ Builtin.zeroCells #[.int .u8 0] (grownCap w (l + n) c 5 - (l + n))) 5) := by
  obtain ⟨i0, hi0, hz0, hsz, hby⟩ := info_parts bt.info
  have h1 : ¬ ((n : Int) < 0) := by omega
  have h2 : wrap64 ((c : Int) - (l : Int)) = (c : Int) - (l : Int) := by unfold wrap64; omega
  have h3 : wrap64 ((n : Int) - ((c : Int) - (l : Int))) = (n : Int) - ((c : Int) - (l : Int)) := by unfold wrap64; omega
  have h4 : (n : Int) - ((c : Int) - (l : Int)) > 0 := by omega
  have hck : c + (l + n - c) = l + n := by omega
  have hold : (Builtin.firstCells i0.size c (.slice base c c)).run Tryd.prog w.drew = .ok cs.toArray w.drew := by
    rw [hsz]
    cases base with
    | none =>
      have h0 := hnil rfl
      subst h0
      have hc0 : cs = [] := List.length_eq_zero_iff.1 (by simpa using hcl)
      rw [hc0]
      exact run_firstCells_none w.drew 1 0 0 0
    | some a => exact run_firstCells_some w.drew 1 c a c c cs (by omega) (fun j v hj => hcs a rfl j v hj)
  have hrz : ∀ ty, (Builtin.append_ #[22, 3] ty #[.slice base c c, .int .i64 ((n : Int) - ((c : Int) - (l : Int)))]).run Tryd.prog w =
      .ok (.slice (some ⟨w.heap.size, 0, none⟩) (l + n) (grownCap w (l + n) c 5)) (w.drew.alloc (.cells (cs.toArray ++ Builtin.zeroCells #[.int .u8 0] (l + n - c) ++ Builtin.zeroCells #[.int .u8 0] (grownCap w (l + n) c 5 - (l + n))) 5)) := fun ty => by
    have h := Lib.run_append_grow_zeros w 22 3 ty 5 i0 (.int .u8 0) .i64 .i64 bt.slice Tryd.underlying3 hi0 hz0 base c c cs hold (l + n - c) (by omega) (by omega) (by omega) (by omega)
      (by rw [hby]; omega)
      (by rw [hck]; exact growslice_fits hroom (by rw [hby]; omega))
    rw [hck] at h
    rw [show (n : Int) - ((c : Int) - (l : Int)) = ((l + n - c : Nat) : Int) by omega]
    exact h
  have hGn : l + n ≤ grownCap w (l + n) c 5 := grownCap_ge w _ _ _
  obtain ⟨G, hG⟩ : ∃ G, G = grownCap w (l + n) c 5 := ⟨_, rfl⟩
  rw [← hG] at hrz hGn ⊢
  have hG63 : G ≤ 9223372036854775807 := by
    have := grownCap_le_maxLen w (l + n) c 5 (by unfold maxLen; omega)
    rw [← hG] at this
    unfold maxLen at this
    omega
  clear hold hck hG hcs hcl hi0 hz0 hsz hby
  go_enter Tryd.func15, Tryd.ntmps15
  cases base with
  | none =>
    have h0 := hnil rfl
    subst h0
    obtain rfl : l = 0 := by omega
    go_wp2_with (at_builtin; refine Lib.wpList_append_run _ rfl _ _ _ _ rfl _ _ rfl rfl _ _ (hrz _) ?_)
    all_goals (go_ret; exact ⟨rfl, rfl⟩)
  | some a =>
    obtain ⟨ab, ao, asp⟩ := a
    go_wp2_with (at_builtin; refine Lib.wpList_append_run _ rfl _ _ _ _ rfl _ _ rfl rfl _ _ (hrz _) ?_)
    all_goals (go_ret; exact ⟨rfl, rfl⟩)

theorem grow_calls (p : Option Addr) (n cap k : Nat) (l : List UInt8) (w : World) (ho : Own w p n cap l) (hk : n + k ≤ 140737488355328) :
    Calls Tryd.prog 15 #[.slice p n cap, .int .i64 k] w fun e w' => ∃ p' cap', e = .returned (.slice p' n cap') ∧ Own w' p' n cap' l ∧ w.grownBy w' none ∧ Lies (blk p) w.heap.size p' := by
  have hle := ho.le
  by_cases hr : n + k ≤ cap
  · have hm : cap ≤ 9223372036854775807 := by
      rcases ho.shape with ⟨_, _, rfl, _⟩ | ⟨_, _, _, _, _, h2, _⟩
      · omega
      · unfold maxLen at h2; omega
    refine (grow_room p n cap k w hle hm (by omega) hr).mono ?_
    rintro e w' ⟨rfl, rfl⟩
    exact ⟨_, _, rfl, ho, World.grownBy.refl _ _, fun ad e => .inl (by rw [e]; rfl)⟩
  · have key : ∀ (cs : List Value), cs.length = cap → cs.take n = bvs l →
        Own (w.drew.alloc (.cells (cs.toArray ++ Builtin.zeroCells #[.int .u8 0] (n + k - cap) ++ Builtin.zeroCells #[.int .u8 0] (grownCap w (n + k) cap 5 - (n + k))) 5)) (some ⟨w.heap.size, 0, none⟩) n (grownCap w (n + k) cap 5) l := by
      intro cs h1 h2
      have hge := grownCap_ge w (n + k) cap 5
      refine ⟨ho.len, by rw [bvs_length, ho.len, Nat.mul_one], .inr ⟨w.heap.size, _, _, rfl, Nat.zero_le _, heap_alloc_new w.drew _, by omega, grownCap_le_maxLen w (n + k) cap 5 (by unfold maxLen; omega), ?_, ?_⟩⟩
      · simp [size_zeroCells, h1]; omega
      · simp only [Array.toList_append, Nat.mul_one]
        rw [List.append_assoc, List.take_append_of_le_length (by omega)]
        exact h2
    rcases ho.shape with ⟨rfl, rfl, rfl, rfl⟩ | ⟨g, cur, rfl, hg, h1, h2, h3, h4⟩
    · refine (grow_grow none 0 0 k [] w (Nat.le_refl _) (by omega) (by omega) rfl (fun _ => rfl) (fun _ h => by cases h)).mono ?_
      rintro e w' ⟨rfl, rfl⟩
      exact ⟨_, _, rfl, key [] rfl rfl, ⟨rfl, rfl, rfl, by simp, fun b hb _ => Below.heap_alloc w.drew _ b hb⟩, fun ad e => by cases e; exact .inr (Nat.le_refl _)⟩
    · refine (grow_grow (some ⟨g, 0, none⟩) n cap k cur.toList w hle (by omega) hk (by simpa using h3) (fun h => by cases h) ?_).mono ?_
      · intro a ha j v hv
        cases ha
        rw [Addr.add_lit]
        have hj : j < cur.size := by have := (List.getElem?_eq_some_iff.1 hv).1; simpa using this
        rw [World.cell?_of_block (w := w) (w' := w) rfl]
        simp only [World.cell?, hg, Nat.zero_add]
        simp at hv
        simp [hv]
      · rintro e w' ⟨rfl, rfl⟩
        exact ⟨_, _, rfl, key cur.toList (by simpa using h3) h4, ⟨rfl, rfl, rfl, by simp, fun b hb _ => Below.heap_alloc w.drew _ b hb⟩, fun ad e => by cases e; exact .inr (Nat.le_refl _)⟩
end Go.Proofs.Qxb6602806aDoor
