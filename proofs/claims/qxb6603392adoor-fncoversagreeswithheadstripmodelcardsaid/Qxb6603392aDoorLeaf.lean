/- strings.Split at a colon, scope.Valid and the two bounds. -/
import Derived.Test.Qxb6603392aDoorShelf
import Derived.Test.Qxb6603392aDoorPlain
import Derived.Lib.SplitLaws
import Derived.WalkKit
import Derived.Deep.QuietTactic
import Derived.BigQuiet
import Derived.Handy
namespace Go.Proofs.Qxb6603392aDoor
open Go Go.RowKit

def Hid (p : Prop) : Prop := p
theorem Hid.out {p : Prop} (h : Hid p) : p := h

/-- internal/bytealg.MaxLen holds an int. -/
def Mx (w : World) : Prop := 0 < w.heap.size ∧ ∃ m : Int, w.cell? ⟨0, 0, none⟩ = some (.int .i64 m)
theorem Mx.below {w w' : World} (h : Mx w) (b : Below w.heap.size w w') : Mx w' := by
  obtain ⟨h0, m, hm⟩ := h
  refine ⟨Nat.lt_of_lt_of_le h0 b.size, m, ?_⟩
  rw [← hm]
  exact b.cell h0

theorem index_fc : ∀ (l : List UInt8), Lib.index l [58] = if fc l < l.length then (fc l : Int) else -1
  | [] => by simp [Lib.index, fc]
  | c :: l => by
    have ih := index_fc l
    by_cases hc : c = 58
    · subst hc
      simp [Lib.index, fc]
    · have e : fc (c :: l) = fc l + 1 := by simp [fc, hc]
      have hp : ([58] : List UInt8).isPrefixOf (c :: l) = false := by simp [List.isPrefixOf, Ne.symm hc]
      rw [Lib.index, hp, ih, e, if_neg (by simp)]
      by_cases h : fc l < l.length
      · have h' : fc l + 1 < (c :: l).length := by simp; omega
        simp only [if_pos h, if_pos h']
        rw [if_neg (by rw [beq_iff_eq]; omega)]
        omega
      · have h' : ¬ fc l + 1 < (c :: l).length := by simp; omega
        simp only [if_neg h, if_neg h']
        rfl
theorem splitK_segs : ∀ (n : Nat) (l : List UInt8), l.length ≤ n → Lib.splitK [58] 0 (Lib.count l [58]) l = segs l
  | n, l, hn => by
    by_cases h : fc l < l.length
    · have hi : Lib.index l [58] = (fc l : Nat) := by rw [index_fc, if_pos h]
      rw [Lib.count_hit (by simp) hi, Nat.add_comm 1]
      unfold Lib.splitK
      rw [hi, if_neg (by simp)]
      simp only [Int.toNat_natCast, Nat.add_zero, List.length_singleton]
      rw [segs_fc h]
      cases n with
      | zero => omega
      | succ n => rw [splitK_segs n (l.drop (fc l + 1)) (by simp; omega)]
    · have h2 := fc_le l
      have hi : Lib.index l [58] = -1 := by rw [index_fc, if_neg h]
      rw [Lib.count_miss hi]
      unfold Lib.splitK
      rw [segs_fc0 (by omega)]

/-- What strings.Split leaves: a row of strings. -/
structure Parts (w : World) (b : Nat) (n : Nat) (l : List UInt8) (zs : List ByteArray) : Prop where
  len : zs.length = n
  is : zs.map (·.data.toList) = segs l
  cell : ∀ j, j < n → w.cell? ⟨b, j, none⟩ = some (.string (zs.getD j ByteArray.empty))
  lt : b < w.heap.size

theorem split_calls (s : ByteArray) (w : World) (hs : s.size ≤ 1048576) (hm : Mx w) :
    Calls Tryd.prog 12 #[.string s, .string ⟨#[58]⟩] w fun e w' => ∃ b n zs, e = .returned (.slice (some ⟨b, 0, none⟩) n n) ∧ Below w.heap.size w w' ∧ Parts w' b n s.data.toList zs ∧ n ≤ 1048577 := by
  obtain ⟨_, m, hm⟩ := hm
  refine (Tryd.strings_Split s ⟨#[58]⟩ m w (by omega) hm (by decide)).mono ?_
  rintro e w' ⟨rfl, rfl⟩
  have h1 := Lib.splitB_all ⟨#[58]⟩ (by decide) 0 _ s rfl
  have h2 := Lib.countB_le ⟨#[58]⟩ (by decide) _ s (Nat.le_refl _)
  refine ⟨_, _, Lib.splitB ⟨#[58]⟩ 0 (Lib.countB s ⟨#[58]⟩) s, rfl, (Below.refl _ w).alloc (Nat.le_refl _) _, ⟨h1, ?_, ?_, by simp⟩, by omega⟩
  · rw [Lib.splitB_data]
    exact splitK_segs _ _ (Nat.le_refl _)
  · intro j hj
    rw [← h1] at hj
    generalize Lib.splitB _ _ _ _ = zs at hj ⊢
    rw [World.cell?_alloc_new]
    simp [List.getD, hj]
end Go.Proofs.Qxb6603392aDoor
