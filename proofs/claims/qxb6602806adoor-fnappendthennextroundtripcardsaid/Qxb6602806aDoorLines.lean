/- Lines: plain laws. -/
import Derived.Test.Qxb6602806aDoorPlain
import Derived.Lib.Bytealg
import Derived.Lib.Bytes
namespace Go.Proofs.Qxb6602806aDoor
open Go

def consHead (c : UInt8) : List (List UInt8) → List (List UInt8)
  | [] => [[c]]
  | h :: t => (c :: h) :: t
def lines : List UInt8 → List (List UInt8)
  | [] => [[]]
  | c :: r => if c = 10 then [] :: lines r else consHead c (lines r)
def flat (ls : List (List UInt8)) : List UInt8 := ls.flatMap fun l => sData ++ l ++ [10]

theorem lines_ne (l : List UInt8) : lines l ≠ [] := by
  cases l with
  | nil => simp [lines]
  | cons c r =>
    unfold lines
    split
    · simp
    · cases lines r <;> simp [consHead]

theorem index_ge (l : List UInt8) : -1 ≤ Lib.indexByte l 10 := Lib.indexByte_ge l 10

theorem lines_none : ∀ (l : List UInt8), Lib.indexByte l 10 = -1 → lines l = [l]
  | [], _ => rfl
  | c :: r, h => by
    unfold Lib.indexByte at h
    split at h
    · omega
    · rename_i hc
      split at h
      · rename_i hr
        have := lines_none r (by simpa using hr)
        simp only [beq_iff_eq] at hc
        simp [lines, hc, this, consHead]
      · rename_i hr
        have := index_ge r
        simp at hr
        omega

theorem lines_some : ∀ (l : List UInt8) (i : Nat), Lib.indexByte l 10 = (i : Int) → i < l.length ∧ lines l = l.take i :: lines (l.drop (i + 1))
  | [], i, h => by simp [Lib.indexByte] at h
  | c :: r, i, h => by
    unfold Lib.indexByte at h
    split at h
    · rename_i hc
      obtain rfl : i = 0 := by omega
      simp only [beq_iff_eq] at hc
      simp [lines, hc]
    · rename_i hc
      split at h
      · omega
      · obtain ⟨j, rfl⟩ : ∃ j, i = j + 1 := ⟨i - 1, by have := index_ge r; rename_i hr; simp at hr; omega⟩
        obtain ⟨h1, h2⟩ := lines_some r j (by omega)
        simp only [beq_iff_eq] at hc
        refine ⟨by simp; omega, ?_⟩
        simp [lines, hc, h2, consHead]

theorem flat_lines (l : List UInt8) : flat (lines l) = sData ++ enc l ++ [10] := by
  induction l with
  | nil => simp [lines, flat, enc]
  | cons c r ih =>
    by_cases hc : c = 10
    · have : flat ([] :: lines r) = sData ++ [10] ++ flat (lines r) := by simp [flat]
      rw [show lines (c :: r) = [] :: lines r by simp [lines, hc], this, ih]
      simp [enc, encB, hc, sNlData, sData]
    · obtain ⟨h, t, e⟩ : ∃ h t, lines r = h :: t := by
        cases e : lines r with
        | nil => exact absurd e (lines_ne r)
        | cons h t => exact ⟨h, t, rfl⟩
      rw [show lines (c :: r) = (c :: h) :: t by simp [lines, hc, e, consHead]]
      rw [e] at ih
      have ih' : h ++ [10] ++ flat t = enc r ++ [10] := by
        have : flat (h :: t) = sData ++ (h ++ [10] ++ flat t) := by simp [flat]
        rw [this] at ih
        exact List.append_cancel_left (ih.trans (List.append_assoc _ _ _))
      have : flat ((c :: h) :: t) = sData ++ [c] ++ (h ++ [10] ++ flat t) := by simp [flat]
      rw [this, ih']
      simp [enc, encB, hc]

theorem enc_none : ∀ (l : List UInt8), Lib.indexByte l 10 = -1 → enc l = l
  | [], _ => rfl
  | c :: r, h => by
    unfold Lib.indexByte at h
    split at h
    · omega
    · rename_i hc
      simp only [beq_iff_eq] at hc
      split at h
      · rename_i hr
        simp [enc, encB, hc, enc_none r (by simpa using hr)]
      · rename_i hr
        have := index_ge r
        simp at hr
        omega

theorem flat_append (a b : List (List UInt8)) : flat (a ++ b) = flat a ++ flat b := by simp [flat]
theorem flat_length_le (a b : List (List UInt8)) : (flat a).length ≤ (flat (a ++ b)).length := by rw [flat_append]; simp
theorem lines_length (l : List UInt8) : (lines l).length ≤ l.length + 1 := by
  induction l with
  | nil => simp [lines]
  | cons c r ih =>
    unfold lines
    split
    · simp; omega
    · cases h : lines r with
      | nil => simp [consHead]
      | cons a b => rw [h] at ih; simp [consHead] at ih ⊢; omega

def ints (l : List UInt8) : List Int := l.map fun c => (c.toNat : Int)
theorem ints_length (l : List UInt8) : (ints l).length = l.length := by simp [ints]
theorem bytesOf_ints (l : List UInt8) : Lib.bytesOf (ints l) = l := by
  unfold Lib.bytesOf ints
  rw [List.map_map]
  conv => rhs; rw [← List.map_id l]
  apply List.map_congr_left
  intro c _
  simp
theorem ints_getD (l : List UInt8) (i : Nat) (h : i < l.length) : (ints l).getD i 0 = (l[i].toNat : Int) := by
  simp [ints, List.getD, h]
theorem ints_range (l : List UInt8) : ∀ x ∈ ints l, 0 ≤ x ∧ x < 256 := by
  intro x hx
  obtain ⟨c, _, rfl⟩ := List.mem_map.1 hx
  have := c.toNat_lt
  omega
end Go.Proofs.Qxb6602806aDoor
