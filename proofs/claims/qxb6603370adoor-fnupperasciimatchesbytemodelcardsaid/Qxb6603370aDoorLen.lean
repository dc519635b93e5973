/- zzUTF8Len computes ulen. -/
import Derived.Test.Qxb6603370aDoorLeaf
namespace Go.Proofs.Qxb6603370aDoor
open Go Go.RowKit

theorem beq8 {c : UInt8} {k : Nat} (h : c.toNat = k) : ((c.toNat : Int) == (k : Int)) = true := by rw [beq_iff_eq]; omega
theorem bne8 {c : UInt8} {k : Nat} (h : c.toNat ≠ k) : ((c.toNat : Int) == (k : Int)) = false := by rw [beq_eq_false_iff_ne]; omega

theorem ulenN_ascii {n b0 b1 b2 b3 : Nat} (h : b0 < 128) : ulenN n b0 b1 b2 b3 = 1 := by simp [ulenN, h]
theorem ulenN_none {n b0 b1 b2 b3 : Nat} (h : 128 ≤ b0) (h2 : b0 < 194 ∨ 244 < b0) : ulenN n b0 b1 b2 b3 = 0 := by
  have : need b0 = 0 := by
    unfold need
    repeat' split
    all_goals omega
  simp [ulenN, this]; omega
theorem ulenN_short {n b0 b1 b2 b3 N : Nat} (h : 128 ≤ b0) (hN : need b0 = N) (h2 : n < N) : ulenN n b0 b1 b2 b3 = 0 := by
  unfold ulenN
  rw [if_neg (by omega), hN]
  repeat' split
  all_goals first | rfl | omega
theorem ulenN_bad1 {n b0 b1 b2 b3 : Nat} (h : 128 ≤ b0) (h2 : b1 < lo b0 ∨ hi b0 < b1) : ulenN n b0 b1 b2 b3 = 0 := by
  unfold ulenN
  rw [if_neg (by omega)]
  repeat' split
  all_goals first | rfl | omega
theorem ulenN_bad2 {n b0 b1 b2 b3 N : Nat} (h : 128 ≤ b0) (hN : need b0 = N) (h3 : 2 < N) (h2 : b2 < 128 ∨ 191 < b2) : ulenN n b0 b1 b2 b3 = 0 := by
  unfold ulenN
  rw [if_neg (by omega), hN]
  repeat' split
  all_goals first | rfl | omega
theorem ulenN_bad3 {n b0 b1 b2 b3 N : Nat} (h : 128 ≤ b0) (hN : need b0 = N) (h3 : 3 < N) (h2 : b3 < 128 ∨ 191 < b3) : ulenN n b0 b1 b2 b3 = 0 := by
  unfold ulenN
  rw [if_neg (by omega), hN]
  repeat' split
  all_goals first | rfl | omega
theorem ulenN_good {n b0 b1 b2 b3 N : Nat} (h : 128 ≤ b0) (hN : need b0 = N) (h0 : 2 ≤ N) (h4 : N ≤ 4) (hn : N ≤ n) (h1 : lo b0 ≤ b1 ∧ b1 ≤ hi b0) (h2 : 2 < N → 128 ≤ b2 ∧ b2 ≤ 191) (h3 : 3 < N → 128 ≤ b3 ∧ b3 ≤ 191) : ulenN n b0 b1 b2 b3 = N := by
  unfold ulenN
  rw [if_neg (by omega), hN]
  repeat' split
  all_goals omega

/-- The lead byte's classes, in the walk's words. -/
theorem classes (c : UInt8) (h : 128 ≤ c.toNat) :
    ((194 ≤ (c.toNat : Int) ∧ (c.toNat : Int) ≤ 223) ∧ need c.toNat = 2 ∧ lo c.toNat = 128 ∧ hi c.toNat = 191) ∨
    ((224 ≤ (c.toNat : Int) ∧ (c.toNat : Int) ≤ 224 ∧ ((c.toNat : Int) == 224) = true) ∧ need c.toNat = 3 ∧ lo c.toNat = 160 ∧ hi c.toNat = 191) ∨
    ((225 ≤ (c.toNat : Int) ∧ (c.toNat : Int) ≤ 236 ∧ ((c.toNat : Int) == 224) = false) ∧ need c.toNat = 3 ∧ lo c.toNat = 128 ∧ hi c.toNat = 191) ∨
    ((237 ≤ (c.toNat : Int) ∧ (c.toNat : Int) ≤ 237 ∧ ((c.toNat : Int) == 224) = false ∧ ((c.toNat : Int) == 237) = true) ∧ need c.toNat = 3 ∧ lo c.toNat = 128 ∧ hi c.toNat = 159) ∨
    ((238 ≤ (c.toNat : Int) ∧ (c.toNat : Int) ≤ 238 ∧ ((c.toNat : Int) == 224) = false ∧ ((c.toNat : Int) == 237) = false ∧ ((c.toNat : Int) == 238) = true) ∧ need c.toNat = 3 ∧ lo c.toNat = 128 ∧ hi c.toNat = 191) ∨
    ((239 ≤ (c.toNat : Int) ∧ (c.toNat : Int) ≤ 239 ∧ ((c.toNat : Int) == 224) = false ∧ ((c.toNat : Int) == 237) = false ∧ ((c.toNat : Int) == 238) = false ∧ ((c.toNat : Int) == 239) = true) ∧ need c.toNat = 3 ∧ lo c.toNat = 128 ∧ hi c.toNat = 191) ∨
    ((240 ≤ (c.toNat : Int) ∧ (c.toNat : Int) ≤ 240 ∧ ((c.toNat : Int) == 224) = false ∧ ((c.toNat : Int) == 237) = false ∧ ((c.toNat : Int) == 238) = false ∧ ((c.toNat : Int) == 239) = false ∧ ((c.toNat : Int) == 240) = true) ∧ need c.toNat = 4 ∧ lo c.toNat = 144 ∧ hi c.toNat = 191) ∨
    ((241 ≤ (c.toNat : Int) ∧ (c.toNat : Int) ≤ 243 ∧ ((c.toNat : Int) == 224) = false ∧ ((c.toNat : Int) == 237) = false ∧ ((c.toNat : Int) == 238) = false ∧ ((c.toNat : Int) == 239) = false ∧ ((c.toNat : Int) == 240) = false) ∧ need c.toNat = 4 ∧ lo c.toNat = 128 ∧ hi c.toNat = 191) ∨
    ((244 ≤ (c.toNat : Int) ∧ (c.toNat : Int) ≤ 244 ∧ ((c.toNat : Int) == 224) = false ∧ ((c.toNat : Int) == 237) = false ∧ ((c.toNat : Int) == 238) = false ∧ ((c.toNat : Int) == 239) = false ∧ ((c.toNat : Int) == 240) = false ∧ ((c.toNat : Int) == 244) = true) ∧ need c.toNat = 4 ∧ lo c.toNat = 128 ∧ hi c.toNat = 143) ∨
    ((c.toNat : Int) < 194 ∧ ((c.toNat : Int) == 224) = false ∧ ((c.toNat : Int) == 237) = false ∧ ((c.toNat : Int) == 238) = false ∧ ((c.toNat : Int) == 239) = false ∧ ((c.toNat : Int) == 240) = false ∧ ((c.toNat : Int) == 244) = false) ∨
    (244 < (c.toNat : Int) ∧ ((c.toNat : Int) == 224) = false ∧ ((c.toNat : Int) == 237) = false ∧ ((c.toNat : Int) == 238) = false ∧ ((c.toNat : Int) == 239) = false ∧ ((c.toNat : Int) == 240) = false ∧ ((c.toNat : Int) == 244) = false) := by
  have hlt := c.toNat_lt
  generalize c.toNat = x at h hlt
  simp only [beq_iff_eq, beq_eq_false_iff_ne, need, lo, hi]
  by_cases h1 : x < 194
  · right; right; right; right; right; right; right; right; right; left; omega
  by_cases h2 : x ≤ 223
  · left
    refine ⟨by omega, ?_, ?_, ?_⟩ <;> (repeat' split) <;> omega
  by_cases h3 : x = 224
  · right; left; subst h3; decide
  by_cases h4 : x ≤ 236
  · right; right; left
    refine ⟨by omega, ?_, ?_, ?_⟩ <;> (repeat' split) <;> omega
  by_cases h5 : x = 237
  · right; right; right; left; subst h5; decide
  by_cases h6 : x = 238
  · right; right; right; right; left; subst h6; decide
  by_cases h7 : x = 239
  · right; right; right; right; right; left; subst h7; decide
  by_cases h8 : x = 240
  · right; right; right; right; right; right; left; subst h8; decide
  by_cases h9 : x ≤ 243
  · right; right; right; right; right; right; right; left
    refine ⟨by omega, ?_, ?_, ?_⟩ <;> (repeat' split) <;> omega
  by_cases h10 : x = 244
  · right; right; right; right; right; right; right; right; left; subst h10; decide
  · right; right; right; right; right; right; right; right; right; right; omega
end Go.Proofs.Qxb6603370aDoor
