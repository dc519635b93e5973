import Derived.Test.Qxb6603002aDoorLeaf
import Derived.Test.Qxb6603002aDoorPlain
namespace Go.Proofs.Qxb6603002aDoor
open Go Go.RowKit

set_option maxHeartbeats 2000000 in
theorem alpha_calls (c : UInt8) (w : World) : Calls Tryd.prog 12 #[.int .u8 (c.toNat : Int)] w fun e w' => e = .returned (.bool (alpha c)) ∧ w' = w := by
  obtain ⟨r, hr⟩ : ∃ r, alpha c = r := ⟨_, rfl⟩
  rw [hr]
  have e43 : ((c.toNat : Int) == 43) = (c == 43) := by
    rw [Bool.eq_iff_iff, beq_iff_eq, beq_iff_eq, ← UInt8.toNat_inj]; simp; omega
  have e47 : ((c.toNat : Int) == 47) = (c == 47) := by
    rw [Bool.eq_iff_iff, beq_iff_eq, beq_iff_eq, ← UInt8.toNat_inj]; simp; omega
  have e61 : ((c.toNat : Int) == 61) = (c == 61) := by
    rw [Bool.eq_iff_iff, beq_iff_eq, beq_iff_eq, ← UInt8.toNat_inj]; simp; omega
  unfold alpha at hr
  generalize (c == 43) = b1 at e43 hr
  generalize (c == 47) = b2 at e47 hr
  generalize (c == 61) = b3 at e61 hr
  have HR : Hid ((decide (65 ≤ c.toNat ∧ c.toNat ≤ 90) || decide (97 ≤ c.toNat ∧ c.toNat ≤ 122) || decide (48 ≤ c.toNat ∧ c.toNat ≤ 57) || b1 || b2 || b3) = r) := hr
  clear hr
  generalize c.toNat = n at *
  cases b1 <;> cases b2 <;> cases b3
  all_goals
    go_enter Tryd.func12, Tryd.ntmps12
    go_wp2
    all_goals
      go_ret
      refine ⟨?_, rfl⟩
      have := HR.out
      rw [← this]
      first
        | (simp; done)
        | (refine congrArg (fun b => Ending.returned (Value.bool b)) (Bool.eq_iff_iff.2 ?_); simp; omega)
        | (refine congrArg (fun b => Ending.returned (Value.bool b)) (Bool.eq_iff_iff.2 ?_); simp only [Bool.or_eq_true, Bool.and_eq_true, decide_eq_true_eq, Bool.false_eq_true, or_false, or_true, true_or, true_iff, iff_true]; omega)
end Go.Proofs.Qxb6603002aDoor
