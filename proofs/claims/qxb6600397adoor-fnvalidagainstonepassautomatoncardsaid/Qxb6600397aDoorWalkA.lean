import Derived.Test.Qxb6600397aDoorRows
import Derived.Test.Qxb6600397aDoorPlain
import Derived.WalkKit
import Derived.WalkSpells
import Derived.WalkLawsBesides
namespace Go.Proofs.Qxb6600397aDoor
open Go.RowKit

def wbI (c : Int) : Bool := decide (97 ≤ c ∧ c ≤ 122 ∨ 65 ≤ c ∧ c ≤ 90 ∨ 48 ≤ c ∧ c ≤ 57 ∨ c = 95)

theorem wbI_wb (c : UInt8) : wbI (c.toNat : Int) = wb c := by
  unfold wbI wb
  rw [Bool.eq_iff_iff]
  simp [UInt8.le_iff_toNat_le, ← UInt8.toNat_inj]
  omega

theorem ret_bool {a b : Bool} (h : a = true ↔ b = true) : Ending.returned (.bool a) = .returned (.bool b) := by rw [Bool.eq_iff_iff.2 h]
set_option linter.unusedSimpArgs false
set_option maxHeartbeats 400000 in
theorem wordByte_any (c : Int) (w : World) :
    Calls Tryd.prog 10 #[.int .u8 c] w fun e w' => e = .returned (.bool (wbI c)) ∧ w' = w := by
  go_enter Tryd.func10, Tryd.ntmps10
  go_wp2
  all_goals
    go_ret
    refine ⟨ret_bool ?_, rfl⟩
    simp only [wbI, Bool.or_eq_true, decide_eq_true_eq, decide_eq_false_iff_not, beq_iff_eq, beq_eq_false_iff_ne, ne_eq, Bool.false_eq_true, false_iff, true_iff] at *
    omega
set_option maxHeartbeats 400000 in
theorem wordByte2_any (c : Int) (w : World) :
    Calls Tryd.prog 11 #[.int .u8 c] w fun e w' => e = .returned (.bool (wbI c)) ∧ w' = w := by
  go_enter Tryd.func11, Tryd.ntmps11
  go_wp2
  all_goals
    go_ret
    refine ⟨ret_bool ?_, rfl⟩
    simp only [wbI, Bool.or_eq_true, decide_eq_true_eq, decide_eq_false_iff_not, beq_iff_eq, beq_eq_false_iff_ne, ne_eq, Bool.false_eq_true, false_iff, true_iff] at *
    omega
end Go.Proofs.Qxb6600397aDoor
