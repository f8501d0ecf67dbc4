import Derived.Test.Qxb6604040aDoorRows
import Derived.WalkKit
import Derived.WalkSpells
import Derived.WalkLawsBesides
namespace Go.Proofs.Qxb6604040aDoor
open Go.RowKit

def spB (b : Nat) : Bool := decide (b = 32 ∨ (9 ≤ b ∧ b ≤ 13))
def wdB (b : Nat) : Bool := decide ((65 ≤ b ∧ b ≤ 90) ∨ (97 ≤ b ∧ b ≤ 122) ∨ b = 95)

theorem ret_bool {a b : Bool} (h : a = b) : Ending.returned (.bool a) = .returned (.bool b) := by rw [h]

set_option maxHeartbeats 400000 in
theorem isSpace_any (b : Nat) (w : World) :
    Calls Tryd.prog 29 #[.int .u8 b] w fun e w' => e = .returned (.bool (spB b)) ∧ w' = w := by
  go_enter Tryd.func29, Tryd.ntmps29
  go_wp2
  all_goals
    go_ret
    refine ⟨ret_bool ?_, rfl⟩
    unfold spB
    rw [Bool.eq_iff_iff]
    simp
    omega
set_option maxHeartbeats 400000 in
theorem isWord_any (b : Nat) (w : World) :
    Calls Tryd.prog 28 #[.int .u8 b] w fun e w' => e = .returned (.bool (wdB b)) ∧ w' = w := by
  go_enter Tryd.func28, Tryd.ntmps28
  go_wp2
  all_goals
    go_ret
    refine ⟨ret_bool ?_, rfl⟩
    unfold wdB
    rw [Bool.eq_iff_iff]
    simp
    omega
end Go.Proofs.Qxb6604040aDoor
