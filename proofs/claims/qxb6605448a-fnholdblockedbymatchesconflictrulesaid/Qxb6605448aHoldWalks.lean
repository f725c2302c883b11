import Derived.Test.Qxb6605448aRows
import Derived.WalkKit
import Derived.ProofKit
import Derived.OpenShut
namespace Go.Proofs.Qxb6605448a
open Go.ChangeShapes Go.WideShapes Go.ChangeAt Go.RowKit

/-- what blocks a hold -/
def blk (a : Int) : Int := if a = 16 then 0 else if a = 32 then 6 else if a = 2 then 37 else if a = 4 then 39 else 6

/-- is it one of the five kinds -/
def isK (a : Int) : Bool := a == 1 || a == 2 || a == 4 || a == 32 || a == 16

theorem ret_u8 {a b : Int} (h : a = b) : Ending.returned (.int .u8 a) = .returned (.int .u8 b) := by rw [h]
theorem ret_bool {a b : Bool} (h : a = b) : Ending.returned (.bool a) = .returned (.bool b) := by rw [h]

set_option maxHeartbeats 400000 in
theorem blocked_any (a : Int) (w : World) :
    Calls Try.prog 31 #[.int .u8 a] w fun e w' => e = .returned (.int .u8 (blk a)) ∧ w' = w := by
  go_enter Try.func31, Try.ntmps31
  go_wp2
  all_goals go_ret
  all_goals exact ⟨ret_u8 (by simp_all [blk]), rfl⟩

set_option maxHeartbeats 400000 in
theorem zzblocked_any (a : Int) (w : World) :
    Calls Try.prog 19 #[.int .u8 a] w fun e w' => e = .returned (.int .u8 (blk a)) ∧ w' = w := by
  go_enter Try.func19, Try.ntmps19
  go_wp2_with (go_at_call 31; refine (blocked_any _ _).mono ?_; rintro e w' ⟨rfl, rfl⟩)
  go_ret
  exact ⟨rfl, rfl⟩

set_option maxHeartbeats 400000 in
theorem iskind_any (a : Int) (w : World) :
    Calls Try.prog 16 #[.int .u8 a] w fun e w' => e = .returned (.bool (isK a)) ∧ w' = w := by
  go_enter Try.func16, Try.ntmps16
  go_wp2
  all_goals go_ret
  all_goals exact ⟨ret_bool (by simp_all [isK]), rfl⟩

end Go.Proofs.Qxb6605448a
