import Derived.Test.Qxb6602049aRows
import Derived.Test.Qxb6602049aPlainA
import Derived.WalkKit
import Derived.WalkSpells
namespace Go.Proofs.Qxb6602049a
open Go.RowKit
open Plain

theorem cls_bool {a b : Bool} (h : a = b) : Ending.returned (.bool a) = .returned (.bool b) := by rw [h]

set_option maxHeartbeats 400000 in
theorem lower_any (c : Int) (w : World) :
    Calls Try.prog 18 #[.int .u8 c] w fun e w' => e = .returned (.bool (lowB c)) ∧ w' = w := by
  go_enter Try.func18, Try.ntmps18
  go_wp2
  all_goals
    go_ret
    exact ⟨cls_bool (by unfold lowB; rw [Bool.eq_iff_iff]; simp; omega), rfl⟩

set_option maxHeartbeats 400000 in
theorem upper_any (c : Int) (w : World) :
    Calls Try.prog 19 #[.int .u8 c] w fun e w' => e = .returned (.bool (uppB c)) ∧ w' = w := by
  go_enter Try.func19, Try.ntmps19
  go_wp2
  all_goals
    go_ret
    exact ⟨cls_bool (by unfold uppB; rw [Bool.eq_iff_iff]; simp; omega), rfl⟩

set_option maxHeartbeats 400000 in
theorem digit_any (c : Int) (w : World) :
    Calls Try.prog 33 #[.int .u8 c] w fun e w' => e = .returned (.bool (digB c)) ∧ w' = w := by
  go_enter Try.func33, Try.ntmps33
  go_wp2
  all_goals
    go_ret
    exact ⟨cls_bool (by unfold digB; rw [Bool.eq_iff_iff]; simp; omega), rfl⟩

end Go.Proofs.Qxb6602049a
