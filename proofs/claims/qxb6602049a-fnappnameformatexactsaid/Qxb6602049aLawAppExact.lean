import Derived.Test.Qxb6602049aWalkAppModel
namespace Go.Proofs.Qxb6602049a
open Go.RowKit
open Plain

set_option maxHeartbeats 400000 in
theorem bytes21_any (a : ByteArray) (ha : a.size ≤ maxLen) (w : World) :
    Calls Try.prog 21 #[.string a] w fun e w' => ∃ r : Bool, e = .returned (.bool r) ∧ w' = w := by
  unfold maxLen at ha
  go_enter Try.func21, Try.ntmps21
  go_wp2
  all_goals
    go_ret
    exact ⟨_, rfl, rfl⟩

set_option maxHeartbeats 1000000 in
theorem appExact_any (a : ByteArray) (ha : a.size ≤ maxLen) (w : World) :
    Calls Try.prog 6 #[.string a] w fun e w' => e = .returned (.bool true) ∧ w' = w := by
  go_enter Try.func6, Try.ntmps6
  go_wp2_with fail
  refine (bytes21_any a ha _).mono ?_
  rintro e w' ⟨r, rfl, rfl⟩
  cases r
  · go_wp2_with fail
    go_ret
    exact ⟨rfl, rfl⟩
  · by_cases h1 : a.size ≤ 65536
    · go_wp2_with fail
      refine (zzapp_any _ _ ha).mono ?_
      rintro e w' ⟨rfl, rfl⟩
      go_wp2_with fail
      refine (appModel_any _ _ ha).mono ?_
      rintro e w' ⟨rfl, rfl⟩
      go_wp2_with fail
      go_ret
      exact ⟨rfl, rfl⟩
    · go_wp2_with fail
      go_ret
      exact ⟨rfl, rfl⟩

end Go.Proofs.Qxb6602049a
