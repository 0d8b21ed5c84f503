import Derived.Test.Qxb6602049aWalkVer
import Derived.Test.Qxb6602049aWalkVerModel
namespace Go.Proofs.Qxb6602049a
open Go.RowKit
open Plain

set_option maxHeartbeats 400000 in
theorem bytes25_any (a : ByteArray) (ha : a.size ≤ maxLen) (w : World) :
    Calls Try.prog 25 #[.string a] w fun e w' => ∃ r : Bool, e = .returned (.bool r) ∧ w' = w := by
  unfold maxLen at ha
  go_enter Try.func25, Try.ntmps25
  go_wp2
  all_goals
    go_ret
    exact ⟨_, rfl, rfl⟩

set_option maxHeartbeats 1000000 in
theorem verExact_any (a : ByteArray) (ha : a.size ≤ maxLen) (w : World) :
    Calls Try.prog 9 #[.string a] w fun e w' => e = .returned (.bool true) ∧ w' = w := by
  go_enter Try.func9, Try.ntmps9
  go_wp2_with fail
  refine (bytes25_any a ha _).mono ?_
  rintro e w' ⟨r, rfl, rfl⟩
  cases r
  · go_wp2_with fail
    go_ret
    exact ⟨rfl, rfl⟩
  · by_cases h1 : a.size ≤ 65536
    · go_wp2_with fail
      refine (zzver_any _ _ ha).mono ?_
      rintro e w' ⟨rfl, rfl⟩
      go_wp2_with fail
      refine (verModel_any _ _ ha).mono ?_
      rintro e w' ⟨rfl, rfl⟩
      go_wp2_with fail
      go_ret
      exact ⟨rfl, rfl⟩
    · go_wp2_with fail
      go_ret
      exact ⟨rfl, rfl⟩

end Go.Proofs.Qxb6602049a
