import Derived.Test.Qxb6602049aWalkName
import Derived.Test.Qxb6602049aWalkVer
import Derived.Test.Qxb6602049aPlainC
namespace Go.Proofs.Qxb6602049a
open Go.RowKit
open Plain

set_option maxHeartbeats 400000 in
theorem bytes29_any (a : ByteArray) (ha : a.size ≤ maxLen) (w : World) :
    Calls Try.prog 29 #[.string a] w fun e w' => ∃ r : Bool, e = .returned (.bool r) ∧ w' = w := by
  unfold maxLen at ha
  go_enter Try.func29, Try.ntmps29
  go_wp2
  all_goals
    go_ret
    exact ⟨_, rfl, rfl⟩

set_option maxHeartbeats 1000000 in
theorem chain_any (a : ByteArray) (ha : a.size ≤ maxLen) (w : World) :
    Calls Try.prog 11 #[.string a] w fun e w' => e = .returned (.bool true) ∧ w' = w := by
  by_cases h1 : a.size ≤ 65536
  · go_enter Try.func11, Try.ntmps11
    go_wp2_with fail
    refine (bytes29_any a ha _).mono ?_
    rintro e w' ⟨r, rfl, rfl⟩
    cases r
    · go_wp2_with fail
      go_ret
      exact ⟨rfl, rfl⟩
    rcases chain (codes a) with ⟨hN, hA, hV⟩ | ⟨hN, hA, hV⟩ | ⟨hN, hA⟩
    · go_wp2_with fail
      refine (zzname_any _ _ ha).mono ?_
      rintro e w' ⟨rfl, rfl⟩
      go_wp2_with fail
      refine (zzapp_any _ _ ha).mono ?_
      rintro e w' ⟨rfl, rfl⟩
      go_wp2_with fail
      refine (zzver_any _ _ ha).mono ?_
      rintro e w' ⟨rfl, rfl⟩
      go_wp2_with fail
      go_ret
      exact ⟨rfl, rfl⟩
    · go_wp2_with fail
      refine (zzname_any _ _ ha).mono ?_
      rintro e w' ⟨rfl, rfl⟩
      go_wp2_with fail
      refine (zzapp_any _ _ ha).mono ?_
      rintro e w' ⟨rfl, rfl⟩
      go_wp2_with fail
      refine (zzver_any _ _ ha).mono ?_
      rintro e w' ⟨rfl, rfl⟩
      go_wp2_with fail
      go_ret
      exact ⟨rfl, rfl⟩
    · go_wp2_with fail
      refine (zzname_any _ _ ha).mono ?_
      rintro e w' ⟨rfl, rfl⟩
      go_wp2_with fail
      refine (zzapp_any _ _ ha).mono ?_
      rintro e w' ⟨rfl, rfl⟩
      go_wp2_with fail
      refine (zzver_any _ _ ha).mono ?_
      rintro e w' ⟨rfl, rfl⟩
      go_wp2_with fail
      go_ret
      exact ⟨rfl, rfl⟩
  · go_enter Try.func11, Try.ntmps11
    go_wp2_with fail
    refine (bytes29_any a ha _).mono ?_
    rintro e w' ⟨r, rfl, rfl⟩
    cases r
    · go_wp2_with fail
      go_ret
      exact ⟨rfl, rfl⟩
    · go_wp2_with fail
      go_ret
      exact ⟨rfl, rfl⟩

end Go.Proofs.Qxb6602049a
