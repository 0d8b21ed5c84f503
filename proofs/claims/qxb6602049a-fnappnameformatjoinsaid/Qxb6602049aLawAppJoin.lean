import Derived.Test.Qxb6602049aWalkApp
import Derived.Test.Qxb6602049aPlainB
namespace Go.Proofs.Qxb6602049a
open Go.RowKit
open Plain

set_option maxHeartbeats 400000 in
theorem bytes24_any (a b : ByteArray) (ha : a.size ≤ maxLen) (hb : b.size ≤ maxLen) (w : World) :
    Calls Try.prog 24 #[.string a, .string b] w fun e w' => ∃ r : Bool, e = .returned (.bool r) ∧ w' = w := by
  unfold maxLen at ha hb
  go_enter Try.func24, Try.ntmps24
  go_wp2
  all_goals
    go_ret
    exact ⟨_, rfl, rfl⟩

theorem fit2 {a b : ByteArray} (h1 : a.size ≤ 65536) (h2 : b.size ≤ 65536) : (a ++ b).size ≤ maxLen := by
  rw [ByteArray.size_append]
  unfold maxLen
  omega

theorem fit3 {a m b : ByteArray} (h1 : a.size ≤ 65536) (hm : m.size ≤ 65536) (h2 : b.size ≤ 65536) : (a ++ m ++ b).size ≤ maxLen := by
  rw [ByteArray.size_append, ByteArray.size_append]
  unfold maxLen
  omega

set_option maxHeartbeats 1000000 in
theorem appJoin_any (a b : ByteArray) (ha : a.size ≤ maxLen) (hb : b.size ≤ maxLen) (w : World) :
    Calls Try.prog 8 #[.string a, .string b] w fun e w' => e = .returned (.bool true) ∧ w' = w := by
  go_enter Try.func8, Try.ntmps8
  go_wp2_with fail
  refine (bytes24_any a b ha hb _).mono ?_
  rintro e w' ⟨r, rfl, rfl⟩
  cases r
  · go_wp2_with fail
    go_ret
    exact ⟨rfl, rfl⟩
  · by_cases h1 : a.size ≤ 65536
    · by_cases h2 : b.size ≤ 65536
      · cases hA : (appMsg (codes a)).toList.isEmpty
        · go_wp2_with fail
          refine (zzapp_any _ _ ha).mono ?_
          rintro e w' ⟨rfl, rfl⟩
          go_wp2_with fail
          go_ret
          exact ⟨rfl, rfl⟩
        · cases hB : (appMsg (codes b)).toList.isEmpty
          · go_wp2_with fail
            refine (zzapp_any _ _ ha).mono ?_
            rintro e w' ⟨rfl, rfl⟩
            go_wp2_with fail
            refine (zzapp_any _ _ hb).mono ?_
            rintro e w' ⟨rfl, rfl⟩
            go_wp2_with fail
            go_ret
            exact ⟨rfl, rfl⟩
          · go_wp2_with fail
            refine (zzapp_any _ _ ha).mono ?_
            rintro e w' ⟨rfl, rfl⟩
            go_wp2_with fail
            refine (zzapp_any _ _ hb).mono ?_
            rintro e w' ⟨rfl, rfl⟩
            have okA := app_ok_of hA
            have okB := app_ok_of hB
            go_wp2_with fail
            refine (zzapp_any _ _ (fit2 h1 h2)).mono ?_
            rintro e w' ⟨rfl, rfl⟩
            rw [go_glued okA okB]
            go_wp2_with fail
            refine (zzapp_any _ _ (fit3 h1 (by decide) h2)).mono ?_
            rintro e w' ⟨rfl, rfl⟩
            rw [go_hyphen okA okB]
            go_wp2_with fail
            refine (zzapp_any _ _ (fit3 h1 (by decide) h2)).mono ?_
            rintro e w' ⟨rfl, rfl⟩
            rw [go_double okA, mAppDouble]
            go_wp2_with fail
            refine (zzapp_any _ _ (fit2 (by decide) h1)).mono ?_
            rintro e w' ⟨rfl, rfl⟩
            rw [go_before okA, mAppEdge]
            go_wp2_with fail
            refine (zzapp_any _ _ (fit2 h1 (by decide))).mono ?_
            rintro e w' ⟨rfl, rfl⟩
            rw [go_behind okA, mAppEdge]
            go_wp2_with fail
            refine (zzapp_any _ _ (fit3 h1 (by decide) h2)).mono ?_
            rintro e w' ⟨rfl, rfl⟩
            rw [go_under okA, mAppChars]
            go_wp2_with fail
            refine (zzapp_any _ _ (fit3 h1 (by decide) h2)).mono ?_
            rintro e w' ⟨rfl, rfl⟩
            rw [go_dot okA, mAppChars]
            go_wp2_with fail
            go_ret
            exact ⟨rfl, rfl⟩
      · go_wp2_with fail
        go_ret
        exact ⟨rfl, rfl⟩
    · go_wp2_with fail
      go_ret
      exact ⟨rfl, rfl⟩

end Go.Proofs.Qxb6602049a
