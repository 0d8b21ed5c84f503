import Derived.Test.Qxb6602049aWalkVer
import Derived.Test.Qxb6602049aPlainW
namespace Go.Proofs.Qxb6602049a
open Go.RowKit
open Plain

set_option maxHeartbeats 400000 in
theorem bytes28_any (a b : ByteArray) (ha : a.size ≤ maxLen) (hb : b.size ≤ maxLen) (w : World) :
    Calls Try.prog 28 #[.string a, .string b] w fun e w' => ∃ r : Bool, e = .returned (.bool r) ∧ w' = w := by
  unfold maxLen at ha hb
  go_enter Try.func28, Try.ntmps28
  go_wp2
  all_goals
    go_ret
    exact ⟨_, rfl, rfl⟩

theorem vfit2 {a b : ByteArray} (h1 : a.size ≤ 65536) (h2 : b.size ≤ 65536) : (a ++ b).size ≤ maxLen := by
  rw [ByteArray.size_append]
  unfold maxLen
  omega

theorem vfit3 {a m b : ByteArray} (h1 : a.size ≤ 65536) (hm : m.size ≤ 65536) (h2 : b.size ≤ 65536) : (a ++ m ++ b).size ≤ maxLen := by
  rw [ByteArray.size_append, ByteArray.size_append]
  unfold maxLen
  omega

set_option maxHeartbeats 1000000 in
theorem verJoin_any (a b : ByteArray) (ha : a.size ≤ maxLen) (hb : b.size ≤ maxLen) (w : World) :
    Calls Try.prog 10 #[.string a, .string b] w fun e w' => e = .returned (.bool true) ∧ w' = w := by
  go_enter Try.func10, Try.ntmps10
  go_wp2_with fail
  refine (bytes28_any a b ha hb _).mono ?_
  rintro e w' ⟨r, rfl, rfl⟩
  cases r
  · go_wp2_with fail
    go_ret
    exact ⟨rfl, rfl⟩
  · by_cases h1 : a.size ≤ 65536
    · by_cases h2 : b.size ≤ 65536
      · cases hA : (verMsg (codes a)).toList.isEmpty
        · go_wp2_with fail
          refine (zzver_any _ _ ha).mono ?_
          rintro e w' ⟨rfl, rfl⟩
          go_wp2_with fail
          go_ret
          exact ⟨rfl, rfl⟩
        · cases hB : (verMsg (codes b)).toList.isEmpty
          · go_wp2_with fail
            refine (zzver_any _ _ ha).mono ?_
            rintro e w' ⟨rfl, rfl⟩
            go_wp2_with fail
            refine (zzver_any _ _ hb).mono ?_
            rintro e w' ⟨rfl, rfl⟩
            go_wp2_with fail
            go_ret
            exact ⟨rfl, rfl⟩
          · go_wp2_with fail
            refine (zzver_any _ _ ha).mono ?_
            rintro e w' ⟨rfl, rfl⟩
            go_wp2_with fail
            refine (zzver_any _ _ hb).mono ?_
            rintro e w' ⟨rfl, rfl⟩
            have okA := ver_ok_of hA
            have okB := ver_ok_of hB
            go_wp2_with fail
            refine (zzver_any _ _ (vfit2 h1 h2)).mono ?_
            rintro e w' ⟨rfl, rfl⟩
            rw [vgo_glued okA okB]
            clear hA hB
            go_wp2_with fail
            go_loop [5] (fun i => ∃ k : Nat, k ≤ 5 ∧ i = .int .i64 k) (fun i => 5 - (intOf i).toNat)
            case atStart => exact ⟨0, by omega, rfl⟩
            case round =>
              obtain ⟨k, hk, rfl⟩ := hrel
              have hcase : k = 0 ∨ k = 1 ∨ k = 2 ∨ k = 3 ∨ k = 4 ∨ k = 5 := by omega
              rcases hcase with rfl | rfl | rfl | rfl | rfl | rfl
              · go_wp2_with fail
                refine (zzver_any _ _ (vfit3 h1 sepSize0 h2)).mono ?_
                rintro e w' ⟨rfl, rfl⟩
                rw [vgo_joined 43 sep0 (by decide) okA okB]
                go_wp2_with fail
                refine (zzver_any _ _ (vfit2 sepSize0 h1)).mono ?_
                rintro e w' ⟨rfl, rfl⟩
                rw [vgo_before 43 sep0 (by decide) (by decide) okA, mVerStart]
                go_wp2_with fail
                refine (zzver_any _ _ (vfit2 h1 sepSize0)).mono ?_
                rintro e w' ⟨rfl, rfl⟩
                rw [vgo_behind 43 sep0 (by decide) (by decide) okA]
                go_wp2_with fail
                go_round
                case rel => exact ⟨1, by omega, rfl⟩
                case measure => simp [intOf]
              · go_wp2_with fail
                refine (zzver_any _ _ (vfit3 h1 sepSize1 h2)).mono ?_
                rintro e w' ⟨rfl, rfl⟩
                rw [vgo_joined 126 sep1 (by decide) okA okB]
                go_wp2_with fail
                refine (zzver_any _ _ (vfit2 sepSize1 h1)).mono ?_
                rintro e w' ⟨rfl, rfl⟩
                rw [vgo_before 126 sep1 (by decide) (by decide) okA, mVerStart]
                go_wp2_with fail
                refine (zzver_any _ _ (vfit2 h1 sepSize1)).mono ?_
                rintro e w' ⟨rfl, rfl⟩
                rw [vgo_behind 126 sep1 (by decide) (by decide) okA]
                go_wp2_with fail
                go_round
                case rel => exact ⟨2, by omega, rfl⟩
                case measure => simp [intOf]
              · go_wp2_with fail
                refine (zzver_any _ _ (vfit3 h1 sepSize2 h2)).mono ?_
                rintro e w' ⟨rfl, rfl⟩
                rw [vgo_joined 46 sep2 (by decide) okA okB]
                go_wp2_with fail
                refine (zzver_any _ _ (vfit2 sepSize2 h1)).mono ?_
                rintro e w' ⟨rfl, rfl⟩
                rw [vgo_before 46 sep2 (by decide) (by decide) okA, mVerStart]
                go_wp2_with fail
                refine (zzver_any _ _ (vfit2 h1 sepSize2)).mono ?_
                rintro e w' ⟨rfl, rfl⟩
                rw [vgo_open 46 sep2 (by decide) (by decide) okA, mVerEnd]
                go_wp2_with fail
                go_round
                case rel => exact ⟨3, by omega, rfl⟩
                case measure => simp [intOf]
              · go_wp2_with fail
                refine (zzver_any _ _ (vfit3 h1 sepSize3 h2)).mono ?_
                rintro e w' ⟨rfl, rfl⟩
                rw [vgo_joined 58 sep3 (by decide) okA okB]
                go_wp2_with fail
                refine (zzver_any _ _ (vfit2 sepSize3 h1)).mono ?_
                rintro e w' ⟨rfl, rfl⟩
                rw [vgo_before 58 sep3 (by decide) (by decide) okA, mVerStart]
                go_wp2_with fail
                refine (zzver_any _ _ (vfit2 h1 sepSize3)).mono ?_
                rintro e w' ⟨rfl, rfl⟩
                rw [vgo_open 58 sep3 (by decide) (by decide) okA, mVerEnd]
                go_wp2_with fail
                go_round
                case rel => exact ⟨4, by omega, rfl⟩
                case measure => simp [intOf]
              · go_wp2_with fail
                refine (zzver_any _ _ (vfit3 h1 sepSize4 h2)).mono ?_
                rintro e w' ⟨rfl, rfl⟩
                rw [vgo_joined 45 sep4 (by decide) okA okB]
                go_wp2_with fail
                refine (zzver_any _ _ (vfit2 sepSize4 h1)).mono ?_
                rintro e w' ⟨rfl, rfl⟩
                rw [vgo_before 45 sep4 (by decide) (by decide) okA, mVerStart]
                go_wp2_with fail
                refine (zzver_any _ _ (vfit2 h1 sepSize4)).mono ?_
                rintro e w' ⟨rfl, rfl⟩
                rw [vgo_open 45 sep4 (by decide) (by decide) okA, mVerEnd]
                go_wp2_with fail
                go_round
                case rel => exact ⟨5, by omega, rfl⟩
                case measure => simp [intOf]
              · go_wp2_with fail
                refine (zzver_any _ _ (vfit3 h1 (by decide) h2)).mono ?_
                rintro e w' ⟨rfl, rfl⟩
                rw [vgo_under okA, mVerChars]
                go_wp2_with fail
                go_ret
                exact ⟨rfl, rfl⟩
      · go_wp2_with fail
        go_ret
        exact ⟨rfl, rfl⟩
    · go_wp2_with fail
      go_ret
      exact ⟨rfl, rfl⟩

end Go.Proofs.Qxb6602049a
