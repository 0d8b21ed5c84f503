import Derived.Test.Qxb6602049aWalkName
import Derived.Test.Qxb6602049aWalkCls
import Derived.Test.Qxb6602049aPlainC
namespace Go.Proofs.Qxb6602049a
open Go.RowKit
open Plain

set_option maxHeartbeats 400000 in
theorem bytes17_any (a : ByteArray) (ha : a.size ≤ maxLen) (w : World) :
    Calls Try.prog 17 #[.string a] w fun e w' => ∃ r : Bool, e = .returned (.bool r) ∧ w' = w := by
  unfold maxLen at ha
  go_enter Try.func17, Try.ntmps17
  go_wp2
  all_goals
    go_ret
    exact ⟨_, rfl, rfl⟩

set_option maxHeartbeats 1000000 in
theorem lower_law (s : ByteArray) (hs : s.size ≤ maxLen) (w : World) :
    Calls Try.prog 5 #[.string s] w fun e w' => e = .returned (.bool true) ∧ w' = w := by
  go_enter Try.func5, Try.ntmps5
  go_wp2_with fail
  refine (bytes17_any s hs _).mono ?_
  rintro e w' ⟨r, rfl, rfl⟩
  cases r
  · go_wp2_with fail
    go_ret
    exact ⟨rfl, rfl⟩
  · by_cases h1 : s.size ≤ 65536
    · go_wp2_with fail
      go_loop [3, 4, 5] (fun t u i => ∃ (k : Nat) (b d : Bool), k ≤ s.size ∧ i = .int .i64 k ∧ t = .bool b ∧ u = .bool d ∧ AtL s k b ∧ AtU s k d) (fun _ _ i => s.size - (intOf i).toNat)
      case atStart => exact ⟨0, false, false, Nat.zero_le _, rfl, rfl, rfl, atL_zero _, atU_zero _⟩
      case round =>
        obtain ⟨k, b, d, hk, rfl, rfl, rfl, HL, HU⟩ := hrel
        by_cases hlt : k < s.size
        · go_wp2_with (first | (go_at_call 18; refine (lower_any _ _).mono ?_; rintro e w' ⟨rfl, rfl⟩) | (go_at_call 19; refine (upper_any _ _).mono ?_; rintro e w' ⟨rfl, rfl⟩))
          · go_round
            case rel => exact ⟨k + 1, true, true, by omega, by go_num, rfl, rfl, atL_low HL hlt ‹_›, atU_upp HU hlt ‹_›⟩
            case measure => simp [intOf]; omega
          · go_round
            case rel => exact ⟨k + 1, true, d, by omega, by go_num, rfl, rfl, atL_low HL hlt ‹_›, atU_not HU hlt ‹_›⟩
            case measure => simp [intOf]; omega
          · go_round
            case rel => exact ⟨k + 1, b, true, by omega, by go_num, rfl, rfl, atL_not HL hlt ‹_›, atU_upp HU hlt ‹_›⟩
            case measure => simp [intOf]; omega
          · go_round
            case rel => exact ⟨k + 1, b, d, by omega, by go_num, rfl, rfl, atL_not HL hlt ‹_›, atU_not HU hlt ‹_›⟩
            case measure => simp [intOf]; omega
        · have hl : Hid (anyLow (codes s) = b) := atL_end HL hlt
          have hu : Hid (anyUpp (codes s) = d) := atU_end HU hlt
          clear HL HU
          go_wp2_with fail
          refine (zzname_any _ _ hs).mono ?_
          rintro e w' ⟨rfl, rfl⟩
          go_wp2_with fail
          refine (zzapp_any _ _ hs).mono ?_
          rintro e w' ⟨rfl, rfl⟩
          go_wp2_with fail
          · go_ret
            exact ⟨ret_bool (by rw [lower_app, hl.out, hu.out]; simp [*]), rfl⟩
          · go_ret
            exact ⟨ret_bool (by rw [lower_app, hl.out, hu.out]; simp [*]), rfl⟩
          · go_ret
            exact ⟨ret_bool (by rw [lower_app, hl.out, hu.out]; simp [*]), rfl⟩
    · go_wp2_with fail
      go_ret
      exact ⟨rfl, rfl⟩

end Go.Proofs.Qxb6602049a
