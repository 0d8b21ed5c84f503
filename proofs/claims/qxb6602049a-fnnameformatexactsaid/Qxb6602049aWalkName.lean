import Derived.Test.Qxb6602049aWalkApp
import Derived.Test.Qxb6602049aPlainN
namespace Go.Proofs.Qxb6602049a
open Go.RowKit
open Plain

set_option maxHeartbeats 400000 in
theorem name_any (s : ByteArray) (w : World) (hs : s.size ≤ maxLen) :
    Calls Try.prog 30 #[.string s] w fun e w' => e = .returned (.string (nameMsg (codes s))) ∧ w' = w := by
  unfold maxLen at hs
  by_cases hz : s.size = 0
  · have he : s.toList.isEmpty = true := by rw [isEmpty_size]; simp [hz]
    have HR : Hid (nameMsg (codes s) = mNameEmpty) := name_empty hz
    clear hz
    go_enter Try.func30, Try.ntmps30
    go_wp2
    go_ret
    exact ⟨ret_str HR.out.symm, rfl⟩
  · have he : s.toList.isEmpty = false := by rw [isEmpty_size]; simp [hz]
    have hpos : 0 < s.size := by omega
    clear hz
    go_enter Try.func30, Try.ntmps30
    go_wp2
    go_loop [3, 4] (fun t i => ∃ (k : Nat) (b : Bool), k ≤ s.size ∧ i = .int .i64 k ∧ t = .bool b ∧ At nameB s k ∧ AtL s k b) (fun _ i => s.size - (intOf i).toNat)
    case atStart => exact ⟨0, false, Nat.zero_le _, rfl, rfl, at_zero _ _, atL_zero _⟩
    case round =>
      obtain ⟨k, b, hk, rfl, rfl, HS, HL⟩ := hrel
      by_cases hlt : k < s.size
      · cases k with
        | zero =>
          go_wp2
          · go_round
            case rel => exact ⟨1, true, by omega, rfl, rfl, at_ok HS hpos (not_hy (by omega)) (low_ok (by omega) (by omega)), atL_low HL hpos (low_yes (by omega) (by omega))⟩
            case measure => simp [intOf]; omega
          · go_ret
            exact ⟨ret_str (name_bad hpos (at_bad HS hpos ‹_› (name_no (by omega) (by omega)))).symm, rfl⟩
          · go_round
            case rel => exact ⟨1, b, by omega, rfl, rfl, at_hy HS hpos ‹_› rfl, atL_not HL hpos (low_no (by omega))⟩
            case measure => simp [intOf]; omega
          · go_ret
            exact ⟨ret_str (name_bad hpos (at_bad HS hpos ‹_› (name_no (by omega) (by omega)))).symm, rfl⟩
          · go_round
            case rel => exact ⟨1, b, by omega, rfl, rfl, at_ok HS hpos ‹_› (dig_ok (by omega) (by omega)), atL_not HL hpos (low_no (by omega))⟩
            case measure => simp [intOf]; omega
          · go_ret
            exact ⟨ret_str (name_bad hpos (at_bad HS hpos ‹_› (name_no (by omega) (by omega)))).symm, rfl⟩
        | succ j =>
          have hj : j < s.size := by omega
          go_wp2
          · go_round
            case rel => exact ⟨j + 2, true, by omega, by go_num, rfl, at_ok HS hlt (not_hy (by omega)) (low_ok (by omega) (by omega)), atL_low HL hlt (low_yes (by omega) (by omega))⟩
            case measure => simp [intOf]; omega
          · go_ret
            exact ⟨ret_str (name_bad hpos (at_bad HS hlt ‹_› (name_no (by omega) (by omega)))).symm, rfl⟩
          · go_ret
            exact ⟨ret_str (name_dbl hpos (at_dbl HS hlt ‹_› (by rw [prevH_succ s j hj]; assumption))).symm, rfl⟩
          · go_round
            case rel => exact ⟨j + 2, b, by omega, by go_num, rfl, at_hy HS hlt ‹_› (by rw [prevH_succ s j hj]; assumption), atL_not HL hlt (low_no (by omega))⟩
            case measure => simp [intOf]; omega
          · go_ret
            exact ⟨ret_str (name_bad hpos (at_bad HS hlt ‹_› (name_no (by omega) (by omega)))).symm, rfl⟩
          · go_round
            case rel => exact ⟨j + 2, b, by omega, by go_num, rfl, at_ok HS hlt ‹_› (dig_ok (by omega) (by omega)), atL_not HL hlt (low_no (by omega))⟩
            case measure => simp [intOf]; omega
          · go_ret
            exact ⟨ret_str (name_bad hpos (at_bad HS hlt ‹_› (name_no (by omega) (by omega)))).symm, rfl⟩
      · have hend : Hid (scan nameB false (codes s) = 0) := at_end HS hlt
        have hl : Hid (anyLow (codes s) = b) := atL_end HL hlt
        cases b
        · go_wp2
          go_ret
          exact ⟨ret_str (name_letter hpos hend.out hl.out).symm, rfl⟩
        · go_wp2
          · go_ret
            exact ⟨ret_str (name_edge hpos hend.out hl.out (.inl ‹_›)).symm, rfl⟩
          · go_ret
            exact ⟨ret_str (name_edge hpos hend.out hl.out (.inr ‹_›)).symm, rfl⟩
          · go_ret
            exact ⟨ret_str (name_fine hpos hend.out hl.out ‹_›).symm, rfl⟩

set_option maxHeartbeats 400000 in
theorem zzname_any (s : ByteArray) (w : World) (hs : s.size ≤ maxLen) :
    Calls Try.prog 13 #[.string s] w fun e w' => e = .returned (.string (nameMsg (codes s))) ∧ w' = w := by
  go_enter Try.func13, Try.ntmps13
  go_wp2_with (go_at_call 30; refine (name_any _ _ hs).mono ?_; rintro e w' ⟨rfl, rfl⟩)
  go_ret
  exact ⟨rfl, rfl⟩

end Go.Proofs.Qxb6602049a
