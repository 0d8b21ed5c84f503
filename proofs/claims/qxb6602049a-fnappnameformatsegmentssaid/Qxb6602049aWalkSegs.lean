import Derived.Test.Qxb6602049aWalkApp
import Derived.Test.Qxb6602049aWalkCls
import Derived.Test.Qxb6602049aPlainS
namespace Go.Proofs.Qxb6602049a
open Go.RowKit
open Plain

set_option maxHeartbeats 1000000 in
theorem segs_up (s : ByteArray) (need : Bool) (w : World) (hs : s.size ≤ maxLen) :
    Calls Try.prog 16 #[.string s, .bool true, .bool need] w fun e w' => e = .returned (.bool (bySegs true need (codes s))) ∧ w' = w := by
  unfold maxLen at hs
  go_enter Try.func16, Try.ntmps16
  go_wp2
  go_loop [7, 8, 9] (fun g t i => ∃ (k n : Nat) (b : Bool), k ≤ s.size ∧ n ≤ k ∧ i = .int .i64 k ∧ g = .int .i64 n ∧ t = .bool b ∧ AtS (segB true) s k (decide (n = 0)) ∧ AtL s k b) (fun _ _ i => s.size - (intOf i).toNat)
  case atStart => exact ⟨0, 0, false, Nat.zero_le _, Nat.zero_le _, rfl, rfl, rfl, atS_zero _ _, atL_zero _⟩
  case round =>
    obtain ⟨k, n, b, hk, hn, rfl, rfl, rfl, HS, HL⟩ := hrel
    by_cases hlt : k < s.size
    · cases n with
      | zero =>
        go_wp2_with (first | (go_at_call 18; refine (lower_any _ _).mono ?_; rintro e w' ⟨rfl, rfl⟩) | (go_at_call 19; refine (upper_any _ _).mono ?_; rintro e w' ⟨rfl, rfl⟩) | (go_at_call 33; refine (digit_any _ _).mono ?_; rintro e w' ⟨rfl, rfl⟩))
        · go_ret
          exact ⟨ret_bool (bySegs_no (atS_two HS hlt ‹_›)).symm, rfl⟩
        · go_round
          case rel => exact ⟨k + 1, 1, true, by omega, by omega, by go_num, rfl, rfl, atS_ok HS hlt ‹_› (seg_low ‹_›), atL_low HL hlt ‹_›⟩
          case measure => simp [intOf]; omega
        · go_round
          case rel => exact ⟨k + 1, 1, b, by omega, by omega, by go_num, rfl, rfl, atS_ok HS hlt ‹_› (seg_dig ‹_›), atL_not HL hlt ‹_›⟩
          case measure => simp [intOf]; omega
        · go_ret
          exact ⟨ret_bool (bySegs_no (atS_bad HS hlt ‹_› (seg_notU ‹_› ‹_› ‹_›))).symm, rfl⟩
        · go_round
          case rel => exact ⟨k + 1, 1, b, by omega, by omega, by go_num, rfl, rfl, atS_ok HS hlt ‹_› (seg_upp ‹_›), atL_not HL hlt ‹_›⟩
          case measure => simp [intOf]; omega
      | succ m =>
        go_wp2_with (first | (go_at_call 18; refine (lower_any _ _).mono ?_; rintro e w' ⟨rfl, rfl⟩) | (go_at_call 19; refine (upper_any _ _).mono ?_; rintro e w' ⟨rfl, rfl⟩) | (go_at_call 33; refine (digit_any _ _).mono ?_; rintro e w' ⟨rfl, rfl⟩))
        · go_round
          case rel => exact ⟨k + 1, 0, b, by omega, by omega, by go_num, rfl, rfl, atS_hy HS hlt ‹_›, atL_not HL hlt (low_hy ‹_›)⟩
          case measure => simp [intOf]; omega
        · go_round
          case rel => exact ⟨k + 1, m + 2, true, by omega, by omega, by go_num, by go_num, rfl, atS_ok HS hlt ‹_› (seg_low ‹_›), atL_low HL hlt ‹_›⟩
          case measure => simp [intOf]; omega
        · go_round
          case rel => exact ⟨k + 1, m + 2, b, by omega, by omega, by go_num, by go_num, rfl, atS_ok HS hlt ‹_› (seg_dig ‹_›), atL_not HL hlt ‹_›⟩
          case measure => simp [intOf]; omega
        · go_ret
          exact ⟨ret_bool (bySegs_no (atS_bad HS hlt ‹_› (seg_notU ‹_› ‹_› ‹_›))).symm, rfl⟩
        · go_round
          case rel => exact ⟨k + 1, m + 2, b, by omega, by omega, by go_num, by go_num, rfl, atS_ok HS hlt ‹_› (seg_upp ‹_›), atL_not HL hlt ‹_›⟩
          case measure => simp [intOf]; omega
    · have hend : Hid (segs (segB true) true (codes s) = !(decide (n = 0))) := atS_end HS hlt
      have hl : Hid (anyLow (codes s) = b) := atL_end HL hlt
      go_wp2
      · go_ret
        exact ⟨ret_bool (bySegs_end hend.out hl.out (by omega) (by simp [*])), rfl⟩
      · go_ret
        exact ⟨ret_bool (bySegs_end hend.out hl.out (by omega) (by simp [*])), rfl⟩
      · go_ret
        exact ⟨ret_bool (bySegs_end0 hend.out (by omega)), rfl⟩

set_option maxHeartbeats 1000000 in
theorem segs_low (s : ByteArray) (need : Bool) (w : World) (hs : s.size ≤ maxLen) :
    Calls Try.prog 16 #[.string s, .bool false, .bool need] w fun e w' => e = .returned (.bool (bySegs false need (codes s))) ∧ w' = w := by
  unfold maxLen at hs
  go_enter Try.func16, Try.ntmps16
  go_wp2
  go_loop [7, 8, 9] (fun g t i => ∃ (k n : Nat) (b : Bool), k ≤ s.size ∧ n ≤ k ∧ i = .int .i64 k ∧ g = .int .i64 n ∧ t = .bool b ∧ AtS (segB false) s k (decide (n = 0)) ∧ AtL s k b) (fun _ _ i => s.size - (intOf i).toNat)
  case atStart => exact ⟨0, 0, false, Nat.zero_le _, Nat.zero_le _, rfl, rfl, rfl, atS_zero _ _, atL_zero _⟩
  case round =>
    obtain ⟨k, n, b, hk, hn, rfl, rfl, rfl, HS, HL⟩ := hrel
    by_cases hlt : k < s.size
    · cases n with
      | zero =>
        go_wp2_with (first | (go_at_call 18; refine (lower_any _ _).mono ?_; rintro e w' ⟨rfl, rfl⟩) | (go_at_call 19; refine (upper_any _ _).mono ?_; rintro e w' ⟨rfl, rfl⟩) | (go_at_call 33; refine (digit_any _ _).mono ?_; rintro e w' ⟨rfl, rfl⟩))
        · go_ret
          exact ⟨ret_bool (bySegs_no (atS_two HS hlt ‹_›)).symm, rfl⟩
        · go_round
          case rel => exact ⟨k + 1, 1, true, by omega, by omega, by go_num, rfl, rfl, atS_ok HS hlt ‹_› (seg_low ‹_›), atL_low HL hlt ‹_›⟩
          case measure => simp [intOf]; omega
        · go_round
          case rel => exact ⟨k + 1, 1, b, by omega, by omega, by go_num, rfl, rfl, atS_ok HS hlt ‹_› (seg_dig ‹_›), atL_not HL hlt ‹_›⟩
          case measure => simp [intOf]; omega
        · go_ret
          exact ⟨ret_bool (bySegs_no (atS_bad HS hlt ‹_› (seg_notL ‹_› ‹_›))).symm, rfl⟩
      | succ m =>
        go_wp2_with (first | (go_at_call 18; refine (lower_any _ _).mono ?_; rintro e w' ⟨rfl, rfl⟩) | (go_at_call 19; refine (upper_any _ _).mono ?_; rintro e w' ⟨rfl, rfl⟩) | (go_at_call 33; refine (digit_any _ _).mono ?_; rintro e w' ⟨rfl, rfl⟩))
        · go_round
          case rel => exact ⟨k + 1, 0, b, by omega, by omega, by go_num, rfl, rfl, atS_hy HS hlt ‹_›, atL_not HL hlt (low_hy ‹_›)⟩
          case measure => simp [intOf]; omega
        · go_round
          case rel => exact ⟨k + 1, m + 2, true, by omega, by omega, by go_num, by go_num, rfl, atS_ok HS hlt ‹_› (seg_low ‹_›), atL_low HL hlt ‹_›⟩
          case measure => simp [intOf]; omega
        · go_round
          case rel => exact ⟨k + 1, m + 2, b, by omega, by omega, by go_num, by go_num, rfl, atS_ok HS hlt ‹_› (seg_dig ‹_›), atL_not HL hlt ‹_›⟩
          case measure => simp [intOf]; omega
        · go_ret
          exact ⟨ret_bool (bySegs_no (atS_bad HS hlt ‹_› (seg_notL ‹_› ‹_›))).symm, rfl⟩
    · have hend : Hid (segs (segB false) true (codes s) = !(decide (n = 0))) := atS_end HS hlt
      have hl : Hid (anyLow (codes s) = b) := atL_end HL hlt
      go_wp2
      · go_ret
        exact ⟨ret_bool (bySegs_end hend.out hl.out (by omega) (by simp [*])), rfl⟩
      · go_ret
        exact ⟨ret_bool (bySegs_end hend.out hl.out (by omega) (by simp [*])), rfl⟩
      · go_ret
        exact ⟨ret_bool (bySegs_end0 hend.out (by omega)), rfl⟩

end Go.Proofs.Qxb6602049a
