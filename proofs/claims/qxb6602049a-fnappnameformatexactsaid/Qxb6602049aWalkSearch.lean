import Derived.Test.Qxb6602049aWalkApp
import Derived.Test.Qxb6602049aWalkCls
import Derived.Test.Qxb6602049aPlainX
namespace Go.Proofs.Qxb6602049a
open Go.RowKit
open Plain

set_option maxHeartbeats 1000000 in
theorem outside_up (s : ByteArray) (w : World) (hs : s.size ≤ maxLen) :
    Calls Try.prog 31 #[.string s, .bool true] w fun e w' => e = .returned (.int .i64 (fo (segB true) 0 (codes s))) ∧ w' = w := by
  unfold maxLen at hs
  go_enter Try.func31, Try.ntmps31
  go_wp2
  go_loop [5] (fun i => ∃ k : Nat, k ≤ s.size ∧ i = .int .i64 k ∧ AtF (segB true) s k) (fun i => s.size - (intOf i).toNat)
  case atStart => exact ⟨0, Nat.zero_le _, rfl, atF_zero _ _⟩
  case round =>
    obtain ⟨k, hk, rfl, HS⟩ := hrel
    by_cases hlt : k < s.size
    · go_wp2_with (first | (go_at_call 18; refine (lower_any _ _).mono ?_; rintro e w' ⟨rfl, rfl⟩) | (go_at_call 19; refine (upper_any _ _).mono ?_; rintro e w' ⟨rfl, rfl⟩) | (go_at_call 33; refine (digit_any _ _).mono ?_; rintro e w' ⟨rfl, rfl⟩))
      · go_round
        case rel => exact ⟨k + 1, by omega, by go_num, atF_ok HS hlt (seg_low ‹_›)⟩
        case measure => simp [intOf]; omega
      · go_round
        case rel => exact ⟨k + 1, by omega, by go_num, atF_ok HS hlt (seg_dig ‹_›)⟩
        case measure => simp [intOf]; omega
      · go_round
        case rel => exact ⟨k + 1, by omega, by go_num, atF_hy HS hlt ‹_›⟩
        case measure => simp [intOf]; omega
      · go_round
        case rel => exact ⟨k + 1, by omega, by go_num, atF_ok HS hlt (seg_or ‹_› ‹_›)⟩
        case measure => simp [intOf]; omega
      · have hb : (((s[k].toNat : Int) == 45) = false) ∧ (uppB (s[k].toNat : Int) = false) := by assumption
        go_ret
        exact ⟨ret_int (atF_bad HS hlt hb.1 (seg_noU ‹_› ‹_› hb.2)).symm, rfl⟩
    · have hend : Hid (fo (segB true) 0 (codes s) = -1) := atF_end HS hlt
      go_wp2
      go_ret
      exact ⟨ret_int hend.out.symm, rfl⟩

set_option maxHeartbeats 1000000 in
theorem outside_low (s : ByteArray) (w : World) (hs : s.size ≤ maxLen) :
    Calls Try.prog 31 #[.string s, .bool false] w fun e w' => e = .returned (.int .i64 (fo (segB false) 0 (codes s))) ∧ w' = w := by
  unfold maxLen at hs
  go_enter Try.func31, Try.ntmps31
  go_wp2
  go_loop [5] (fun i => ∃ k : Nat, k ≤ s.size ∧ i = .int .i64 k ∧ AtF (segB false) s k) (fun i => s.size - (intOf i).toNat)
  case atStart => exact ⟨0, Nat.zero_le _, rfl, atF_zero _ _⟩
  case round =>
    obtain ⟨k, hk, rfl, HS⟩ := hrel
    by_cases hlt : k < s.size
    · go_wp2_with (first | (go_at_call 18; refine (lower_any _ _).mono ?_; rintro e w' ⟨rfl, rfl⟩) | (go_at_call 19; refine (upper_any _ _).mono ?_; rintro e w' ⟨rfl, rfl⟩) | (go_at_call 33; refine (digit_any _ _).mono ?_; rintro e w' ⟨rfl, rfl⟩))
      · go_round
        case rel => exact ⟨k + 1, by omega, by go_num, atF_ok HS hlt (seg_low ‹_›)⟩
        case measure => simp [intOf]; omega
      · go_round
        case rel => exact ⟨k + 1, by omega, by go_num, atF_ok HS hlt (seg_dig ‹_›)⟩
        case measure => simp [intOf]; omega
      · go_round
        case rel => exact ⟨k + 1, by omega, by go_num, atF_hy HS hlt ‹_›⟩
        case measure => simp [intOf]; omega
      · go_ret
        exact ⟨ret_int (atF_bad HS hlt ‹_› (seg_noL ‹_› ‹_›)).symm, rfl⟩
    · have hend : Hid (fo (segB false) 0 (codes s) = -1) := atF_end HS hlt
      go_wp2
      go_ret
      exact ⟨ret_int hend.out.symm, rfl⟩

set_option maxHeartbeats 1000000 in
theorem double_any (s : ByteArray) (w : World) (hpos : 0 < s.size) (hs : s.size ≤ maxLen) :
    Calls Try.prog 32 #[.string s] w fun e w' => e = .returned (.int .i64 (fd false 0 (codes s))) ∧ w' = w := by
  unfold maxLen at hs
  go_enter Try.func32, Try.ntmps32
  go_wp2
  go_loop [3] (fun i => ∃ j : Nat, j + 1 ≤ s.size ∧ i = .int .i64 ((j : Int) + 1) ∧ AtD s (j + 1)) (fun i => s.size - (intOf i).toNat)
  case atStart => exact ⟨0, by omega, rfl, atD_one hpos⟩
  case round =>
    obtain ⟨j, hk, rfl, HS⟩ := hrel
    have hj : j < s.size := by omega
    by_cases hlt : j + 1 < s.size
    · go_wp2
      · go_ret
        exact ⟨ret_int (atD_hit HS hlt (eq_hy ‹_›) ‹_›).symm, rfl⟩
      · go_round
        case rel => exact ⟨j + 1, by omega, by go_num, atD_on HS hlt (.inr ‹_›)⟩
        case measure => simp [intOf]; omega
      · go_round
        case rel => exact ⟨j + 1, by omega, by go_num, atD_on HS hlt (.inl (ne_hy ‹_›))⟩
        case measure => simp [intOf]; omega
    · have hend : Hid (fd false 0 (codes s) = -1) := atD_end HS hlt
      go_wp2
      go_ret
      exact ⟨ret_int hend.out.symm, rfl⟩

end Go.Proofs.Qxb6602049a
