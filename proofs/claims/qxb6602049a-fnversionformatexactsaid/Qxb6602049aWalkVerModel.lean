import Derived.Test.Qxb6602049aWalkApp
import Derived.Test.Qxb6602049aWalkCls
import Derived.Test.Qxb6602049aPlainM
namespace Go.Proofs.Qxb6602049a
open Go.RowKit
open Plain

set_option maxHeartbeats 1000000 in
theorem cls_any (c : Int) (w : World) :
    Calls Try.prog 36 #[.int .u8 c] w fun e w' => e = .returned (.int .i64 (clsI c)) ∧ w' = w := by
  go_enter Try.func36, Try.ntmps36
  go_wp2_with (first | (go_at_call 18; refine (lower_any _ _).mono ?_; rintro e w' ⟨rfl, rfl⟩) | (go_at_call 19; refine (upper_any _ _).mono ?_; rintro e w' ⟨rfl, rfl⟩) | (go_at_call 33; refine (digit_any _ _).mono ?_; rintro e w' ⟨rfl, rfl⟩))
  · go_ret
    exact ⟨ret_int (clsL ‹_›).symm, rfl⟩
  · go_ret
    exact ⟨ret_int (clsU ‹_›).symm, rfl⟩
  · go_ret
    exact ⟨ret_int (clsD ‹_›).symm, rfl⟩
  · go_ret
    exact ⟨ret_int (cls46 ‹_› ‹_› ‹_› ‹_›).symm, rfl⟩
  · go_ret
    exact ⟨ret_int (cls58 ‹_› ‹_› ‹_› ‹_›).symm, rfl⟩
  · go_ret
    exact ⟨ret_int (cls45 ‹_› ‹_› ‹_› ‹_›).symm, rfl⟩
  · go_ret
    exact ⟨ret_int (cls43 ‹_› ‹_› ‹_› ‹_› ‹_› ‹_› ‹_›).symm, rfl⟩
  · go_ret
    exact ⟨ret_int (cls126 ‹_› ‹_› ‹_› ‹_› ‹_› ‹_› ‹_›).symm, rfl⟩
  · go_ret
    exact ⟨ret_int (clsX ‹_› ‹_› ‹_› ‹_› ‹_› ‹_› ‹_› ‹_›).symm, rfl⟩

set_option maxHeartbeats 1000000 in
theorem verModel_any (s : ByteArray) (w : World) (hs : s.size ≤ maxLen) :
    Calls Try.prog 27 #[.string s] w fun e w' => e = .returned (.string (verMsg (codes s))) ∧ w' = w := by
  unfold maxLen at hs
  go_enter Try.func27, Try.ntmps27
  go_wp2
  go_loop [3, 4] (fun t i => ∃ (k : Nat) (q : Int), k ≤ s.size ∧ i = .int .i64 k ∧ t = .int .i64 q ∧ AtA s k q) (fun _ i => s.size - (intOf i).toNat)
  case atStart => exact ⟨0, 0, Nat.zero_le _, rfl, rfl, atA_zero _⟩
  case round =>
    obtain ⟨k, q, hk, rfl, rfl, HA⟩ := hrel
    by_cases hlt : k < s.size
    · go_wp2_with (go_at_call 36; refine (cls_any _ _).mono ?_; rintro e w' ⟨rfl, rfl⟩)
      · go_round
        case rel => exact ⟨k + 1, 1, by omega, by go_num, rfl, atA_step HA hlt (st1 q ‹_›)⟩
        case measure => simp [intOf]; omega
      · go_round
        case rel => exact ⟨k + 1, 3, by omega, by go_num, rfl, atA_step HA hlt (st2 ‹_› ‹_› ‹_›)⟩
        case measure => simp [intOf]; omega
      · go_round
        case rel => exact ⟨k + 1, 2, by omega, by go_num, rfl, atA_step HA hlt (st3 ‹_› ‹_› ‹_›)⟩
        case measure => simp [intOf]; omega
      · go_round
        case rel => exact ⟨k + 1, 4, by omega, by go_num, rfl, atA_step HA hlt (st4 ‹_› ‹_› ‹_› ‹_›)⟩
        case measure => simp [intOf]; omega
      · go_round
        case rel => exact ⟨k + 1, 3, by omega, by go_num, rfl, atA_step HA hlt (st5 ‹_› ‹_› ‹_› ‹_›)⟩
        case measure => simp [intOf]; omega
      · go_round
        case rel => exact ⟨k + 1, 4, by omega, by go_num, rfl, atA_step HA hlt (st6 ‹_› ‹_› ‹_› ‹_› ‹_›)⟩
        case measure => simp [intOf]; omega
      · go_round
        case rel => exact ⟨k + 1, 3, by omega, by go_num, rfl, atA_step HA hlt (st7 ‹_› ‹_› ‹_› ‹_› ‹_›)⟩
        case measure => simp [intOf]; omega
      · go_round
        case rel => exact ⟨k + 1, q, by omega, by go_num, rfl, atA_step HA hlt (st8 ‹_› ‹_› ‹_› ‹_›)⟩
        case measure => simp [intOf]; omega
    · have hend : Hid (verMsg (codes s) = stMsg q) := atA_end HA hlt
      go_wp2
      · go_ret
        exact ⟨ret_str (hend.out.trans (sm0 ‹_›)).symm, rfl⟩
      · go_ret
        exact ⟨ret_str (hend.out.trans (sm1 ‹_› ‹_›)).symm, rfl⟩
      · go_ret
        exact ⟨ret_str (hend.out.trans (sm2 ‹_› ‹_› ‹_›)).symm, rfl⟩
      · go_ret
        exact ⟨ret_str (hend.out.trans (sm4 ‹_› ‹_› ‹_› ‹_›)).symm, rfl⟩
      · go_ret
        exact ⟨ret_str (hend.out.trans (sm3 ‹_› ‹_› ‹_› ‹_›)).symm, rfl⟩

end Go.Proofs.Qxb6602049a
