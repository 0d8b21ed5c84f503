import Derived.Test.Qxb6602049aWalkApp
import Derived.Test.Qxb6602049aPlainV
namespace Go.Proofs.Qxb6602049a
open Go.RowKit
open Plain

set_option maxHeartbeats 400000 in
theorem ver_any (s : ByteArray) (w : World) (hs : s.size ≤ maxLen) :
    Calls Try.prog 35 #[.string s] w fun e w' => e = .returned (.string (verMsg (codes s))) ∧ w' = w := by
  unfold maxLen at hs
  by_cases hz : s.size = 0
  · have he : s.toList.isEmpty = true := by rw [isEmpty_size]; simp [hz]
    have HR : Hid (verMsg (codes s) = mVerEmpty) := ver_empty hz
    clear hz
    go_enter Try.func35, Try.ntmps35
    go_wp2
    go_ret
    exact ⟨ret_str HR.out.symm, rfl⟩
  · have he : s.toList.isEmpty = false := by rw [isEmpty_size]; simp [hz]
    have hpos : 0 < s.size := by omega
    clear hz
    go_enter Try.func35, Try.ntmps35
    go_wp2
    go_loop [3] (fun i => ∃ k : Nat, k ≤ s.size ∧ i = .int .i64 k ∧ AtV s k) (fun i => s.size - (intOf i).toNat)
    case atStart => exact ⟨0, Nat.zero_le _, rfl, atV_zero _⟩
    case round =>
      obtain ⟨k, hk, rfl, HS⟩ := hrel
      by_cases hlt : k < s.size
      · go_wp2_with (go_at_call 37; refine (alnum_any _ _).mono ?_; rintro e w' ⟨rfl, rfl⟩)
        · go_round
          case rel => exact ⟨k + 1, by omega, by go_num, atV_ok HS hlt (verB_aln ‹_›)⟩
          case measure => simp [intOf]; omega
        · go_round
          case rel => exact ⟨k + 1, by omega, by go_num, atV_ok HS hlt (verB_46 ‹_›)⟩
          case measure => simp [intOf]; omega
        · go_round
          case rel => exact ⟨k + 1, by omega, by go_num, atV_ok HS hlt (verB_58 ‹_›)⟩
          case measure => simp [intOf]; omega
        · go_round
          case rel => exact ⟨k + 1, by omega, by go_num, atV_ok HS hlt (verB_43 ‹_›)⟩
          case measure => simp [intOf]; omega
        · go_round
          case rel => exact ⟨k + 1, by omega, by go_num, atV_ok HS hlt (verB_126 ‹_›)⟩
          case measure => simp [intOf]; omega
        · go_ret
          exact ⟨ret_str (ver_bad hpos (atV_bad HS hlt (verB_not ‹_› ‹_›))).symm, rfl⟩
        · go_round
          case rel => exact ⟨k + 1, by omega, by go_num, atV_ok HS hlt (verB_or ‹_›)⟩
          case measure => simp [intOf]; omega
      · have hend : Hid (allV (codes s) = true) := atV_end HS hlt
        go_wp2_with (go_at_call 37; refine (alnum_any _ _).mono ?_; rintro e w' ⟨rfl, rfl⟩)
        · go_ret
          exact ⟨ret_str (ver_start hpos hend.out (by simpa using ‹(!alnB _) = true›)).symm, rfl⟩
        · go_ret
          exact ⟨ret_str (ver_end hpos hend.out (by simpa using ‹(!alnB _) = false›) (openB_46 ‹_›)).symm, rfl⟩
        · go_ret
          exact ⟨ret_str (ver_end hpos hend.out (by simpa using ‹(!alnB _) = false›) (openB_58 ‹_›)).symm, rfl⟩
        · go_ret
          exact ⟨ret_str (ver_end hpos hend.out (by simpa using ‹(!alnB _) = false›) (openB_or ‹_›)).symm, rfl⟩
        · go_ret
          exact ⟨ret_str (ver_fine hpos hend.out (by simpa using ‹(!alnB _) = false›) (openB_not ‹_›)).symm, rfl⟩

set_option maxHeartbeats 400000 in
theorem zzver_any (s : ByteArray) (w : World) (hs : s.size ≤ maxLen) :
    Calls Try.prog 26 #[.string s] w fun e w' => e = .returned (.string (verMsg (codes s))) ∧ w' = w := by
  go_enter Try.func26, Try.ntmps26
  go_wp2_with (go_at_call 35; refine (ver_any _ _ hs).mono ?_; rintro e w' ⟨rfl, rfl⟩)
  go_ret
  exact ⟨rfl, rfl⟩

end Go.Proofs.Qxb6602049a
