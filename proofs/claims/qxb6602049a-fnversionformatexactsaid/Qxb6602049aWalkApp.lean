import Derived.Test.Qxb6602049aRows
import Derived.Test.Qxb6602049aPlainA
import Derived.WalkKit
import Derived.WalkSpells
namespace Go.Proofs.Qxb6602049a
open Go.RowKit
open Plain

theorem ret_bool {a b : Bool} (h : a = b) : Ending.returned (.bool a) = .returned (.bool b) := by rw [h]
theorem ret_str {a b : ByteArray} (h : a = b) : Ending.returned (.string a) = .returned (.string b) := by rw [h]
theorem ret_int {k : IntKind} {a b : Int} (h : a = b) : Ending.returned (.int k a) = .returned (.int k b) := by rw [h]

theorem isEmpty_size (s : ByteArray) : s.toList.isEmpty = decide (s.size = 0) := by
  have e : s.size = s.data.toList.length := by rw [Array.length_toList]; rfl
  rw [ByteArray.toList_eq, Bool.eq_iff_iff, decide_eq_true_eq, List.isEmpty_iff, ← List.length_eq_zero_iff, e]

set_option maxHeartbeats 400000 in
theorem alnum_any (c : Int) (w : World) :
    Calls Try.prog 37 #[.int .u8 c] w fun e w' => e = .returned (.bool (alnB c)) ∧ w' = w := by
  go_enter Try.func37, Try.ntmps37
  go_wp2
  all_goals
    go_ret
    exact ⟨ret_bool (by unfold alnB lowB uppB digB; rw [Bool.eq_iff_iff]; simp; omega), rfl⟩

set_option maxHeartbeats 400000 in
theorem app_any (s : ByteArray) (w : World) (hs : s.size ≤ maxLen) :
    Calls Try.prog 34 #[.string s] w fun e w' => e = .returned (.string (appMsg (codes s))) ∧ w' = w := by
  unfold maxLen at hs
  by_cases hz : s.size = 0
  · have he : s.toList.isEmpty = true := by rw [isEmpty_size]; simp [hz]
    have HR : Hid (appMsg (codes s) = mAppEmpty) := app_empty hz
    clear hz
    go_enter Try.func34, Try.ntmps34
    go_wp2
    go_ret
    exact ⟨ret_str HR.out.symm, rfl⟩
  · have he : s.toList.isEmpty = false := by rw [isEmpty_size]; simp [hz]
    have hpos : 0 < s.size := by omega
    clear hz
    go_enter Try.func34, Try.ntmps34
    go_wp2
    go_loop [3] (fun i => ∃ k : Nat, k ≤ s.size ∧ i = .int .i64 k ∧ At alnB s k) (fun i => s.size - (intOf i).toNat)
    case atStart => exact ⟨0, Nat.zero_le _, rfl, at_zero _ _⟩
    case round =>
      obtain ⟨k, hk, rfl, HS⟩ := hrel
      by_cases hlt : k < s.size
      · cases k with
        | zero =>
          go_wp2_with (go_at_call 37; refine (alnum_any _ _).mono ?_; rintro e w' ⟨rfl, rfl⟩)
          · go_round
            case rel => exact ⟨1, by omega, rfl, at_hy HS hpos ‹_› rfl⟩
            case measure => simp [intOf]; omega
          · go_ret
            exact ⟨ret_str (app_bad hpos (at_bad HS hpos ‹_› (by simpa using ‹(!alnB _) = true›))).symm, rfl⟩
          · go_round
            case rel => exact ⟨1, by omega, rfl, at_ok HS hpos ‹_› (by simpa using ‹(!alnB _) = false›)⟩
            case measure => simp [intOf]; omega
        | succ j =>
          have hj : j < s.size := by omega
          go_wp2_with (go_at_call 37; refine (alnum_any _ _).mono ?_; rintro e w' ⟨rfl, rfl⟩)
          · go_ret
            exact ⟨ret_str (app_dbl hpos (at_dbl HS hlt ‹_› (by rw [prevH_succ s j hj]; assumption))).symm, rfl⟩
          · go_round
            case rel => exact ⟨j + 2, by omega, by go_num, at_hy HS hlt ‹_› (by rw [prevH_succ s j hj]; assumption)⟩
            case measure => simp [intOf]; omega
          · go_ret
            exact ⟨ret_str (app_bad hpos (at_bad HS hlt ‹_› (by simpa using ‹(!alnB _) = true›))).symm, rfl⟩
          · go_round
            case rel => exact ⟨j + 2, by omega, by go_num, at_ok HS hlt ‹_› (by simpa using ‹(!alnB _) = false›)⟩
            case measure => simp [intOf]; omega
      · have hend : Hid (scan alnB false (codes s) = 0) := at_end HS hlt
        go_wp2
        · go_ret
          exact ⟨ret_str (app_edge hpos hend.out (.inl ‹_›)).symm, rfl⟩
        · go_ret
          exact ⟨ret_str (app_edge hpos hend.out (.inr ‹_›)).symm, rfl⟩
        · go_ret
          exact ⟨ret_str (app_fine hpos hend.out ‹_›).symm, rfl⟩

set_option maxHeartbeats 400000 in
theorem zzapp_any (s : ByteArray) (w : World) (hs : s.size ≤ maxLen) :
    Calls Try.prog 20 #[.string s] w fun e w' => e = .returned (.string (appMsg (codes s))) ∧ w' = w := by
  go_enter Try.func20, Try.ntmps20
  go_wp2_with (go_at_call 34; refine (app_any _ _ hs).mono ?_; rintro e w' ⟨rfl, rfl⟩)
  go_ret
  exact ⟨rfl, rfl⟩

end Go.Proofs.Qxb6602049a
