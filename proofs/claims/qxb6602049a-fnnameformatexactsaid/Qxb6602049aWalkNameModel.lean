import Derived.Test.Qxb6602049aWalkSearch
namespace Go.Proofs.Qxb6602049a
open Go.RowKit
open Plain

set_option maxHeartbeats 1000000 in
theorem nameModel_any (s : ByteArray) (w : World) (hs : s.size ≤ maxLen) :
    Calls Try.prog 14 #[.string s] w fun e w' => e = .returned (.string (nameMsg (codes s))) ∧ w' = w := by
  by_cases hz : s.size = 0
  · have HR : Hid (nameMsg (codes s) = mNameEmpty) := name_empty hz
    go_enter Try.func14, Try.ntmps14
    go_wp2
    go_ret
    exact ⟨ret_str HR.out.symm, rfl⟩
  · have hpos : 0 < s.size := by omega
    have hm := hs
    unfold maxLen at hm
    clear hz
    go_enter Try.func14, Try.ntmps14
    go_wp2_with (first | (go_at_call 31; refine (outside_low _ _ hs).mono ?_; rintro e w' ⟨rfl, rfl⟩) | (go_at_call 32; refine (double_any _ _ hpos hs).mono ?_; rintro e w' ⟨rfl, rfl⟩))
    · go_ret
      exact ⟨ret_str (name_dbl hpos (nam1 ‹_› ‹_›)).symm, rfl⟩
    · go_ret
      exact ⟨ret_str (name_bad hpos (nam2 (by omega) (by omega))).symm, rfl⟩
    · go_ret
      exact ⟨ret_str (name_dbl hpos (nam1 ‹_› (.inl ‹_›))).symm, rfl⟩
    · go_ret
      exact ⟨ret_str (name_bad hpos (nam2 (by omega) (by omega))).symm, rfl⟩
    · have h0 : Hid (scan nameB false (codes s) = 0) := nam0 (by omega) (by omega)
      go_loop [5, 6] (fun t i => ∃ (k : Nat) (b : Bool), k ≤ s.size ∧ i = .int .i64 k ∧ t = .bool b ∧ AtL s k b) (fun _ i => s.size - (intOf i).toNat)
      case atStart => exact ⟨0, false, Nat.zero_le _, rfl, rfl, atL_zero _⟩
      case round =>
        obtain ⟨k, b, hk, rfl, rfl, HL⟩ := hrel
        by_cases hlt : k < s.size
        · go_wp2_with (go_at_call 18; refine (lower_any _ _).mono ?_; rintro e w' ⟨rfl, rfl⟩)
          · go_round
            case rel => exact ⟨k + 1, true, by omega, by go_num, rfl, atL_low HL hlt ‹_›⟩
            case measure => simp [intOf]; omega
          · go_round
            case rel => exact ⟨k + 1, b, by omega, by go_num, rfl, atL_not HL hlt ‹_›⟩
            case measure => simp [intOf]; omega
        · have hl : Hid (anyLow (codes s) = b) := atL_end HL hlt
          cases b
          · go_wp2
            go_ret
            exact ⟨ret_str (name_letter hpos h0.out hl.out).symm, rfl⟩
          · go_wp2
            · go_ret
              exact ⟨ret_str (name_edge hpos h0.out hl.out (.inl ‹_›)).symm, rfl⟩
            · go_ret
              exact ⟨ret_str (name_edge hpos h0.out hl.out (.inr ‹_›)).symm, rfl⟩
            · go_ret
              exact ⟨ret_str (name_fine hpos h0.out hl.out ‹_›).symm, rfl⟩

end Go.Proofs.Qxb6602049a
