import Derived.Test.Qxb6602049aWalkSearch
namespace Go.Proofs.Qxb6602049a
open Go.RowKit
open Plain

set_option maxHeartbeats 1000000 in
theorem appModel_any (s : ByteArray) (w : World) (hs : s.size ≤ maxLen) :
    Calls Try.prog 22 #[.string s] w fun e w' => e = .returned (.string (appMsg (codes s))) ∧ w' = w := by
  by_cases hz : s.size = 0
  · have HR : Hid (appMsg (codes s) = mAppEmpty) := app_empty hz
    go_enter Try.func22, Try.ntmps22
    go_wp2
    go_ret
    exact ⟨ret_str HR.out.symm, rfl⟩
  · have hpos : 0 < s.size := by omega
    have hm := hs
    unfold maxLen at hm
    clear hz
    go_enter Try.func22, Try.ntmps22
    go_wp2_with (first | (go_at_call 31; refine (outside_up _ _ hs).mono ?_; rintro e w' ⟨rfl, rfl⟩) | (go_at_call 32; refine (double_any _ _ hpos hs).mono ?_; rintro e w' ⟨rfl, rfl⟩))
    · go_ret
      exact ⟨ret_str (app_dbl hpos (aln1 ‹_› ‹_›)).symm, rfl⟩
    · go_ret
      exact ⟨ret_str (app_bad hpos (aln2 (by omega) (by omega))).symm, rfl⟩
    · go_ret
      exact ⟨ret_str (app_dbl hpos (aln1 ‹_› (.inl ‹_›))).symm, rfl⟩
    · go_ret
      exact ⟨ret_str (app_bad hpos (aln2 (by omega) (by omega))).symm, rfl⟩
    · go_ret
      exact ⟨ret_str (app_edge hpos (aln0 (by omega) (by omega)) (.inl ‹_›)).symm, rfl⟩
    · go_ret
      exact ⟨ret_str (app_edge hpos (aln0 (by omega) (by omega)) (.inr ‹_›)).symm, rfl⟩
    · go_ret
      exact ⟨ret_str (app_fine hpos (aln0 (by omega) (by omega)) ‹_›).symm, rfl⟩

end Go.Proofs.Qxb6602049a
