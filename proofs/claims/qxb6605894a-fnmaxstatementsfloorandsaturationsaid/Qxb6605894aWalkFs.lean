import Derived.Test.Qxb6605894aWalkMs
namespace Go.Proofs.Qxb6605894a
open Go.RowKit

theorem fs_walk (a0 : Int) (a1 : Int) (w : World) :
    Calls Try.prog 3 #[.int .i64 a0, .int .i64 a1] w fun e w' => e = .returned (.bool true) ∧ Grown w w' := by
  by_cases hin : 0 ≤ a0 ∧ 0 ≤ a1 ∧ a0 ≤ 32768 ∧ a1 ≤ 32768
  · obtain ⟨h0, h1, h2, h3⟩ := hin
    by_cases hz : a0 = 0
    · subst hz
      have e1 : ms 0 a1 = a1 := (ms_eq h0 h1).2 (.inl rfl)
      have e2 : ms 0 0 = 0 := ms_zero (Int.le_refl 0)
      go_enter Try.func3, Try.ntmps3
      go_wp2_with (go_at_call 6; refine (ms_calls _ _ _ (by omega) (by omega) (by omega) (by omega)).mono ?_; rintro e w' ⟨rfl, rfl⟩)
      all_goals (go_ret; exact ⟨by simp, Grown.refl _⟩)
    have hz' : 0 < a0 := by omega
    clear hz
    obtain ⟨b1, b2⟩ := ms_bounds h0 h2 h1 h3
    have he : (ms a0 a1 == a1) = (a0 == 0 || a1 == 0) := by
      rw [Bool.eq_iff_iff]; simp [ms_eq h0 h1]
    rcases Int.lt_or_le a1 a0 with h | h
    · obtain ⟨c1, c2⟩ := ms_bounds h1 h3 h1 h3
      obtain ⟨d1, d2⟩ := mul_small (a := a1) (b := a0 - a1) (by omega) (by omega) (by omega) (by omega)
      have hs := ms_below h
      go_enter Try.func3, Try.ntmps3
      go_wp2_with (go_at_call 6; refine (ms_calls _ _ _ (by omega) (by omega) (by omega) (by omega)).mono ?_; rintro e w' ⟨rfl, rfl⟩)
      all_goals (go_ret; exact ⟨by simp, Grown.refl _⟩)
    · obtain ⟨c1, c2⟩ := ms_bounds h0 h2 h0 h2
      have hs := ms_sat h
      go_enter Try.func3, Try.ntmps3
      go_wp2_with (go_at_call 6; refine (ms_calls _ _ _ (by omega) (by omega) (by omega) (by omega)).mono ?_; rintro e w' ⟨rfl, rfl⟩)
      all_goals (go_ret; exact ⟨by simp, Grown.refl _⟩)
  · have hin' : a0 < 0 ∨ a1 < 0 ∨ 32768 < a0 ∨ 32768 < a1 := by omega
    clear hin
    go_enter Try.func3, Try.ntmps3
    rcases hin' with h | h | h | h
    all_goals go_wp2_with fail
    all_goals (go_ret; exact ⟨by simp, Grown.refl _⟩)
end Go.Proofs.Qxb6605894a
