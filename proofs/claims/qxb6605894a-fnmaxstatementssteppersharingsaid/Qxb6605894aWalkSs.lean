import Derived.Test.Qxb6605894aWalkMs
namespace Go.Proofs.Qxb6605894a
open Go.RowKit

theorem ss_walk (a0 : Int) (a1 : Int) (w : World) :
    Calls Try.prog 4 #[.int .i64 a0, .int .i64 a1] w fun e w' => e = .returned (.bool true) ∧ Grown w w' := by
  by_cases hin : 0 ≤ a0 ∧ 0 ≤ a1 ∧ a0 ≤ 32768 ∧ a1 < 32768
  · obtain ⟨h0, h1, h2, h3⟩ := hin
    obtain ⟨b1, b2⟩ := ms_bounds h0 h2 h1 (by omega)
    obtain ⟨c1, c2⟩ := ms_bounds (m := a1 + 1) h0 h2 (by omega) (by omega)
    have e0 := ms_zero h0
    rcases Int.lt_or_le a1 a0 with h | h
    · have hs := ms_step (n := a0) (m := a1)
      rw [if_pos h] at hs
      go_enter Try.func4, Try.ntmps4
      go_wp2_with (go_at_call 6; refine (ms_calls _ _ _ (by omega) (by omega) (by omega) (by omega)).mono ?_; rintro e w' ⟨rfl, rfl⟩)
      all_goals (go_ret; exact ⟨by simp, Grown.refl _⟩)
    · have hs := ms_step (n := a0) (m := a1)
      rw [if_neg (by omega)] at hs
      go_enter Try.func4, Try.ntmps4
      go_wp2_with (go_at_call 6; refine (ms_calls _ _ _ (by omega) (by omega) (by omega) (by omega)).mono ?_; rintro e w' ⟨rfl, rfl⟩)
      all_goals (go_ret; exact ⟨by simp, Grown.refl _⟩)
  · have hin' : a0 < 0 ∨ a1 < 0 ∨ 32768 < a0 ∨ 32768 ≤ a1 := by omega
    clear hin
    go_enter Try.func4, Try.ntmps4
    rcases hin' with h | h | h | h
    all_goals go_wp2_with fail
    all_goals (go_ret; exact ⟨by simp, Grown.refl _⟩)
end Go.Proofs.Qxb6605894a
