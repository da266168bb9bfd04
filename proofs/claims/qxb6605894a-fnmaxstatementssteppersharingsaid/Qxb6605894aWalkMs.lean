import Derived.Test.Qxb6605894aRows
import Derived.WalkKit
namespace Go.Proofs.Qxb6605894a
open Go.RowKit

def ms (n m : Int) : Int := m + min n m * n

theorem mul_small {a b : Int} (ha : 0 ≤ a) (ha' : a ≤ 32768) (hb : 0 ≤ b) (hb' : b ≤ 32768) : 0 ≤ a * b ∧ a * b ≤ 1073741824 := by
  refine ⟨Int.mul_nonneg ha hb, ?_⟩
  have := Int.mul_le_mul ha' hb' hb (by omega)
  omega

theorem ms_calls (n m : Int) (w : World) (hn : 0 ≤ n) (hn' : n ≤ 32768) (hm : 0 ≤ m) (hm' : m ≤ 32768) :
    Calls Try.prog 6 #[.int .i64 n, .int .i64 m] w fun e w' => e = .returned (.int .i64 (ms n m)) ∧ w' = w := by
  unfold ms
  rcases Int.lt_or_le m n with h | h
  rotate_left
  · have hmin : min n m = n := by omega
    rw [hmin]; clear hmin
    obtain ⟨h1, h2⟩ := mul_small hn hn' hn hn'
    go_enter Try.func6, Try.ntmps6
    go_wp2
    go_ret
    exact ⟨rfl, rfl⟩
  · have hmin : min n m = m := by omega
    rw [hmin]; clear hmin
    obtain ⟨h1, h2⟩ := mul_small hm hm' hn hn'
    go_enter Try.func6, Try.ntmps6
    go_wp2
    go_ret
    exact ⟨rfl, rfl⟩

theorem ms_bounds {n m : Int} (hn : 0 ≤ n) (hn' : n ≤ 32768) (hm : 0 ≤ m) (hm' : m ≤ 32768) : m ≤ ms n m ∧ ms n m ≤ 1073774592 := by
  unfold ms
  have := mul_small (a := min n m) (b := n) (by omega) (by omega) hn hn'
  omega

theorem ms_eq {n m : Int} (hn : 0 ≤ n) (hm : 0 ≤ m) : ms n m = m ↔ n = 0 ∨ m = 0 := by
  unfold ms
  constructor
  · intro h
    have h0 : min n m * n = 0 := by omega
    rcases Int.mul_eq_zero.1 h0 with h1 | h1 <;> omega
  · rintro (h | h)
    · subst h; simp
    · subst h; rw [show min n 0 = 0 by omega]; simp

theorem ms_sat {n m : Int} (h : n ≤ m) : ms n m - ms n n = m - n := by
  unfold ms
  rw [show min n m = n by omega, show min n n = n by omega]
  omega

theorem ms_below {n m : Int} (h : m < n) : ms n m - ms m m = m * (n - m) := by
  unfold ms
  rw [show min n m = m by omega, show min m m = m by omega, Int.mul_sub]
  omega

theorem ms_zero {n : Int} (hn : 0 ≤ n) : ms n 0 = 0 := by
  unfold ms
  rw [show min n 0 = 0 by omega]; simp

theorem ms_step {n m : Int} : ms n (m + 1) - ms n m = if m < n then n + 1 else 1 := by
  unfold ms
  split
  · rw [show min n (m + 1) = m + 1 by omega, show min n m = m by omega, Int.add_mul]; omega
  · rw [show min n (m + 1) = n by omega, show min n m = n by omega]; omega
end Go.Proofs.Qxb6605894a
