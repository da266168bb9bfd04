import Derived.Test.Qxb6605914aMem
namespace Go.Proofs.Qxb6605914a
open Go.RowKit
set_option maxRecDepth 100000

/-- zzRangeEqualAt at i = j = 0: the first n bytes are the same -/
theorem range_true (w : World) (ao bo : Option Addr) (ca cb' n lx ly : Nat) (xs ys : List Int) (hlx : xs.length = lx) (hly : ys.length = ly) (hn : n ≤ lx) (hm : n ≤ ly) (hx : lx ≤ 16777216)
    (hA : Rd w ao xs) (hB : Rd w bo ys) (he : ∀ k, k < n → xs.getD k 0 = ys.getD k 0) :
    Calls Try.prog 19 #[.slice ao lx ca, .int .i64 0, .slice bo ly cb', .int .i64 0, .int .i64 n] w fun e w' => e = .returned (.bool true) ∧ ∃ q, w' = w.drewN q := by
  have Hlx : Hid (xs.length = lx) := hlx
  have Hly : Hid (ys.length = ly) := hly
  clear hlx hly
  go_enter Try.func19, Try.ntmps19
  go_wp2
  go_loopw [11] (fun i wr => ∃ k : Nat, k ≤ n ∧ i = .int .i64 k ∧ ∃ q, wr = w.drewN q) (fun i _ => n - (intOf i).toNat)
  case atStart => exact ⟨0, Nat.zero_le _, rfl, 0, rfl⟩
  case round =>
    obtain ⟨k, hk, rfl, q, rfl⟩ := hrel
    by_cases hlt : k < n
    · obtain ⟨b, off, rfl, hc⟩ := hA k (by have := Hlx.out; omega)
      obtain ⟨b', off', rfl, hc'⟩ := hB k (by have := Hly.out; omega)
      rw [he k hlt] at hc
      generalize ys.getD k 0 = u at hc hc'
      clear hA hB he
      have i1 : (k : Int) < (lx : Int) := by omega
      have i2 : (k : Int) < (ly : Int) := by omega
      go_wp2
      go_quiet (fail)
      go_wp2
      go_roundw
      case rel => exact ⟨k + 1, by omega, by go_num, _, rfl⟩
      case measure => simp [intOf]; omega
    · go_wp2
      go_ret
      exact ⟨rfl, q, rfl⟩

/-- zzHasAt: the string s stands in xs at pos -/
theorem hasAt_true (w : World) (ao : Option Addr) (ca pos lx : Nat) (xs : List Int) (hlx : xs.length = lx) (s : ByteArray) (hn : pos + s.size ≤ lx) (hx : lx ≤ 16777216)
    (hA : Rd w ao xs) (he : ∀ k (h : k < s.size), xs.getD (pos + k) 0 = ((s[k]'h).toNat : Int)) :
    Calls Try.prog 32 #[.slice ao lx ca, .int .i64 pos, .string s] w fun e w' => e = .returned (.bool true) ∧ ∃ q, w' = w.drewN q := by
  have Hlx : Hid (xs.length = lx) := hlx
  clear hlx
  go_enter Try.func32, Try.ntmps32
  go_wp2
  go_loopw [7] (fun i wr => ∃ k : Nat, k ≤ s.size ∧ i = .int .i64 k ∧ ∃ q, wr = w.drewN q) (fun i _ => s.size - (intOf i).toNat)
  case atStart => exact ⟨0, Nat.zero_le _, rfl, 0, rfl⟩
  case round =>
    obtain ⟨k, hk, rfl, q, rfl⟩ := hrel
    by_cases hlt : k < s.size
    · obtain ⟨b, off, rfl, hc⟩ := hA (pos + k) (by have := Hlx.out; omega)
      rw [he k hlt] at hc
      clear hA he
      have i1 : ((pos : Int) + (k : Int)) < (lx : Int) := by omega
      have i2 : (0 : Int) ≤ ((pos : Int) + (k : Int)) := by omega
      have i3 : (k : Int) < (s.size : Int) := by omega
      go_wp2
      go_quiet (fail)
      go_wp2
      go_roundw
      case rel => exact ⟨k + 1, by omega, by go_num, _, rfl⟩
      case measure => simp [intOf]; omega
    · go_wp2
      go_ret
      exact ⟨rfl, q, rfl⟩
end Go.Proofs.Qxb6605914a
