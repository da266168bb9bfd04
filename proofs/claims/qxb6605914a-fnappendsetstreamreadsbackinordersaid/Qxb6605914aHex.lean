import Derived.Test.Qxb6605914aMem
namespace Go.Proofs.Qxb6605914a
open Go.RowKit
set_option maxRecDepth 100000

/-- a hex digit, lower case -/
def dg (d : Int) : Int := if d < 10 then 48 + d else 87 + d

theorem ret_nb {k : IntKind} {a b : Int} (h : a = b) : Ending.returned (.tuple #[.int k a, .bool true]) = .returned (.tuple #[.int k b, .bool true]) := by rw [h]

theorem nibble_dg (w : World) (d : Int) (h0 : 0 ≤ d) (h1 : d < 16) :
    Calls Try.prog 42 #[.int .u8 (dg d)] w fun e w' => e = .returned (.tuple #[.int .u8 d, .bool true]) ∧ w' = w := by
  unfold dg
  rcases Int.lt_or_le d 10 with h | h
  · rw [if_pos h]
    go_enter Try.func42, Try.ntmps42
    go_wp2
    go_ret2
    exact ⟨ret_nb (by omega), rfl⟩
  · rw [if_neg (by omega)]
    go_enter Try.func42, Try.ntmps42
    go_wp2
    go_ret2
    exact ⟨ret_nb (by omega), rfl⟩

theorem or_fin16 : ∀ a b : Fin 16, bits BinOp.or IntKind.u8 (((a.val : Nat) : Int) * 16) ((b.val : Nat) : Int) = (((a.val * 16 + b.val : Nat)) : Int) := by decide
theorem or_back (y : Int) (h0 : 0 ≤ y) (h1 : y ≤ 255) : (bits BinOp.or IntKind.u8 (y / 16 * 16) (y % 16) != y) = false := by
  have h := or_fin16 ⟨(y / 16).toNat, by omega⟩ ⟨(y % 16).toNat, by omega⟩
  simp only [] at h
  rw [show (((y / 16).toNat : Nat) : Int) = y / 16 by omega, show (((y % 16).toNat : Nat) : Int) = y % 16 by omega] at h
  rw [h]; simp; omega

theorem hexField_true (w : World) (ao bo : Option Addr) (ca cb' fr lx ly : Nat) (xs ys : List Int) (hlx : xs.length = lx) (hly : ys.length = ly) (fi to : Int) (hfi : fi = (fr : Int)) (hto : to = ((fr + 2 * ly : Nat) : Int)) (hn : fr + 2 * ly ≤ lx) (hx : lx ≤ 16777216)
    (hA : Rd w ao xs) (hB : Rd w bo ys) (hy : ∀ k, k < ly → 0 ≤ ys.getD k 0 ∧ ys.getD k 0 ≤ 255)
    (he : ∀ k, k < ly → xs.getD (fr + 2 * k) 0 = dg (ys.getD k 0 / 16) ∧ xs.getD (fr + 2 * k + 1) 0 = dg (ys.getD k 0 % 16)) :
    Calls Try.prog 36 #[.slice ao lx ca, .int .i64 fi, .int .i64 to, .slice bo ly cb'] w fun e w' => e = .returned (.bool true) ∧ ∃ q, w' = w.drewN q := by
  subst hfi
  have Hlx : Hid (xs.length = lx) := hlx
  have Hly : Hid (ys.length = ly) := hly
  clear hlx hly
  have t1 : ((to - (fr : Int)) != 2 * (ly : Int)) = false := by simp; omega
  have t2 : to ≤ 33554432 := by omega
  have t3 : 0 ≤ to := by omega
  have Hto : Hid (to = ((fr + 2 * ly : Nat) : Int)) := hto
  clear hto
  go_enter Try.func36, Try.ntmps36
  go_wp2
  go_loopw [9] (fun i wr => ∃ k : Nat, k ≤ ly ∧ i = .int .i64 k ∧ ∃ q, wr = w.drewN q) (fun i _ => ly - (intOf i).toNat)
  case atStart => exact ⟨0, Nat.zero_le _, rfl, 0, rfl⟩
  case round =>
    obtain ⟨k, hk, rfl, q, rfl⟩ := hrel
    by_cases hlt : k < ly
    · obtain ⟨b, off, rfl, hc⟩ := hA (fr + 2 * k) (by have := Hlx.out; omega)
      obtain ⟨b2, off2, hb2, hd⟩ := hA (fr + 2 * k + 1) (by have := Hlx.out; omega)
      simp only [Option.some.injEq, Addr.mk.injEq, and_true] at hb2
      obtain ⟨rfl, rfl⟩ := hb2
      obtain ⟨b', off', rfl, hc'⟩ := hB k (by have := Hly.out; omega)
      obtain ⟨y0, y1⟩ := hy k hlt
      rw [(he k hlt).1] at hc
      rw [(he k hlt).2] at hd
      generalize ys.getD k 0 = y at hc hd hc' y0 y1
      clear hA hB he hy
      have hor := or_back y y0 y1
      go_wp2_with (go_at_call 42; refine (nibble_dg _ _ (by omega) (by omega)).mono ?_; rintro e w' ⟨rfl, rfl⟩)
      go_roundw
      case rel => exact ⟨k + 1, by omega, by go_num, _, rfl⟩
      case measure => simp [intOf]; omega
    · go_wp2
      go_ret
      exact ⟨rfl, q, rfl⟩

end Go.Proofs.Qxb6605914a
