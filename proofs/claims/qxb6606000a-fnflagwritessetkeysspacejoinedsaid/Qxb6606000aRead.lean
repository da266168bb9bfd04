import Derived.Test.Qxb6606000aMem
namespace Go.Proofs.Qxb6606000a
open Go.RowKit
set_option maxRecDepth 100000

/-- bytes, strings, bools as values -/
def fB (B : List Int) (j : Nat) : Value := .int .u8 (B.getD j 0)
def fK (K : List ByteArray) (j : Nat) : Value := .string (K.getD j ByteArray.empty)
def fS (S : List Bool) (j : Nat) : Value := .bool (S.getD j false)

/-- the lengths of the first k strings, added up -/
def sl (K : List ByteArray) : Nat → Nat
  | 0 => 0
  | k + 1 => sl K k + (K.getD k ByteArray.empty).size
theorem sl_le (K : List ByteArray) : ∀ (n k : Nat), k ≤ n → sl K k ≤ sl K n
  | 0, k, h => by rw [Nat.le_zero.1 h]; exact Nat.le_refl _
  | n + 1, k, h => by
    rcases Nat.lt_or_ge k (n + 1) with h' | h'
    · have := sl_le K n k (by omega)
      simp only [sl]; omega
    · rw [show k = n + 1 by omega]; exact Nat.le_refl _
theorem sl_each (K : List ByteArray) (n k : Nat) (h : k < n) : (K.getD k ByteArray.empty).size ≤ sl K n := by
  have := sl_le K n (k + 1) h
  simp only [sl] at this; omega

def Says (e : Ending) (q : Prop) : Prop := ∃ b, e = .returned (.bool b) ∧ (b = true → q)
theorem says_no (q : Prop) : Says (.returned (.bool false)) q := ⟨false, rfl, by simp⟩
theorem says_yes {q : Prop} (h : q) : Says (.returned (.bool true)) q := ⟨true, rfl, fun _ => h⟩

set_option maxHeartbeats 800000 in
theorem bytes4 (w : World) (a0 a2 a3 : Option Addr) (n0 n2 n3 c0 c2 c3 : Nat) (st : Int) (K : List ByteArray) (m0 : n0 ≤ maxLen) (m2 : n2 ≤ maxLen) (m3 : n3 ≤ maxLen) (hK : Rd w a2 n2 (fK K)) (hm : ∀ r, r < n2 → (K.getD r ByteArray.empty).size ≤ maxLen) :
    Calls Try.prog 4 #[.slice a0 n0 c0, .int .i64 st, .slice a2 n2 c2, .slice a3 n3 c3] w fun e w' => Says e (n0 + n2 + sl K n2 + n3 ≤ 1048576) ∧ w' = w := by
  unfold maxLen at m0 m2 m3
  have HK := hid hK
  have HM := hid hm
  clear hK hm
  by_cases s0 : n0 ≤ 1048576
  rotate_left
  · go_enter Try.func4, Try.ntmps4
    go_wp2
    go_ret
    exact ⟨says_no _, rfl⟩
  by_cases s2 : n0 + n2 ≤ 1048576
  rotate_left
  · go_enter Try.func4, Try.ntmps4
    go_wp2
    all_goals (go_ret; exact ⟨says_no _, rfl⟩)
  go_enter Try.func4, Try.ntmps4
  go_wp2
  go_loop [9, 10] (fun z i => ∃ k : Nat, k ≤ n2 ∧ i = .int .i64 k ∧ ∃ t : Nat, t = n0 + n2 + sl K k ∧ t ≤ 1048576 ∧ z = .int .i64 t) (fun _ i => n2 - (intOf i).toNat)
  case atStart => exact ⟨0, Nat.zero_le _, rfl, n0 + n2, rfl, s2, by go_num⟩
  case round =>
    obtain ⟨k, hk, rfl, t, ht, hts, rfl⟩ := hrel
    have Ht := hid ht
    clear ht
    by_cases hlt : k < n2
    · obtain ⟨b, off, rfl, hc⟩ := HK.out k hlt
      have hm := HM.out k hlt
      unfold maxLen at hm
      unfold fK at hc
      have Hs : Hid (sl K (k + 1) = sl K k + (K.getD k ByteArray.empty).size) := rfl
      generalize K.getD k ByteArray.empty = s at hc hm Hs
      go_wp2
      · go_ret
        exact ⟨says_no _, rfl⟩
      · go_ret
        exact ⟨says_no _, rfl⟩
      · go_round
        case rel => exact ⟨k + 1, by omega, by go_num, t + s.size, by rw [Hs.out, Ht.out]; omega, by omega, by go_num⟩
        case measure => simp [intOf]; omega
    · obtain rfl : n2 = k := by omega
      go_wp2
      · go_ret
        exact ⟨says_no _, rfl⟩
      · go_ret
        exact ⟨says_no _, rfl⟩
      · go_ret
        exact ⟨says_yes (by have := Ht.out; omega), rfl⟩

/-- zzStringsBytes: never more than 2^20 + 1; where it is at most 2^20 it is the sum of all lengths and 16 for each -/
theorem strBytes (w : World) (a2 : Option Addr) (n2 c2 : Nat) (K : List ByteArray) (m2 : n2 ≤ 1048576) (hK : Rd w a2 n2 (fK K)) (hm : ∀ r, r < n2 → (K.getD r ByteArray.empty).size ≤ 1048576) :
    Calls Try.prog 5 #[.slice a2 n2 c2] w fun e w' => (∃ t : Nat, e = .returned (.int .i64 t) ∧ t ≤ 1048577 ∧ (t ≤ 1048576 → t = 16 * n2 + sl K n2)) ∧ w' = w := by
  have HK := hid hK
  have HM := hid hm
  clear hK hm
  go_enter Try.func5, Try.ntmps5
  go_wp2
  go_loop [3, 4] (fun z i => ∃ k : Nat, k ≤ n2 ∧ i = .int .i64 k ∧ ∃ t : Nat, t = 16 * k + sl K k ∧ t ≤ 1048576 ∧ z = .int .i64 t) (fun _ i => n2 - (intOf i).toNat)
  case atStart => exact ⟨0, Nat.zero_le _, rfl, 0, rfl, Nat.zero_le _, rfl⟩
  case round =>
    obtain ⟨k, hk, rfl, t, ht, hts, rfl⟩ := hrel
    have Ht := hid ht
    clear ht
    by_cases hlt : k < n2
    · obtain ⟨b, off, rfl, hc⟩ := HK.out k hlt
      have hm := HM.out k hlt
      unfold fK at hc
      have Hs : Hid (sl K (k + 1) = sl K k + (K.getD k ByteArray.empty).size) := rfl
      generalize K.getD k ByteArray.empty = s at hc hm Hs
      go_wp2
      · go_ret
        exact ⟨⟨1048577, rfl, by omega, by omega⟩, rfl⟩
      · go_round
        case rel => exact ⟨k + 1, by omega, by go_num, t + (16 + s.size), by rw [Hs.out, Ht.out]; omega, by omega, by go_num⟩
        case measure => simp [intOf]; omega
    · obtain rfl : n2 = k := by omega
      go_wp2
      go_ret
      exact ⟨⟨t, rfl, by omega, fun _ => Ht.out⟩, rfl⟩

theorem startFits (w : World) (a0 : Option Addr) (n0 c0 : Nat) (st : Int) (B : List Int) (m0 : n0 ≤ 1048576) (hB : Rd w a0 n0 (fB B)) :
    Calls Try.prog 6 #[.slice a0 n0 c0, .int .i64 st] w fun e w' => Says e (0 ≤ st ∧ st ≤ n0) ∧ w' = w := by
  by_cases h : 0 ≤ st ∧ st ≤ n0
  · obtain ⟨h1, h2⟩ := h
    by_cases hz : st = 0
    · subst hz
      clear hB
      go_enter Try.func6, Try.ntmps6
      go_wp2
      go_ret
      exact ⟨says_yes (by omega), rfl⟩
    · obtain ⟨k, rfl⟩ : ∃ k : Nat, st = (k : Int) + 1 := ⟨(st - 1).toNat, by omega⟩
      obtain ⟨b, off, rfl, hc⟩ := hB k (by omega)
      unfold fB at hc
      generalize B.getD k 0 = y at hc
      clear hB hz
      have hz : ((k : Int) + 1 == 0) = false := by simp; omega
      have hk : (k : Int) + 1 - 1 = k := by omega
      go_enter Try.func6, Try.ntmps6
      go_wp2
      go_ret
      refine ⟨?_, rfl⟩
      refine ⟨_, rfl, fun _ => by omega⟩
  · have h' : st < 0 ∨ (0 ≤ st ∧ (n0 : Int) < st) := by omega
    clear hB h
    rcases h' with h | h
    · go_enter Try.func6, Try.ntmps6
      go_wp2
      go_ret
      exact ⟨says_no _, rfl⟩
    · go_enter Try.func6, Try.ntmps6
      go_wp2
      go_ret
      exact ⟨says_no _, rfl⟩

theorem same_true (w : World) (ao bo : Option Addr) (ca cb' n : Nat) (B : List Int) (hn : n ≤ 16777216)
    (hA : Rd w ao n (fB B)) (hB : Rd w bo n (fB B)) :
    Calls Try.prog 12 #[.slice ao n ca, .slice bo n cb'] w fun e w' => e = .returned (.bool true) ∧ ∃ q, w' = w.drewN q := by
  go_enter Try.func12, Try.ntmps12
  go_wp2
  go_loopw [5] (fun i wr => ∃ k : Nat, k ≤ n ∧ i = .int .i64 k ∧ ∃ q, wr = w.drewN q) (fun i _ => n - (intOf i).toNat)
  case atStart => exact ⟨0, Nat.zero_le _, rfl, 0, rfl⟩
  case round =>
    obtain ⟨k, hk, rfl, q, rfl⟩ := hrel
    by_cases hlt : k < n
    · obtain ⟨b, off, rfl, hc⟩ := hA k hlt
      obtain ⟨b', off', rfl, hc'⟩ := hB k hlt
      unfold fB at hc hc'
      generalize B.getD k 0 = u at hc hc'
      clear hA hB
      have i1 : (k : Int) < (n : Int) := by omega
      go_wp2
      go_quiet (fail)
      go_wp2
      go_roundw
      case rel => exact ⟨k + 1, by omega, by go_num, _, rfl⟩
      case measure => simp [intOf]; omega
    · go_wp2
      go_ret
      exact ⟨rfl, q, rfl⟩
end Go.Proofs.Qxb6606000a
