import Derived.Test.Qxb6605914aKeep
namespace Go.Proofs.Qxb6605914a
open Go.RowKit
set_option maxRecDepth 100000

/-- the lengths of the first k slices, added up -/
def sl (Xs : List (List Int)) : Nat → Nat
  | 0 => 0
  | k + 1 => sl Xs k + (Xs.getD k []).length
theorem sl_le (Xs : List (List Int)) : ∀ (n k : Nat), k ≤ n → sl Xs k ≤ sl Xs n
  | 0, k, h => by rw [Nat.le_zero.1 h]; exact Nat.le_refl _
  | n + 1, k, h => by
    rcases Nat.lt_or_ge k (n + 1) with h' | h'
    · have := sl_le Xs n k (by omega)
      simp only [sl]; omega
    · rw [show k = n + 1 by omega]; exact Nat.le_refl _
theorem sl_each (Xs : List (List Int)) (n k : Nat) (h : k < n) : (Xs.getD k []).length ≤ sl Xs n := by
  have := sl_le Xs n (k + 1) h
  simp only [sl] at this; omega

/-- a slice of slices of bytes at ao -/
structure Nest (w : World) (ao : Option Addr) (n : Nat) (Xs : List (List Int)) (A : Nat → Option Addr) (C : Nat → Nat) : Prop where
  len : Xs.length = n
  top : ∀ r, r < n → ∃ b off, ao = some ⟨b, off, none⟩ ∧ w.cell? ⟨b, off + r, none⟩ = some (.slice (A r) (Xs.getD r []).length (C r))
  row : ∀ r, r < n → ArgIs w (A r) (Xs.getD r []).length (Xs.getD r [])
  max : n ≤ maxLen

theorem Nest.kept {w w' : World} {ao : Option Addr} {n : Nat} {Xs : List (List Int)} {A : Nat → Option Addr} {C : Nat → Nat} (h : Nest w ao n Xs A C) (hg : w.grownBy w' none) : Nest w' ao n Xs A C :=
  ⟨h.len, fun r hr => by obtain ⟨b, off, h1, h2⟩ := h.top r hr; exact ⟨b, off, h1, hg.cell h2 (by simp)⟩, fun r hr => (h.row r hr).kept hg, h.max⟩

/-- a bool is returned; if it is true, q holds -/
def Says (e : Ending) (q : Prop) : Prop := ∃ b, e = .returned (.bool b) ∧ (b = true → q)
theorem says_no (q : Prop) : Says (.returned (.bool false)) q := ⟨false, rfl, by simp⟩
theorem says_yes {q : Prop} (h : q) : Says (.returned (.bool true)) q := ⟨true, rfl, fun _ => h⟩

set_option maxHeartbeats 800000 in
theorem bytesN (w : World) (a0 a1 : Option Addr) (n0 n1 c0 c1 : Nat) (X0 X1 : List (List Int)) (A0 A1 : Nat → Option Addr) (C0 C1 : Nat → Nat) (h0 : Nest w a0 n0 X0 A0 C0) (h1 : Nest w a1 n1 X1 A1 C1) :
    Calls Try.prog 23 #[.slice a0 n0 c0, .slice a1 n1 c1] w fun e w' => Says e (n0 + sl X0 n0 + n1 + sl X1 n1 ≤ 1048576) ∧ w' = w := by
  have m0 := h0.max
  have m1 := h1.max
  unfold maxLen at m0 m1
  have H0 := hid h0
  have H1 := hid h1
  clear h0 h1
  by_cases s0 : n0 ≤ 1048576
  rotate_left
  · go_enter Try.func23, Try.ntmps23
    go_wp2
    go_ret
    exact ⟨says_no _, rfl⟩
  go_enter Try.func23, Try.ntmps23
  go_wp2
  go_loop [5, 6] (fun z i => ∃ k : Nat, k ≤ n0 ∧ i = .int .i64 k ∧ ∃ t : Nat, t = n0 + sl X0 k ∧ t ≤ 1048576 ∧ z = .int .i64 t) (fun _ i => n0 - (intOf i).toNat)
  case atStart => exact ⟨0, Nat.zero_le _, rfl, n0, rfl, s0, rfl⟩
  case round =>
    obtain ⟨k, hk, rfl, t, ht, hts, rfl⟩ := hrel
    have Ht := hid ht
    clear ht
    by_cases hlt : k < n0
    · obtain ⟨b, off, rfl, hc⟩ := H0.out.top k hlt
      have hm := (H0.out.row k hlt).max
      unfold maxLen at hm
      have Hs : Hid (sl X0 (k + 1) = sl X0 k + (X0.getD k []).length) := rfl
      generalize (X0.getD k []).length = L at hc hm Hs
      go_wp2
      · go_ret
        exact ⟨says_no _, rfl⟩
      · go_ret
        exact ⟨says_no _, rfl⟩
      · go_round
        case rel => exact ⟨k + 1, by omega, by go_num, t + L, by rw [Hs.out, Ht.out]; omega, by omega, by go_num⟩
        case measure => simp [intOf]; omega
    · obtain rfl : n0 = k := by omega
      go_wp2
      · go_ret
        exact ⟨says_no _, rfl⟩
      · go_ret
        exact ⟨says_no _, rfl⟩
      · go_loop [5, 7] (fun z i => ∃ k : Nat, k ≤ n1 ∧ i = .int .i64 k ∧ ∃ u : Nat, u = n0 + sl X0 n0 + n1 + sl X1 k ∧ u ≤ 1048576 ∧ z = .int .i64 u) (fun _ i => n1 - (intOf i).toNat)
        case atStart => exact ⟨0, Nat.zero_le _, rfl, t + n1, by rw [Ht.out]; rfl, by omega, by go_num⟩
        case round =>
          obtain ⟨k, hk, rfl, u, hu, hus, rfl⟩ := hrel
          have Hu := hid hu
          clear hu
          by_cases hlt : k < n1
          · obtain ⟨b, off, rfl, hc⟩ := H1.out.top k hlt
            have hm := (H1.out.row k hlt).max
            unfold maxLen at hm
            have Hs : Hid (sl X1 (k + 1) = sl X1 k + (X1.getD k []).length) := rfl
            generalize (X1.getD k []).length = L at hc hm Hs
            go_wp2
            · go_ret
              exact ⟨says_no _, rfl⟩
            · go_ret
              exact ⟨says_no _, rfl⟩
            · go_round
              case rel => exact ⟨k + 1, by omega, by go_num, u + L, by rw [Hs.out, Hu.out]; omega, by omega, by go_num⟩
              case measure => simp [intOf]; omega
          · obtain rfl : n1 = k := by omega
            go_wp2
            go_ret
            exact ⟨says_yes (by rw [← Hu.out]; exact hus), rfl⟩

set_option maxHeartbeats 800000 in
theorem nestedBytes (w : World) (a0 a1 : Option Addr) (n0 n1 c0 c1 : Nat) (X0 X1 : List (List Int)) (A0 A1 : Nat → Option Addr) (C0 C1 : Nat → Nat) (h0 : Nest w a0 n0 X0 A0 C0) (h1 : Nest w a1 n1 X1 A1 C1)
    (s0 : n0 ≤ 65536) (s1 : n1 ≤ 65536) (b0 : ∀ r, r < n0 → (X0.getD r []).length ≤ 1048576) (b1 : ∀ r, r < n1 → (X1.getD r []).length ≤ 1048576) :
    Calls Try.prog 24 #[.slice a0 n0 c0, .slice a1 n1 c1] w fun e w' => (∃ t, e = .returned (.int .i64 t)) ∧ w' = w := by
  have H0 := hid h0
  have H1 := hid h1
  have B0 := hid b0
  have B1 := hid b1
  clear h0 h1 b0 b1
  go_enter Try.func24, Try.ntmps24
  go_wp2
  go_loop [5, 6] (fun z i => ∃ k : Nat, k ≤ n0 ∧ i = .int .i64 k ∧ ∃ t : Int, 0 ≤ t ∧ t ≤ 8388608 ∧ z = .int .i64 t) (fun _ i => n0 - (intOf i).toNat)
  case atStart => exact ⟨0, Nat.zero_le _, rfl, _, by omega, by omega, rfl⟩
  case round =>
    obtain ⟨k, hk, rfl, t, ht0, ht1, rfl⟩ := hrel
    by_cases hlt : k < n0
    · obtain ⟨b, off, rfl, hc⟩ := H0.out.top k hlt
      have hm := B0.out k hlt
      generalize (X0.getD k []).length = L at hc hm
      go_wp2
      · go_ret
        exact ⟨⟨_, rfl⟩, rfl⟩
      · go_round
        case rel => exact ⟨k + 1, by omega, by go_num, t + L, by omega, by omega, rfl⟩
        case measure => simp [intOf]; omega
    · go_wp2
      go_loop [5, 7] (fun z i => ∃ k : Nat, k ≤ n1 ∧ i = .int .i64 k ∧ ∃ t : Int, 0 ≤ t ∧ t ≤ 8388608 ∧ z = .int .i64 t) (fun _ i => n1 - (intOf i).toNat)
      case atStart => exact ⟨0, Nat.zero_le _, rfl, _, ht0, ht1, rfl⟩
      case round =>
        obtain ⟨k, hk, rfl, t, ht0, ht1, rfl⟩ := hrel
        by_cases hlt : k < n1
        · obtain ⟨b, off, rfl, hc⟩ := H1.out.top k hlt
          have hm := B1.out k hlt
          generalize (X1.getD k []).length = L at hc hm
          go_wp2
          · go_ret
            exact ⟨⟨_, rfl⟩, rfl⟩
          · go_round
            case rel => exact ⟨k + 1, by omega, by go_num, t + L, by omega, by omega, rfl⟩
            case measure => simp [intOf]; omega
        · go_wp2
          go_ret
          exact ⟨⟨_, rfl⟩, rfl⟩
end Go.Proofs.Qxb6605914a
