import Derived.Test.Qxb6605914aPlain
import Derived.Test.Qxb6605914aClone
namespace Go.Proofs.Qxb6605914a
open Go.RowKit
set_option maxRecDepth 100000

/-- zzClone: the same bytes, in a new row without spare room; nil for nil -/
theorem clone (w : World) (ao : Option Addr) (n cap : Nat) (xs : List Int) (hx : xs.length = n) (hn : n ≤ 2097152) (hR : Rd w ao xs) :
    Calls Try.prog 8 #[.slice ao n cap] w fun e w' => ∃ ao', e = .returned (.slice ao' n n) ∧ w'.ownsRow 0 5 1 (.slice ao' n n) n (cb xs) ∧ w.grownBy w' none ∧ (∀ b off, ao' = some ⟨b, off, none⟩ → w.heap.size ≤ b ∧ b < w'.heap.size) := by
  cases ao with
  | none =>
    have h0 : n = 0 := by
      rcases Nat.eq_zero_or_pos n with h | h
      · exact h
      · obtain ⟨b, off, e, _⟩ := hR 0 (by omega)
        simp at e
    subst h0
    refine (clone_nil w 0 cap).mono ?_
    rintro e w' ⟨rfl, rfl⟩
    refine ⟨none, rfl, ?_, World.grownBy.refl _ _, by simp⟩
    rw [List.length_eq_zero_iff.1 hx]
    exact World.ownsRow_nil _ _ _ _
  | some a =>
    refine (clone_some w a n cap xs hx hn hR).mono ?_
    rintro e w' ⟨rfl, h1, h2⟩
    refine ⟨_, rfl, by unfold Own at h1; rw [hx] at h1; exact h1, h2, ?_⟩
    intro b off e
    simp at e
    exact ⟨by omega, by rw [← e.1]; exact (h1.lt _ rfl).2⟩

theorem bytes3 (w : World) (a0 a1 a2 : Option Addr) (l0 l1 l2 c0 c1 c2 : Nat) (h0 : l0 ≤ maxLen) (h1 : l1 ≤ maxLen) (h2 : l2 ≤ maxLen) :
    Calls Try.prog 20 #[.slice a0 l0 c0, .slice a1 l1 c1, .slice a2 l2 c2] w fun e w' => e = .returned (.bool (decide (l0 + l1 + l2 ≤ 1048576))) ∧ w' = w := by
  unfold maxLen at h0 h1 h2
  by_cases hs : l0 + l1 + l2 ≤ 1048576
  · rw [decide_eq_true hs]
    go_enter Try.func20, Try.ntmps20
    go_wp2
    go_ret
    exact ⟨rfl, rfl⟩
  · rw [decide_eq_false hs]
    go_enter Try.func20, Try.ntmps20
    go_wp2
    all_goals (go_ret; exact ⟨rfl, rfl⟩)

theorem own_rd {w : World} {ao : Option Addr} {n c : Nat} {xs : List Int} (h : w.ownsRow 0 5 1 (.slice ao n c) n (cb xs)) : Rd w ao xs := by
  have hl : xs.length = n := by have := h.1; rw [cb_length] at this; omega
  have h' : Own w (.slice ao n c) xs := by unfold Own; rw [hl]; exact h
  obtain ⟨ao', c', e, hR, _⟩ := h'.form
  simp only [Value.slice.injEq] at e
  rw [e.1]; exact hR

/-- what the law knows of an argument: nil, or bytes that lie in old memory -/
structure ArgIs (w : World) (ao : Option Addr) (n : Nat) (xs : List Int) : Prop where
  len : xs.length = n
  rd : Rd w ao xs
  byte : ∀ k, k < n → 0 ≤ xs.getD k 0 ∧ xs.getD k 0 ≤ 255
  max : n ≤ maxLen

theorem ArgIs.kept {w w' : World} {ao : Option Addr} {n : Nat} {xs : List Int} (h : ArgIs w ao n xs) (hg : w.grownBy w' none) : ArgIs w' ao n xs :=
  ⟨h.len, fun j hj => by obtain ⟨b, off, h1, h2⟩ := h.rd j hj; exact ⟨b, off, h1, hg.cell h2 (by simp)⟩, h.byte, h.max⟩

theorem below_draws {B : Nat} {a w : World} (h : Below B a w) (n : Nat) : Below B a (w.drewN n) := h.trans ⟨rfl, rfl, rfl, Nat.le_refl _, fun _ _ => rfl⟩
theorem below_of_grown {w w' : World} (h : w.grownBy w' none) : Below w.heap.size w w' := ⟨h.os, h.tape, h.output, h.size, fun k hk => h.block k hk (by simp)⟩

set_option maxHeartbeats 800000 in
theorem keep_big (w : World) (a0 a1 a2 : Option Addr) (l0 l1 l2 c0 c1 c2 : Nat) (z0 z1 z2 : List Int) (h0 : ArgIs w a0 l0 z0) (h1 : ArgIs w a1 l1 z1) (h2 : ArgIs w a2 l2 z2)
    (hbig : ¬ (l0 + l1 + l2 ≤ 1048576 ∧ l0 ≤ 262144 ∧ l1 ≤ 262144 ∧ l2 ≤ 262144)) :
    Calls Try.prog 5 #[.slice a0 l0 c0, .slice a1 l1 c1, .slice a2 l2 c2] w fun e w' => e = .returned (.bool true) ∧ Below w.heap.size w w' := by
  have m0 := h0.max
  have m1 := h1.max
  have m2 := h2.max
  clear h0 h1 h2
  unfold maxLen at m0 m1 m2
  by_cases hs : l0 + l1 + l2 ≤ 1048576
  · have hd : decide (l0 + l1 + l2 ≤ 1048576) = true := decide_eq_true hs
    rcases (show 262144 < l0 ∨ (l0 ≤ 262144 ∧ 262144 < l1) ∨ (l0 ≤ 262144 ∧ l1 ≤ 262144 ∧ 262144 < l2) by omega) with h | h | h
    all_goals
      clear hbig
      go_enter Try.func5, Try.ntmps5
      go_wp2_with (go_at_call 20; refine (bytes3 _ _ _ _ _ _ _ _ _ _ (by unfold maxLen; omega) (by unfold maxLen; omega) (by unfold maxLen; omega)).mono ?_; rintro e w' ⟨rfl, rfl⟩)
      go_ret
      exact ⟨rfl, Below.refl _ _⟩
  · have hd : decide (l0 + l1 + l2 ≤ 1048576) = false := decide_eq_false hs
    clear hbig
    go_enter Try.func5, Try.ntmps5
    go_wp2_with (go_at_call 20; refine (bytes3 _ _ _ _ _ _ _ _ _ _ (by unfold maxLen; omega) (by unfold maxLen; omega) (by unfold maxLen; omega)).mono ?_; rintro e w' ⟨rfl, rfl⟩)
    go_ret
    exact ⟨rfl, Below.refl _ _⟩

set_option maxHeartbeats 1600000 in
theorem keep_small (w : World) (a0 a1 a2 : Option Addr) (l0 l1 l2 c0 c1 c2 : Nat) (z0 z1 z2 : List Int) (h0 : ArgIs w a0 l0 z0) (h1 : ArgIs w a1 l1 z1) (h2 : ArgIs w a2 l2 z2)
    (hs : l0 + l1 + l2 ≤ 1048576) (s0 : l0 ≤ 262144) (s1 : l1 ≤ 262144) (s2 : l2 ≤ 262144) :
    Calls Try.prog 5 #[.slice a0 l0 c0, .slice a1 l1 c1, .slice a2 l2 c2] w fun e w' => e = .returned (.bool true) ∧ Below w.heap.size w w' := by
  have hd : decide (l0 + l1 + l2 ≤ 1048576) = true := decide_eq_true hs
  have H0 := hid h0
  have H1 := hid h1
  have H2 := hid h2
  clear h0 h1 h2
  go_enter Try.func5, Try.ntmps5
  go_wp2_with (go_at_call 20; refine (bytes3 _ _ _ _ _ _ _ _ _ _ (by unfold maxLen; omega) (by unfold maxLen; omega) (by unfold maxLen; omega)).mono ?_; rintro e w' ⟨rfl, rfl⟩)
  refine (clone _ a0 l0 c0 z0 H0.out.len (by omega) (by exact H0.out.rd)).mono ?_
  rintro e w1 ⟨t0, rfl, hO0, hg0, hb0⟩
  have H1 := hid (H1.out.kept hg0)
  have H2 := hid (H2.out.kept hg0)
  have B0 := hid (And.intro hO0 (And.intro hg0 hb0))
  clear hO0 hg0 hb0
  go_wp2_with fail
  refine (clone _ a1 l1 c1 z1 H1.out.len (by omega) (by exact H1.out.rd)).mono ?_
  rintro e w2 ⟨t1, rfl, hO1, hg1, hb1⟩
  have H2 := hid (H2.out.kept hg1)
  have B1 := hid (And.intro hO1 (And.intro hg1 hb1))
  clear hO1 hg1 hb1
  go_wp2_with fail
  refine (clone _ a2 l2 c2 z2 H2.out.len (by omega) (by exact H2.out.rd)).mono ?_
  rintro e w3 ⟨t2, rfl, hO2, hg2, hb2⟩
  have B2 := hid (And.intro hO2 (And.intro hg2 hb2))
  clear hO2 hg2 hb2
  have any : ∀ v : Value, v.ownBlock = none ∨ v.ownBlock ≠ none := fun v => by cases v.ownBlock <;> simp
  have sz1 := B0.out.2.1.size
  have sz2 := B1.out.2.1.size
  have sz3 := B2.out.2.1.size
  have O0 := hid ((B0.out.1.kept B1.out.2.1 (any _)).kept B2.out.2.1 (any _))
  have O1 := hid (B1.out.1.kept B2.out.2.1 (any _))
  have A0 : Hid (Apart w3 t0 none) := fun b off e => ⟨by simp, by have := B0.out.2.2 b off e; omega⟩
  have A1 : Hid (Apart w3 t1 none) := fun b off e => ⟨by simp, by have := B1.out.2.2 b off e; omega⟩
  have A2 : Hid (Apart w3 t2 none) := fun b off e => ⟨by simp, by have := B2.out.2.2 b off e; omega⟩
  have G3 := hid (((below_of_grown B0.out.2.1).trans ((below_of_grown B1.out.2.1).mono sz1)).trans ((below_of_grown B2.out.2.1).mono (by omega)))
  clear any sz1 sz2 sz3
  go_wp2_with fail
  refine (zzSet w3 (.slice t0 l0 l0) l0 l1 l2 l1 l2 t1 t2 z0 z1 z2 H0.out.len H1.out.len H2.out.len O0.out (own_rd O1.out) (own_rd B2.out.1) H1.out.byte H2.out.byte (by omega) none (.inr ⟨rfl, fun a n c e => by simp at e; omega⟩) A1.out A2.out).mono ?_
  rintro e w4 ⟨g, cap, N, rfl, hN, hO4, hS4⟩
  have R0 := hid (hS4.rd (own_rd O0.out) A0.out)
  have R1 := hid (hS4.rd (own_rd O1.out) A1.out)
  have R2 := hid (hS4.rd (own_rd B2.out.1) A2.out)
  have RG := hid (own_rd hO4)
  have hsz := B0.out.2.1.size
  have G4 : Hid (Below w'.heap.size w' w4) := G3.out.trans ((below_of_grown hS4.1).mono (by have := B0.out.2.1.size; have := B1.out.2.1.size; have := B2.out.2.1.size; omega))
  rw [line_length, H1.out.len, H2.out.len] at hN
  have hN1 : l0 ≤ N := by omega
  have hN2 : N ≤ 16777216 := by omega
  have HN := hid hN
  have HL : Hid ((z0 ++ line z1 z2).length = N) := by
    show _ = N
    rw [List.length_append, line_length, H0.out.len, H1.out.len, H2.out.len]; omega
  clear hN hO4 hS4 hsz
  go_wp2_with fail
  refine (range_true _ (some ⟨g, 0, none⟩) t0 cap l0 l0 N l0 (z0 ++ line z1 z2) z0 HL.out H0.out.len hN1 (Nat.le_refl _) hN2 (by exact RG.out) (by exact R0.out.1) (fun k hk => getD_in _ _ _ (by have := H0.out.len; omega))).mono ?_
  rintro e w5 ⟨rfl, q, rfl⟩
  go_wp2_with fail
  refine (parse_true _ (some ⟨g, 0, none⟩) t1 t2 cap l1 l2 l0 N l1 l2 (z0 ++ line z1 z2) z1 z2 HL.out H1.out.len H2.out.len hN2 (by exact RG.out) (by exact R1.out.1) (by exact R2.out.1) H1.out.byte H2.out.byte (by have := lineAt_of z0 [] z1 z2 l0 H0.out.len; simpa using this) (N : Int) (by have := HN.out; omega)).mono ?_
  rintro e w6 ⟨rfl, q2, rfl⟩
  go_wp2_with fail
  go_ret
  exact ⟨by simp, by first | exact below_draws G4.out _ | exact below_draws (below_draws G4.out _) _⟩
end Go.Proofs.Qxb6605914a
