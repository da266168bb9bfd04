import Derived.Test.Qxb6606005aQItems
namespace Go.Proofs.Qxb6606005a.Hp
open Go.RowKit

def oke (x : Ent) : Prop := okf x.tm
theorem eless_asymm {x y : Ent} (hx : oke x) (hy : oke y) (h : eless x y = true) : eless y x = false := less_asymm hx hy h
theorem eless_negtrans {x y z : Ent} (hx : oke x) (hy : oke y) (hz : oke z) (h1 : eless x y = false) (h2 : eless y z = false) : eless x z = false := less_negtrans hx hy hz h1 h2
theorem eless_irrefl {x : Ent} (hx : oke x) : eless x x = false := less_irrefl hx

/-- the entries f 0 .. f (n-1) are a heap -/
def HeapE (n : Nat) (f : Nat → Ent) : Prop := ∀ i, 1 ≤ i → i < n → eless (f i) (f ((i - 1) / 2)) = false

/-- a heap but for the place p -/
def HeapX (n : Nat) (f : Nat → Ent) (p : Nat) : Prop :=
  (∀ i, 1 ≤ i → i < n → i ≠ p → eless (f i) (f ((i - 1) / 2)) = false) ∧
  (0 < p → ∀ c, 1 ≤ c → c < n → (c - 1) / 2 = p → eless (f c) (f ((p - 1) / 2)) = false)

theorem heapX_step {n p : Nat} {f : Nat → Ent} (hok : ∀ i, i < n → oke (f i)) (hp : 0 < p) (hpn : p < n) (h : HeapX n f p) (hl : eless (f p) (f ((p - 1) / 2)) = true) :
    HeapX n (swp f p ((p - 1) / 2)) ((p - 1) / 2) := by
  obtain ⟨h1, h2⟩ := h
  have h2 := h2 hp
  generalize hq : (p - 1) / 2 = q at *
  have hqp : q < p := by omega
  have eq_q : swp f p q q = f p := by simp [swp]
  have eq_p : swp f p q p = f q := by unfold swp; rw [if_neg (by omega), if_pos rfl]
  have eq_o : ∀ m, m ≠ p → m ≠ q → swp f p q m = f m := fun m a b => by simp only [swp]; rw [if_neg b, if_neg a]
  have okp := hok p hpn
  have okq := hok q (by omega)
  refine ⟨fun i hi1 hin hiq => ?_, fun hq0 c hc1 hcn hcq => ?_⟩
  · by_cases hip : i = p
    · subst hip
      rw [hq, eq_p, eq_q]
      exact eless_asymm okp okq hl
    · rw [eq_o i hip hiq]
      by_cases e1 : (i - 1) / 2 = p
      · rw [e1, eq_p]; exact h2 i hi1 hin e1
      · by_cases e2 : (i - 1) / 2 = q
        · rw [e2, eq_q]
          have := h1 i hi1 hin hip
          rw [e2] at this
          exact eless_negtrans (hok i hin) okq okp this (eless_asymm okp okq hl)
        · rw [eq_o _ e1 e2]; exact h1 i hi1 hin hip
  · rw [eq_o ((q - 1) / 2) (by omega) (by omega)]
    have hqq := h1 q (by omega) (by omega) (by omega)
    by_cases hcp : c = p
    · subst hcp; rw [eq_p]; exact hqq
    · rw [eq_o c hcp (by omega)]
      have := h1 c hc1 hcn hcp
      rw [hcq] at this
      exact eless_negtrans (hok c hcn) okq (hok _ (by omega)) this hqq

/-- what holds of the entries in whatever order -/
structure Same (n : Nat) (X : Nat → Nat) (S : Nat → Int) (f : Nat → Ent) : Prop where
  own : ∀ i, i < n → ∃ t, t < n ∧ (f i).tag = (t : Int) + 1 ∧ (f i).tm = X t ∧ (f i).seq = S t
  inj : ∀ i j, i < n → j < n → (f i).tag = (f j).tag → i = j
  sur : ∀ t : Nat, t < n → ∃ i, i < n ∧ (f i).tag = (t : Int) + 1

theorem swp_swp (f : Nat → Ent) (i j : Nat) (m : Nat) : swp f i j m = f (if m = j then i else if m = i then j else m) := by
  simp only [swp]; by_cases h1 : m = j
  · rw [if_pos h1, if_pos h1]
  · rw [if_neg h1, if_neg h1]; by_cases h2 : m = i
    · rw [if_pos h2, if_pos h2]
    · rw [if_neg h2, if_neg h2]

theorem Same.swap {n : Nat} {X : Nat → Nat} {S : Nat → Int} {f : Nat → Ent} (h : Same n X S f) {i j : Nat} (hi : i < n) (hj : j < n) : Same n X S (swp f i j) := by
  refine ⟨fun m hm => ?_, fun a b ha hb hab => ?_, fun t ht => ?_⟩
  · rw [swp_swp]; exact h.own _ (by split; exact hi; split; exact hj; exact hm)
  · rw [swp_swp, swp_swp] at hab
    have := h.inj _ _ (by split; exact hi; split; exact hj; exact ha) (by split; exact hi; split; exact hj; exact hb) hab
    split at this <;> split at this <;> (try split at this) <;> (try split at this) <;> omega
  · obtain ⟨m, hm, e⟩ := h.sur t ht
    refine ⟨if m = j then i else if m = i then j else m, by split; exact hi; split; exact hj; exact hm, ?_⟩
    rw [swp_swp, ← e]
    congr 2
    by_cases h1 : m = j
    · rw [if_pos h1]
      by_cases h2 : i = j
      · rw [if_pos h2]; omega
      · rw [if_neg h2, if_pos rfl]; omega
    · rw [if_neg h1]; by_cases h2 : m = i
      · rw [if_pos h2, if_pos rfl]; omega
      · rw [if_neg h2, if_neg h1, if_neg h2]

theorem Same.add {n : Nat} {X : Nat → Nat} {S : Nat → Int} {f : Nat → Ent} (h : Same n X S f) (b : Nat) : Same (n + 1) X S (upf f n ⟨X n, S n, b, (n : Int) + 1⟩ 0) := by
  have en : upf f n ⟨X n, S n, b, (n : Int) + 1⟩ 0 n = ⟨X n, S n, b, (n : Int) + 1⟩ := by simp [upf]
  have eo : ∀ m, m ≠ n → upf f n ⟨X n, S n, b, (n : Int) + 1⟩ 0 m = f m := fun m hm => by simp only [upf]; rw [if_neg hm]
  refine ⟨fun m hm => ?_, fun i j hi hj hij => ?_, fun t ht => ?_⟩
  · by_cases h1 : m = n
    · subst h1; rw [en]; exact ⟨m, by omega, rfl, rfl, rfl⟩
    · rw [eo m h1]
      obtain ⟨t, h2, h3⟩ := h.own m (by omega)
      exact ⟨t, by omega, h3⟩
  · by_cases h1 : i = n
    · by_cases h2 : j = n
      · omega
      · subst h1
        rw [en, eo j h2] at hij
        obtain ⟨t, h3, h4, _⟩ := h.own j (by omega)
        rw [h4] at hij; simp only at hij; omega
    · by_cases h2 : j = n
      · subst h2
        rw [en, eo i h1] at hij
        obtain ⟨t, h3, h4, _⟩ := h.own i (by omega)
        rw [h4] at hij; simp only at hij; omega
      · rw [eo i h1, eo j h2] at hij
        exact h.inj i j (by omega) (by omega) hij
  · by_cases h1 : t = n
    · subst h1; exact ⟨t, by omega, by rw [en]⟩
    · obtain ⟨i, h2, h3⟩ := h.sur t (by omega)
      exact ⟨i, by omega, by rw [eo i (by omega)]; exact h3⟩

theorem Same.ok {n : Nat} {X : Nat → Nat} {S : Nat → Int} {f : Nat → Ent} (h : Same n X S f) (hX : ∀ j, j < n → okf (X j)) : ∀ i, i < n → oke (f i) := fun i hi => by
  obtain ⟨t, h1, h2, h3, h4⟩ := h.own i hi; unfold oke; rw [h3]; exact hX t h1

/-- one push -/
theorem pushed {n : Nat} {X : Nat → Nat} {S : Nat → Int} {f : Nat → Ent} (h : Same n X S f) (hh : HeapE n f) (hX : ∀ j, j < n + 1 → okf (X j)) (b r : Nat) (hs : Sifted f n ⟨X n, S n, b, (n : Int) + 1⟩ r) :
    Same (n + 1) X S (upf f n ⟨X n, S n, b, (n : Int) + 1⟩ r) ∧ HeapE (n + 1) (upf f n ⟨X n, S n, b, (n : Int) + 1⟩ r) := by
  generalize hx : (⟨X n, S n, b, (n : Int) + 1⟩ : Ent) = x at *
  have key : ∀ j, j ≤ r → Same (n + 1) X S (upf f n x j) ∧ HeapX (n + 1) (upf f n x j) (anc n j) := by
    intro j
    induction j with
    | zero =>
      intro _
      refine ⟨by rw [← hx]; exact h.add b, fun i h1 h2 h3 => ?_, fun _ c h1 h2 h3 => ?_⟩
      · simp only [anc] at h3
        have e1 : upf f n x 0 i = f i := by simp only [upf]; rw [if_neg h3]
        have e2 : upf f n x 0 ((i - 1) / 2) = f ((i - 1) / 2) := by simp only [upf]; rw [if_neg (by omega)]
        rw [e1, e2]; exact hh i h1 (by omega)
      · simp only [anc] at h3; omega
    | succ j ih =>
      intro hj
      obtain ⟨a1, a2⟩ := ih (by omega)
      obtain ⟨b1, b2⟩ := hs.1 (j + 1) (by omega) hj
      rw [Nat.add_sub_cancel] at b2
      have hle := anc_le n j
      have hlt := anc_lt b2
      have e := upf_swap f n x j b2
      have ea : (anc n j - 1) / 2 = anc n (j + 1) := rfl
      rw [← e]
      refine ⟨a1.swap (by omega) (by omega), ?_⟩
      rw [← ea]
      exact heapX_step (a1.ok (fun j hj => hX j hj)) b2 (by omega) a2 (by rw [upf_self, ea, upf_above f n x j _ hlt]; exact b1)
  obtain ⟨k1, k2⟩ := key r (Nat.le_refl _)
  refine ⟨k1, fun i h1 h2 => ?_⟩
  by_cases hi : i = anc n r
  · rcases hs.2 with h0 | h0
    · omega
    · subst hi
      have ea : (anc n r - 1) / 2 = anc n (r + 1) := rfl
      rw [upf_self, ea, upf_above f n x r _ (anc_lt (by omega))]; exact h0
  · exact k2.1 i h1 h2 hi

/-- the root is no greater than any -/
theorem root_le {n : Nat} {f : Nat → Ent} (hok : ∀ i, i < n → oke (f i)) (hh : HeapE n f) : ∀ i, i < n → eless (f i) (f 0) = false := by
  intro i
  induction i using Nat.strongRecOn with
  | ind i ih =>
    intro hi
    by_cases h0 : i = 0
    · subst h0; exact eless_irrefl (hok 0 hi)
    · exact eless_negtrans (hok i hi) (hok ((i - 1) / 2) (by omega)) (hok 0 (by omega)) (hh i (by omega) hi) (ih ((i - 1) / 2) (by omega) (by omega))

/-! ### the path -/
theorem anc_mono (n : Nat) : ∀ r j, r ≤ j → anc n j ≤ anc n r
  | r, j, h => by
    induction j with
    | zero => obtain rfl : r = 0 := by omega
              exact Nat.le_refl _
    | succ j ih =>
      rcases Nat.lt_or_ge r (j + 1) with h' | h'
      · have := ih (by omega); have h2 : anc n (j + 1) ≤ anc n j := by simp only [anc]; omega
        omega
      · obtain rfl : r = j + 1 := by omega
        exact Nat.le_refl _

/-- the path, below its end, names each place once -/
theorem anc_strict {n a b : Nat} (h : a < b) (ha : 0 < anc n a) : anc n b < anc n a := by
  have h1 := anc_lt ha
  have h2 := anc_mono n (a + 1) b h
  omega

/-- on the path -/
theorem upf_path (f : Nat → Ent) (n : Nat) (x : Ent) : ∀ (r j : Nat), j < r → (∀ i, i < r → 0 < anc n i) → upf f n x r (anc n j) = f (anc n (j + 1))
  | 0, j, h, _ => by omega
  | r + 1, j, h, hp => by
    simp only [upf]
    have h1 : anc n (r + 1) < anc n j := by
      rcases Nat.lt_or_ge j r with h' | h'
      · exact anc_strict h (hp j h)
      · obtain rfl : j = r := by omega
        exact anc_lt (hp j h)
    rw [if_neg (by omega)]
    rcases Nat.lt_or_ge j r with h' | h'
    · have := anc_strict (n := n) h' (hp j h)
      rw [if_neg (by omega)]
      exact upf_path f n x r j h' (fun i hi => hp i (by omega))
    · obtain rfl : j = r := by omega
      rw [if_pos rfl]

/-- off the path -/
theorem upf_off (f : Nat → Ent) (n : Nat) (x : Ent) : ∀ (r m : Nat), (∀ j, j ≤ r → m ≠ anc n j) → upf f n x r m = f m
  | 0, m, h => by simp only [upf]; rw [if_neg (by have := h 0 (Nat.le_refl _); simpa [anc] using this)]
  | r + 1, m, h => by
    simp only [upf]
    rw [if_neg (h (r + 1) (Nat.le_refl _)), if_neg (h r (by omega))]
    exact upf_off f n x r m (fun j hj => h j (by omega))

/-- along the path the comparison says 'less' up to r and no longer -/
theorem path_less {n : Nat} {f : Nat → Ent} {x : Ent} {r : Nat} (hx : oke x) (hok : ∀ i, i < n → oke (f i)) (hh : HeapE n f) (hs : Sifted f n x r) (j : Nat) (h1 : 1 ≤ j) (hj : 0 < anc n (j - 1)) :
    eless x (f (anc n j)) = decide (j ≤ r) := by
  by_cases h : j ≤ r
  · rw [decide_eq_true h]; exact (hs.1 j h1 h).1
  · rw [decide_eq_false h]
    have hr0 : 0 < anc n r := by
      have := anc_mono n r (j - 1) (by omega); omega
    have h0 : eless x (f (anc n (r + 1))) = false := by
      rcases hs.2 with h' | h'
      · omega
      · exact h'
    have lt : ∀ i, 1 ≤ i → 0 < anc n (i - 1) → anc n i < n := fun i h1 h2 => by
      have := anc_lt h2; rw [Nat.sub_add_cancel h1] at this
      have := anc_le n (i - 1); omega
    have key : ∀ d, 0 < anc n (r + d) → eless x (f (anc n (r + 1 + d))) = false := by
      intro d
      induction d with
      | zero => intro _; exact h0
      | succ d ih =>
        intro hd
        have hd' : 0 < anc n (r + d) := by have := anc_mono n (r + d) (r + (d + 1)) (by omega); omega
        have e1 : r + (d + 1) = r + 1 + d := by omega
        have e2 : r + 1 + (d + 1) = (r + 1 + d) + 1 := by omega
        have l1 := lt (r + 1 + d) (by omega) (by rw [show r + 1 + d - 1 = r + d by omega]; exact hd')
        rw [e1] at hd
        have l2 := anc_lt hd
        rw [e2]
        exact eless_negtrans hx (hok _ l1) (hok _ (by omega)) (ih hd') (hh (anc n (r + 1 + d)) (by omega) l1)
    have := key (j - 1 - r) (by rw [show r + (j - 1 - r) = j - 1 by omega]; exact hj)
    rw [show r + 1 + (j - 1 - r) = j by omega] at this
    exact this
end Go.Proofs.Qxb6606005a.Hp
