import Derived.Test.Qxb6606000aFlag
namespace Go.Proofs.Qxb6606000a

/-- is the k-th key set? -/
def on (S : List Bool) (ns k : Nat) : Bool := decide (k < ns) && S.getD k false

/-- the set keys among the first k -/
def wds (K : List ByteArray) (S : List Bool) (ns : Nat) : Nat → List ByteArray
  | 0 => []
  | k + 1 => if on S ns k then wds K S ns k ++ [K.getD k ByteArray.empty] else wds K S ns k

/-- what the line holds after the first k flags -/
def cur (st : Int) (B : List Int) (K : List ByteArray) (S : List Bool) (ns : Nat) : Nat → List Int
  | 0 => B
  | k + 1 => if on S ns k then addw st (cur st B K S ns k) (K.getD k ByteArray.empty) else cur st B K S ns k

def sp (st : Int) (B : List Int) : List Int := if st < B.length then [32] else []

/-- B and the words behind it, joined by single spaces -/
def wt (st : Int) (B : List Int) : List ByteArray → List Int
  | [] => B
  | x :: t => B ++ sp st B ++ kb x ++ t.flatMap fun y => 32 :: kb y

theorem wt_snoc (st : Int) (B : List Int) (hst : st ≤ B.length) (ws : List ByteArray) (hw : ∀ r, r < ws.length → 0 < (ws.getD r ByteArray.empty).size) (y : ByteArray) : wt st B (ws ++ [y]) = addw st (wt st B ws) y := by
  cases ws with
  | nil =>
    simp only [wt, addw, sp, List.nil_append, List.flatMap_nil, List.append_nil]
    rfl
  | cons x t =>
    have hx := hw 0 (by simp)
    simp only [List.getD_cons_zero] at hx
    have hlen : st < ((wt st B (x :: t)).length : Int) := by
      have := kb_length x
      simp only [wt, List.length_append]
      omega
    rw [addw, if_pos hlen]
    simp [wt]

theorem getD_snoc_lt {α : Type} (ws : List α) (y d : α) {r : Nat} (h : r < ws.length) : (ws ++ [y]).getD r d = ws.getD r d := by simp [List.getD, List.getElem?_append_left h]
theorem getD_snoc_eq {α : Type} (ws : List α) (y d : α) : (ws ++ [y]).getD ws.length d = y := by simp [List.getD]

theorem wds_from (K : List ByteArray) (S : List Bool) (ns : Nat) : ∀ (k r : Nat), r < (wds K S ns k).length → ∃ i, i < k ∧ on S ns i = true ∧ (wds K S ns k).getD r ByteArray.empty = K.getD i ByteArray.empty
  | 0, r, h => by simp [wds] at h
  | k + 1, r, h => by
    by_cases hon : on S ns k = true
    · simp only [wds, hon, if_true] at h ⊢
      rcases Nat.lt_or_ge r (wds K S ns k).length with h' | h'
      · obtain ⟨i, h1, h2, h3⟩ := wds_from K S ns k r h'
        exact ⟨i, by omega, h2, by rw [getD_snoc_lt _ _ _ h']; exact h3⟩
      · simp only [List.length_append, List.length_cons, List.length_nil] at h
        obtain rfl : r = (wds K S ns k).length := by omega
        exact ⟨k, by omega, hon, getD_snoc_eq _ _ _⟩
    · simp only [wds, hon] at h ⊢
      simp only [Bool.false_eq_true, if_false] at h ⊢
      obtain ⟨i, h1, h2, h3⟩ := wds_from K S ns k r h
      exact ⟨i, by omega, h2, h3⟩

theorem wds_len (K : List ByteArray) (S : List Bool) (ns : Nat) : ∀ k, (wds K S ns k).length ≤ k
  | 0 => by simp [wds]
  | k + 1 => by
    have := wds_len K S ns k
    simp only [wds]
    split <;> simp <;> omega

theorem sl_snoc (ws : List ByteArray) (y : ByteArray) : ∀ j, j ≤ ws.length → sl (ws ++ [y]) j = sl ws j
  | 0, _ => rfl
  | j + 1, h => by simp only [sl]; rw [sl_snoc ws y j (by omega), getD_snoc_lt _ _ _ (by omega)]

theorem wds_sl (K : List ByteArray) (S : List Bool) (ns : Nat) : ∀ k, sl (wds K S ns k) (wds K S ns k).length ≤ sl K k
  | 0 => by simp [wds, sl]
  | k + 1 => by
    have := wds_sl K S ns k
    by_cases hon : on S ns k = true
    · simp only [wds, hon, if_true, List.length_append, List.length_cons, List.length_nil, Nat.zero_add, sl]
      rw [sl_snoc _ _ _ (Nat.le_refl _), getD_snoc_eq]
      omega
    · simp only [wds, hon, sl]
      simp only [Bool.false_eq_true, if_false]
      omega

theorem cur_eq (st : Int) (B : List Int) (K : List ByteArray) (S : List Bool) (ns n : Nat) (hst : st ≤ B.length) (hne : ∀ r, r < n → on S ns r = true → 0 < (K.getD r ByteArray.empty).size) : ∀ k, k ≤ n → cur st B K S ns k = wt st B (wds K S ns k)
  | 0, _ => rfl
  | k + 1, h => by
    have ih := cur_eq st B K S ns n hst hne k (by omega)
    by_cases hon : on S ns k = true
    · simp only [cur, wds, hon, if_true]
      rw [wt_snoc st B hst _ (fun r hr => ?_), ih]
      obtain ⟨i, h1, h2, h3⟩ := wds_from K S ns k r hr
      rw [h3]; exact hne i (by omega) h2
    · simp only [cur, wds, hon]
      simp only [Bool.false_eq_true, if_false]
      exact ih

theorem addw_len (st : Int) (C : List Int) (s : ByteArray) : (addw st C s).length ≤ C.length + 1 + s.size := by
  have := kb_length s
  unfold addw
  split <;> simp <;> omega

theorem cur_len (st : Int) (B : List Int) (K : List ByteArray) (S : List Bool) (ns : Nat) : ∀ k, (cur st B K S ns k).length ≤ B.length + k + sl K k
  | 0 => by simp [cur, sl]
  | k + 1 => by
    have ih := cur_len st B K S ns k
    have := addw_len st (cur st B K S ns k) (K.getD k ByteArray.empty)
    simp only [cur, sl]
    split <;> omega

/-- what the wanted text holds at the head of round j -/
def wj (st : Int) (B : List Int) (ws : List ByteArray) (j : Nat) : List Int := if j = 0 then B ++ sp st B else wt st B (ws.take j)

theorem wj_zero (st : Int) (B : List Int) (ws : List ByteArray) : wj st B ws 0 = B ++ sp st B := rfl
theorem wj_end (st : Int) (B : List Int) (ws : List ByteArray) (h : 0 < ws.length) : wj st B ws ws.length = wt st B ws := by
  rw [wj, if_neg (by omega), List.take_length]
theorem wj_first (st : Int) (B : List Int) (ws : List ByteArray) (h : 0 < ws.length) : wj st B ws 1 = wj st B ws 0 ++ kb (ws.getD 0 ByteArray.empty) := by
  cases ws with
  | nil => simp at h
  | cons x t => simp [wj, wt]
theorem wj_next (st : Int) (B : List Int) (ws : List ByteArray) (j : Nat) (h0 : 0 < j) (h : j < ws.length) : wj st B ws (j + 1) = wj st B ws j ++ [32] ++ kb (ws.getD j ByteArray.empty) := by
  cases ws with
  | nil => simp at h
  | cons x t =>
    obtain ⟨i, rfl⟩ : ∃ i, j = i + 1 := ⟨j - 1, by omega⟩
    have hi : i < t.length := by simpa using h
    simp only [wj, Nat.add_eq_zero_iff, if_false, List.take_succ_cons, wt, Nat.one_ne_zero, and_false]
    rw [List.take_succ_eq_append_getElem hi, List.flatMap_append]
    simp [List.getD, hi]

theorem wj_len (st : Int) (B : List Int) (ws : List ByteArray) : ∀ j, j ≤ ws.length → (wj st B ws j).length ≤ B.length + 1 + j + sl ws j
  | 0, _ => by
    rw [wj_zero]
    unfold sp
    split <;> simp [sl]
  | j + 1, h => by
    have ih := wj_len st B ws j (by omega)
    have hk := kb_length (ws.getD j ByteArray.empty)
    rcases Nat.eq_zero_or_pos j with h0 | h0
    · subst h0
      rw [wj_first st B ws (by omega)]
      simp only [List.length_append, sl] at ih ⊢
      omega
    · rw [wj_next st B ws j h0 (by omega)]
      simp only [List.length_append, List.length_cons, List.length_nil, sl]
      omega
end Go.Proofs.Qxb6606000a
