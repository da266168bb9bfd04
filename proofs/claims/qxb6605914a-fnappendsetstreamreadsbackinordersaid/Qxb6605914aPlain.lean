import Derived.Test.Qxb6605914aParse
import Derived.Test.Qxb6605914aSet
namespace Go.Proofs.Qxb6605914a

theorem getD_pre (A B : List Int) (n j : Nat) (h : A.length = n) : (A ++ B).getD (n + j) 0 = B.getD j 0 := by
  subst h
  simp [List.getD, List.getElem?_append_right]
theorem getD_in (A B : List Int) (j : Nat) (h : j < A.length) : (A ++ B).getD j 0 = A.getD j 0 := by
  simp [List.getD, List.getElem?_append_left h]

theorem hexOf_at : ∀ (bs : List Int) (k : Nat), k < bs.length → (hexOf bs).getD (2 * k) 0 = dg (bs.getD k 0 / 16) ∧ (hexOf bs).getD (2 * k + 1) 0 = dg (bs.getD k 0 % 16)
  | [], k, h => by simp at h
  | x :: t, 0, _ => by simp [hexOf]
  | x :: t, k + 1, h => by
    have ih := hexOf_at t k (by simpa using h)
    have e : hexOf (x :: t) = [dg (x / 16), dg (x % 16)] ++ hexOf t := by simp [hexOf]
    rw [e, show 2 * (k + 1) = 2 + 2 * k by omega, getD_pre _ _ 2 _ rfl, show 2 + 2 * k + 1 = 2 + (2 * k + 1) by omega, getD_pre _ _ 2 _ rfl]
    simpa using ih

theorem lineAt_of (pre post ks vs : List Int) (pos : Nat) (hp : pre.length = pos) : LineAt (pre ++ (line ks vs ++ post)) ks vs pos := by
  have hL : line ks vs ++ post = [115, 101, 116, 32] ++ (hexOf ks ++ ([32] ++ (hexOf vs ++ ([10] ++ post)))) := by simp [line]
  have lk := hexOf_length ks
  have lv := hexOf_length vs
  have key : ∀ j, (pre ++ (line ks vs ++ post)).getD (pos + 4 + j) 0 = (hexOf ks ++ ([32] ++ (hexOf vs ++ ([10] ++ post)))).getD j 0 := fun j => by
    rw [Nat.add_assoc, getD_pre _ _ _ _ hp, hL, getD_pre _ _ 4 _ rfl]
  have val : ∀ j, (pre ++ (line ks vs ++ post)).getD (pos + 4 + 2 * ks.length + 1 + j) 0 = (hexOf vs ++ ([10] ++ post)).getD j 0 := fun j => by
    rw [show pos + 4 + 2 * ks.length + 1 + j = pos + 4 + (2 * ks.length + (1 + j)) by omega, key, getD_pre _ _ _ _ lk, getD_pre _ _ 1 _ rfl]
  have c : ∀ j, j < 4 → (pre ++ (line ks vs ++ post)).getD (pos + j) 0 = ([115, 101, 116, 32] : List Int).getD j 0 := fun j hj => by
    rw [getD_pre _ _ _ _ hp, hL, getD_in _ _ _ (by simpa using hj)]
  refine ⟨by simpa using c 0 (by omega), c 1 (by omega), c 2 (by omega), c 3 (by omega), fun k hk => ?_, ?_, fun k hk => ?_, ?_, ?_⟩
  · rw [key, Nat.add_assoc (pos + 4), key, getD_in _ _ _ (by omega), getD_in _ _ _ (by omega)]
    exact hexOf_at ks k hk
  · rw [key]
    have := getD_pre (hexOf ks) ([32] ++ (hexOf vs ++ ([10] ++ post))) _ 0 lk
    simpa using this
  · rw [val, Nat.add_assoc (pos + 4 + 2 * ks.length + 1), val, getD_in _ _ _ (by omega), getD_in _ _ _ (by omega)]
    exact hexOf_at vs k hk
  · rw [val]
    have := getD_pre (hexOf vs) ([10] ++ post) _ 0 lv
    simpa using this
  · simp only [List.length_append, line_length]
    omega
end Go.Proofs.Qxb6605914a
