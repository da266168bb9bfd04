import Derived.Test.Qxb6606005aErr
namespace Go.Proofs.Qxb6606005a
open Go.RowKit
set_option maxRecDepth 100000

theorem bytesE (w : World) (a b c : ByteArray) (h0 : a.size ≤ maxLen) (h1 : b.size ≤ maxLen) (h2 : c.size ≤ maxLen) :
    Calls Try.prog 23 #[.string a, .string b, .string c] w fun e w' => e = .returned (.bool (decide (a.size + b.size + c.size ≤ 1048576))) ∧ w' = w := by
  unfold maxLen at h0 h1 h2
  by_cases hs : a.size + b.size + c.size ≤ 1048576
  · rw [decide_eq_true hs]
    go_enter Try.func23, Try.ntmps23
    go_wp2
    go_ret
    exact ⟨rfl, rfl⟩
  · rw [decide_eq_false hs]
    go_enter Try.func23, Try.ntmps23
    go_wp2
    all_goals (go_ret; exact ⟨rfl, rfl⟩)

theorem err_big (w : World) (a b c : ByteArray) (h0 : a.size ≤ maxLen) (h1 : b.size ≤ maxLen) (h2 : c.size ≤ maxLen) (hs : ¬ a.size + b.size + c.size ≤ 1048576) :
    Calls Try.prog 7 #[.string a, .string b, .string c] w fun e w' => e = .returned (.bool true) ∧ Grown w w' := by
  have hd : decide (a.size + b.size + c.size ≤ 1048576) = false := decide_eq_false hs
  go_enter Try.func7, Try.ntmps7
  go_wp2_with (go_at_call 23; refine (bytesE _ _ _ _ h0 h1 h2).mono ?_; rintro e w' ⟨rfl, rfl⟩)
  go_ret
  exact ⟨rfl, Grown.refl _⟩

theorem empty_is : (⟨#[]⟩ : ByteArray).toList.isEmpty = true := by
  rw [ByteArray.toList, ByteArray.toList.loop, if_neg (by show ¬ 0 < 0; omega)]
  rfl

theorem txt_folds (a b c : ByteArray) (hb : b.toList.isEmpty = true) : txt a b c = txt a ⟨#[]⟩ ⟨#[]⟩ ++ c := by
  unfold txt
  rw [hb, empty_is]
  simp only [if_true]
  have : (⟨#[]⟩ : ByteArray) = ByteArray.empty := rfl
  rw [this, ByteArray.append_empty]
theorem txt_folds' (a b c : ByteArray) (hb : b.toList.isEmpty = false) : txt a b c = txt (a ++ ⟨#[32, 97, 110, 100, 32]⟩ ++ b) ⟨#[]⟩ ⟨#[]⟩ ++ c := by
  unfold txt
  rw [hb, empty_is]
  simp only [if_true, Bool.false_eq_true, if_false]
  have : (⟨#[]⟩ : ByteArray) = ByteArray.empty := rfl
  rw [this, ByteArray.append_empty]
theorem txt_size (a : ByteArray) : (txt a ⟨#[]⟩ ⟨#[]⟩).size = a.size + 2 := by
  unfold txt
  rw [empty_is]
  simp only [if_true, ByteArray.size_append]
  rfl

set_option maxHeartbeats 800000 in
theorem err_small (w : World) (a b c : ByteArray) (hs : a.size + b.size + c.size ≤ 1048576) :
    Calls Try.prog 7 #[.string a, .string b, .string c] w fun e w' => e = .returned (.bool true) ∧ Grown w w' := by
  have hd : decide (a.size + b.size + c.size ≤ 1048576) = true := decide_eq_true hs
  have s0 : a.size ≤ 1048576 := by omega
  have s1 : b.size ≤ 1048576 := by omega
  have s2 : c.size ≤ 1048576 := by omega
  cases hb : b.toList.isEmpty with
  | true =>
    have HT : Hid (∀ w, Calls Try.prog 24 #[.string a, .string b, .string c] w fun e w' => e = .returned (.string (txt a ⟨#[]⟩ ⟨#[]⟩ ++ c)) ∧ Grown w w') := fun w => by
      have := setText w a b c (by omega) (by omega) (by omega)
      rw [txt_folds a b c hb] at this; exact this
    have HT2 := hid (fun w => setText w a ⟨#[]⟩ ⟨#[]⟩ (by omega) (by show 0 ≤ _; omega) (by show 0 ≤ _; omega))
    have hsz := txt_size a
    generalize txt a ⟨#[]⟩ ⟨#[]⟩ = H at HT HT2 hsz
    have q1 : ¬ 9223372036854775807 < H.size + c.size := by omega
    have q3 : ((H.size : Int) + (c.size : Int) == (a.size : Int) + 2 + (c.size : Int)) = true := by simp; omega
    clear hsz
    go_enter Try.func7, Try.ntmps7
    go_wp2_with (go_at_call 23; refine (bytesE _ _ _ _ (by unfold maxLen; omega) (by unfold maxLen; omega) (by unfold maxLen; omega)).mono ?_; rintro e w' ⟨rfl, rfl⟩)
    refine (HT.out _).mono ?_
    rintro e w1 ⟨rfl, hg1⟩
    have HG1 := hid hg1
    clear hg1
    go_wp2_with fail
    refine (HT2.out _).mono ?_
    rintro e w2 ⟨rfl, hg2⟩
    have HG2 := hid (grown_two HG1.out hg2)
    clear hg2
    go_wp2_with fail
    go_ret
    exact ⟨rfl, HG2.out⟩
  | false =>
    have HT : Hid (∀ w, Calls Try.prog 24 #[.string a, .string b, .string c] w fun e w' => e = .returned (.string (txt (a ++ ⟨#[32, 97, 110, 100, 32]⟩ ++ b) ⟨#[]⟩ ⟨#[]⟩ ++ c)) ∧ Grown w w') := fun w => by
      have := setText w a b c (by omega) (by omega) (by omega)
      rw [txt_folds' a b c hb] at this; exact this
    have hfs : (a ++ ⟨#[32, 97, 110, 100, 32]⟩ ++ b : ByteArray).size = a.size + 5 + b.size := by rw [ByteArray.size_append, ByteArray.size_append]; rfl
    have HT2 := hid (fun w => setText w (a ++ ⟨#[32, 97, 110, 100, 32]⟩ ++ b) ⟨#[]⟩ ⟨#[]⟩ (by rw [hfs]; omega) (by show 0 ≤ _; omega) (by show 0 ≤ _; omega))
    have hsz := txt_size (a ++ ⟨#[32, 97, 110, 100, 32]⟩ ++ b)
    rw [hfs] at hsz
    clear hfs
    generalize txt (a ++ ⟨#[32, 97, 110, 100, 32]⟩ ++ b) ⟨#[]⟩ ⟨#[]⟩ = H at HT HT2 hsz
    have q1 : ¬ 9223372036854775807 < H.size + c.size := by omega
    have q3 : ((H.size : Int) + (c.size : Int) == (a.size : Int) + 2 + (c.size : Int) + (5 + (b.size : Int))) = true := by simp; omega
    clear hsz
    go_enter Try.func7, Try.ntmps7
    go_wp2_with (go_at_call 23; refine (bytesE _ _ _ _ (by unfold maxLen; omega) (by unfold maxLen; omega) (by unfold maxLen; omega)).mono ?_; rintro e w' ⟨rfl, rfl⟩)
    refine (HT.out _).mono ?_
    rintro e w1 ⟨rfl, hg1⟩
    have HG1 := hid hg1
    clear hg1
    go_wp2_with fail
    refine (HT2.out _).mono ?_
    rintro e w2 ⟨rfl, hg2⟩
    have HG2 := hid (grown_two HG1.out hg2)
    clear hg2
    go_wp2_with fail
    go_ret
    exact ⟨rfl, HG2.out⟩
end Go.Proofs.Qxb6606005a
