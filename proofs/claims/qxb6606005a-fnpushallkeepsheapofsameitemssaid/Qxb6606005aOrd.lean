import Derived.Test.Qxb6606005aRows
import Derived.Laws.Cover2
namespace Go.Proofs.Qxb6606005a
open Ieee

/-- how two float64 words stand to each other -/
def ford (x y : Nat) : Option Ordering := FloatKind.f64.format.order x y

/-- a number's value in units of 2^L -/
def vl (L : Int) : Datum → Int
  | .number s m i => signed s m (i - L).toNat
  | _ => 0
/-- -1: the lower infinity; 0: a number; 1: the upper infinity -/
def cl : Datum → Int
  | .infinity s => if s then -1 else 1
  | _ => 0

theorem signed_shift (s : Bool) (m a b : Nat) : signed s m (a + b) = signed s m a * (2 ^ b : Nat) := by
  unfold signed
  rw [Nat.shiftLeft_eq, Nat.shiftLeft_eq, Nat.pow_add, ← Nat.mul_assoc]
  cases s
  · simp only [Bool.false_eq_true, if_false]; rw [Int.natCast_mul]
  · simp only [if_true]; rw [Int.natCast_mul, Int.neg_mul]

theorem cmp_scale (a b : Int) (k : Nat) (hk : 0 < k) : compare (a * (k : Int)) (b * (k : Int)) = compare a b := by
  have hk' : (0 : Int) < (k : Int) := by omega
  simp only [compare, compareOfLessAndEq]
  by_cases h1 : a < b
  · rw [if_pos h1, if_pos (Int.mul_lt_mul_of_pos_right h1 hk')]
  · by_cases h2 : a = b
    · subst h2; simp
    · have h3 : b < a := by omega
      have h4 := Int.mul_lt_mul_of_pos_right h3 hk'
      rw [if_neg h1, if_neg h2, if_neg (by omega), if_neg (by omega)]

theorem order_num (L : Int) (s t : Bool) (m n : Nat) (i j : Int) (hi : L ≤ i) (hj : L ≤ j) :
    Datum.order (.number s m i) (.number t n j) = some (compare (vl L (.number s m i)) (vl L (.number t n j))) := by
  simp only [Datum.order, vl]
  congr 1
  have e1 : (i - L).toNat = (i - min i j).toNat + (min i j - L).toNat := by omega
  have e2 : (j - L).toNat = (j - min i j).toNat + (min i j - L).toNat := by omega
  rw [e1, e2, signed_shift, signed_shift, cmp_scale _ _ _ (Nat.two_pow_pos _)]

/-- the data that a word can stand for: a number's place is not below the format's least -/
def Fit (L : Int) : Datum → Prop
  | .number _ _ i => L ≤ i
  | .infinity _ => True
  | .nan _ _ => False

/-- the rank: first the class, then the value -/
def lexc (a b : Datum) (L : Int) : Ordering := if cl a = cl b then compare (vl L a) (vl L b) else compare (cl a) (cl b)

theorem order_rank (L : Int) (a b : Datum) (ha : Fit L a) (hb : Fit L b) : Datum.order a b = some (lexc a b L) := by
  cases a with
  | nan _ _ => exact ha.elim
  | number s m i =>
    cases b with
    | nan _ _ => exact hb.elim
    | number t n j => rw [order_num L s t m n i j ha hb]; simp [lexc, cl]
    | infinity t => cases t <;> rfl
  | infinity s =>
    cases b with
    | nan _ _ => exact hb.elim
    | number t n j => cases s <;> rfl
    | infinity t => cases s <;> cases t <;> rfl

theorem read_fit (x : Nat) (h : ford x x = some .eq) : Fit FloatKind.f64.format.leastPlace (FloatKind.f64.format.read x) := by
  unfold ford Format.order at h
  generalize hd : FloatKind.f64.format.read x = d at h ⊢
  cases d with
  | nan s t => simp [Datum.order] at h
  | infinity s => trivial
  | number s m i =>
    unfold Fit
    unfold Format.read at hd
    simp only at hd
    split at hd
    · simp only [Datum.number.injEq] at hd; omega
    · split at hd
      · simp only [Datum.number.injEq] at hd; omega
      · split at hd <;> simp at hd

/-- the rank of a word that is no NaN -/
def rc (x : Nat) : Int := cl (FloatKind.f64.format.read x)
def rv (x : Nat) : Int := vl FloatKind.f64.format.leastPlace (FloatKind.f64.format.read x)

theorem ford_rank (x y : Nat) (hx : ford x x = some .eq) (hy : ford y y = some .eq) : ford x y = some (if rc x = rc y then compare (rv x) (rv y) else compare (rc x) (rc y)) :=
  order_rank _ _ _ (read_fit x hx) (read_fit y hy)

theorem cmp_lt (a b : Int) : compare a b = .lt ↔ a < b := by
  simp only [compare, compareOfLessAndEq]
  by_cases h1 : a < b
  · simp [h1]
  · by_cases h2 : a = b <;> simp [h1, h2]
theorem cmp_eq (a b : Int) : compare a b = .eq ↔ a = b := by
  simp only [compare, compareOfLessAndEq]
  by_cases h1 : a < b
  · simp [h1]; omega
  · by_cases h2 : a = b <;> simp [h1, h2]

/-- an entry's key: the time's word and the number -/
def less (x : Nat) (s : Int) (y : Nat) (t : Int) : Bool := if ford x y != some .eq then ford x y == some .lt else decide (s < t)

/-- x is no NaN -/
def okf (x : Nat) : Prop := ford x x = some .eq

theorem less_iff {x y : Nat} {s t : Int} (hx : okf x) (hy : okf y) : less x s y t = true ↔ rc x < rc y ∨ (rc x = rc y ∧ (rv x < rv y ∨ (rv x = rv y ∧ s < t))) := by
  unfold less
  rw [ford_rank x y hx hy]
  by_cases hc : rc x = rc y
  · rw [if_pos hc]
    by_cases he : rv x = rv y
    · have h := (cmp_eq (rv x) (rv y)).2 he
      rw [h]; simp; omega
    · have h : ¬ compare (rv x) (rv y) = .eq := fun h => he ((cmp_eq _ _).1 h)
      have h2 := cmp_lt (rv x) (rv y)
      rw [if_pos (by simpa using h)]
      simp only [beq_iff_eq, Option.some.injEq]
      rw [h2]; omega
  · rw [if_neg hc]
    have h : ¬ compare (rc x) (rc y) = .eq := fun h => hc ((cmp_eq _ _).1 h)
    have h2 := cmp_lt (rc x) (rc y)
    rw [if_pos (by simpa using h)]
    simp only [beq_iff_eq, Option.some.injEq]
    rw [h2]; omega

theorem less_irrefl {x : Nat} {s : Int} (hx : okf x) : less x s x s = false := by
  rw [Bool.eq_false_iff]; intro h
  have := (less_iff hx hx).1 h; omega
theorem less_asymm {x y : Nat} {s t : Int} (hx : okf x) (hy : okf y) (h : less x s y t = true) : less y t x s = false := by
  rw [Bool.eq_false_iff]; intro h'
  have h1 := (less_iff hx hy).1 h
  have h2 := (less_iff hy hx).1 h'
  omega
theorem less_negtrans {x y z : Nat} {s t u : Int} (hx : okf x) (hy : okf y) (hz : okf z) (h1 : less x s y t = false) (h2 : less y t z u = false) : less x s z u = false := by
  rw [Bool.eq_false_iff, ne_eq, less_iff hx hy] at h1
  rw [Bool.eq_false_iff, ne_eq, less_iff hy hz] at h2
  rw [Bool.eq_false_iff, ne_eq, less_iff hx hz]
  omega
end Go.Proofs.Qxb6606005a
