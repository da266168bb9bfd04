import Derived.Test.Qxb6606005aOrd
import Derived.WalkKit
import Derived.Maps.AppendAt
import Derived.Deep.QuietTactic
import Derived.BigQuiet
import Derived.Lib.LazyBuf
import Derived.Deep.AppendLies
import Derived.Deep.RegionHeld3
import Derived.Deep.DeepCutAuto
namespace Go.Proofs.Qxb6606005a.Hp
open Go.RowKit
set_option maxRecDepth 100000
theorem hid {p : Prop} (h : p) : Hid p := h

theorem run_store_float (P : Program) (w : World) (a : Addr) (m : Mode) (k : FloatKind) (x : Nat) : (store a (.float k x) m).run P w = stored P w a (.float k x) m := run_store P w a _ m rfl
attribute [local go_sem] run_store_float

/-- the slice of items at ao: times X, numbers S -/
def RdQ (w : World) (ao : Option Addr) (n : Nat) (X : Nat → Nat) (S : Nat → Int) : Prop :=
  ∀ j, j < n → ∃ b off, ao = some ⟨b, off, none⟩ ∧ w.cell? ⟨b, off + j * 2, none⟩ = some (.float .f64 (X j)) ∧ w.cell? ⟨b, off + j * 2 + 1, none⟩ = some (.int .u64 (S j))
theorem RdQ.kept {w w' : World} {ao : Option Addr} {n : Nat} {X : Nat → Nat} {S : Nat → Int} (h : RdQ w ao n X S) (hg : w.grownBy w' none) : RdQ w' ao n X S := fun j hj => by
  obtain ⟨b, off, h1, h2, h3⟩ := h j hj; exact ⟨b, off, h1, hg.cell h2 (by simp), hg.cell h3 (by simp)⟩

def QI (x : Nat) (s : Int) : Value := .agg #[.float .f64 x, .int .u64 s]

theorem keyLess (w : World) (x y : Nat) (s t : Int) :
    Calls Try.prog 15 #[.agg #[.float .f64 x, .int .u64 s], .agg #[.float .f64 y, .int .u64 t]] w fun e w' => e = .returned (.bool (less x s y t)) ∧ w.grownBy w' none := by
  unfold less ford
  cases hne : (FloatKind.f64.format.order x y != some .eq) with
  | true =>
    simp only [if_true]
    go_enter Try.func15, Try.ntmps15
    go_wp2
    go_ret
    exact ⟨rfl, ⟨rfl, rfl, rfl, by simp; omega, fun k hk _ => by rw [Below.heap_alloc _ _ _ (by simp; omega), Below.heap_alloc _ _ _ hk]⟩⟩
  | false =>
    simp only [Bool.false_eq_true, if_false]
    go_enter Try.func15, Try.ntmps15
    go_wp2
    go_ret
    exact ⟨rfl, ⟨rfl, rfl, rfl, by simp; omega, fun k hk _ => by rw [Below.heap_alloc _ _ _ (by simp; omega), Below.heap_alloc _ _ _ hk]⟩⟩

set_option maxHeartbeats 400000 in
theorem hasNaN (w : World) (ao : Option Addr) (n cap : Nat) (X : Nat → Nat) (S : Nat → Int) (hn : n ≤ 1048576) (hR : RdQ w ao n X S) :
    Calls Try.prog 9 #[.slice ao n cap] w fun e w' => (∃ b : Bool, e = .returned (.bool b) ∧ (b = false → ∀ j, j < n → okf (X j))) ∧ ∃ q, w' = w.drewN q := by
  have HR := hid hR
  clear hR
  go_enter Try.func9, Try.ntmps9
  go_wp2
  go_loopw [3] (fun i wr => ∃ k : Nat, k ≤ n ∧ i = .int .i64 k ∧ (∀ j, j < k → okf (X j)) ∧ ∃ q, wr = w.drewN q) (fun i _ => n - (intOf i).toNat)
  case atStart => exact ⟨0, Nat.zero_le _, rfl, fun j hj => by omega, 0, rfl⟩
  case round =>
    obtain ⟨k, hk, rfl, hok, q, rfl⟩ := hrel
    have Hok := hid hok
    clear hok
    by_cases hlt : k < n
    · obtain ⟨b, off, rfl, hc0, hc1⟩ := HR.out k hlt
      have i1 : (k : Int) < (n : Int) := by omega
      cases hne : (FloatKind.f64.format.order (X k) (X k) != some .eq) with
      | true =>
        generalize X k = x at hc0 hne
        go_wp2
        go_quiet (fail)
        go_wp2
        go_ret
        exact ⟨⟨true, rfl, by simp⟩, q + nq, by simp⟩
      | false =>
        have Hnx : Hid (∀ j, j < k + 1 → okf (X j)) := fun j hj => by
          rcases Nat.lt_or_ge j k with h | h
          · exact Hok.out j h
          · obtain rfl : j = k := by omega
            simpa [okf, ford] using hne
        generalize X k = x at hc0 hne
        go_wp2
        go_quiet (fail)
        go_wp2
        go_roundw
        case rel => exact ⟨k + 1, by omega, by go_num, Hnx.out, _, rfl⟩
        case measure => simp [intOf]; omega
    · obtain rfl : n = k := by omega
      go_wp2
      go_ret
      exact ⟨⟨false, rfl, fun _ => Hok.out⟩, q, rfl⟩

/-- no item is less than its parent -/
def HeapQ (n : Nat) (X : Nat → Nat) (S : Nat → Int) : Prop := ∀ i, 1 ≤ i → i < n → less (X i) (S i) (X ((i - 1) / 2)) (S ((i - 1) / 2)) = false

set_option maxHeartbeats 800000 in
theorem isHeap (w : World) (ao : Option Addr) (n cap : Nat) (X : Nat → Nat) (S : Nat → Int) (hn : n ≤ 1048576) (hR : RdQ w ao n X S) :
    Calls Try.prog 10 #[.slice ao n cap] w fun e w' => (∃ b : Bool, e = .returned (.bool b) ∧ (b = true ↔ HeapQ n X S)) ∧ w.grownBy w' none := by
  have HR := hid hR
  clear hR
  go_enter Try.func10, Try.ntmps10
  go_wp2
  go_loopw [3] (fun i wr => ∃ k : Nat, 1 ≤ k ∧ (k ≤ n ∨ k = 1) ∧ i = .int .i64 k ∧ (∀ j, 1 ≤ j → j < k → less (X j) (S j) (X ((j - 1) / 2)) (S ((j - 1) / 2)) = false) ∧ w.grownBy wr none) (fun i _ => n - (intOf i).toNat)
  case atStart => exact ⟨1, Nat.le_refl _, .inr rfl, rfl, fun j h1 h2 => by omega, World.grownBy.refl _ _⟩
  case round =>
    obtain ⟨k, hk1, hk, rfl, hok, hgw⟩ := hrel
    have Hok := hid hok
    have HG := hid hgw
    clear hok hgw
    by_cases hlt : k < n
    · obtain ⟨b, off, rfl, hc0, hc1⟩ := (HR.out.kept HG.out) k hlt
      obtain ⟨b', off', e, hd0, hd1⟩ := (HR.out.kept HG.out) ((k - 1) / 2) (by omega)
      simp only [Option.some.injEq, Addr.mk.injEq, and_true] at e
      obtain ⟨rfl, rfl⟩ := e
      have i1 : (k : Int) < (n : Int) := by omega
      have Hnx : Hid (less (X k) (S k) (X ((k - 1) / 2)) (S ((k - 1) / 2)) = false → ∀ j, 1 ≤ j → j < k + 1 → less (X j) (S j) (X ((j - 1) / 2)) (S ((j - 1) / 2)) = false) := fun h j h1 h2 => by
        rcases Nat.lt_or_ge j k with h' | h'
        · exact Hok.out j h1 h'
        · obtain rfl : j = k := by omega
          exact h
      have Hno : Hid (less (X k) (S k) (X ((k - 1) / 2)) (S ((k - 1) / 2)) = true → ¬ HeapQ n X S) := fun h hh => by
        have := hh k hk1 hlt
        rw [this] at h; cases h
      obtain ⟨p, hp⟩ : ∃ p : Nat, p = (k - 1) / 2 := ⟨_, rfl⟩
      rw [← hp] at hd0 hd1 Hnx Hno
      have hpi : ((k : Int) - 1).tdiv 2 = (p : Int) := by rw [Int.tdiv_eq_ediv_of_nonneg (by omega)]; omega
      have hpi' : ((k : Int) - 1) / 2 = (p : Int) := by omega
      have i2 : (p : Int) < (n : Int) := by omega
      have i3 : (0 : Int) ≤ (p : Int) := by omega
      have w1 : IntKind.i64.wrap ((k : Int) - 1) = (k : Int) - 1 := by rw [IntKind.wrap_i64]; omega
      have w2 : IntKind.i64.wrap (p : Int) = (p : Int) := by rw [IntKind.wrap_i64]; omega
      have Hp := hid hp
      clear hp
      generalize X k = x at hc0 Hnx Hno
      generalize S k = s at hc1 Hnx Hno
      generalize X p = y at hd0 Hnx Hno
      generalize S p = t at hd1 Hnx Hno
      go_wp2_with fail
      go_region_held3 (fun w' => w'.cell? ⟨b, off + k * 2, none⟩ = some (.float .f64 x) ∧ w'.cell? ⟨b, off + k * 2 + 1, none⟩ = some (.int .u64 s) ∧ w'.cell? ⟨b, off + p * 2, none⟩ = some (.float .f64 y) ∧ w'.cell? ⟨b, off + p * 2 + 1, none⟩ = some (.int .u64 t)) (go_keep)
        ((go_at_call 15; refine (keyLess _ x y s t).mono ?_; rintro e w5 ⟨rfl, hg5⟩; have k0 := hg5.cell (a := ⟨b, off + k * 2, none⟩) (by simpa using hc0) (by simp); have k1 := hg5.cell (a := ⟨b, off + k * 2 + 1, none⟩) (by simpa using hc1) (by simp); have k2 := hg5.cell (a := ⟨b, off + p * 2, none⟩) (by simpa using hd0) (by simp); have k3 := hg5.cell (a := ⟨b, off + p * 2 + 1, none⟩) (by simpa using hd1) (by simp); have HG5 := hid hg5; clear hg5))
      have HG6 : Hid (w.grownBy w5 none) := World.grownBy.trans (show w.grownBy wr.drew none from ⟨HG.out.os, HG.out.tape, HG.out.output, HG.out.size, HG.out.block⟩) HG5.out
      clear k0 k1 k2 k3 hc0 hc1 hd0 hd1
      cases hl : less x s y t with
      | true =>
        have Hno' := hid (Hno.out hl)
        go_wp2_with fail
        go_ret
        exact ⟨⟨false, rfl, by constructor; (intro h; cases h); (intro h; exact absurd h Hno'.out)⟩, HG6.out⟩
      | false =>
        have Hnx' := hid (Hnx.out hl)
        go_wp2_with fail
        go_roundw
        case rel => exact ⟨k + 1, by omega, by omega, by go_num, Hnx'.out, HG6.out⟩
        case measure => simp [intOf]; omega
    · have Hall : Hid (HeapQ n X S) := fun i h1 h2 => Hok.out i h1 (by omega)
      go_wp2_with fail
      go_ret
      exact ⟨⟨true, rfl, by constructor; (intro _; exact Hall.out); (intro _; rfl)⟩, HG.out⟩

theorem info32 : (Try.prog.info? 32).map (fun i => (i.zero, i.size, i.bytes)) = some (some (.agg #[.float .f64 0, .int .u64 0]), 2, 16) := by kernel_rfl

/-- the first k items are there -/
def PartQ (wr : World) (g n k : Nat) (X : Nat → Nat) (S : Nat → Int) : Prop :=
  ∃ cs : List Value, wr.ownsRow 0 32 2 (.slice (some ⟨g, 0, none⟩) n n) n cs ∧ ∀ j, j < k → cs[j * 2]? = some (.float .f64 (X j)) ∧ cs[j * 2 + 1]? = some (.int .u64 (S j))

theorem partQ_rd {wr : World} {g n k : Nat} {X : Nat → Nat} {S : Nat → Int} (h : PartQ wr g n k X S) (hk : k ≤ n) : RdQ wr (some ⟨g, 0, none⟩) k X S := by
  obtain ⟨cs, hcs, hf⟩ := h
  intro j hj
  refine ⟨g, 0, rfl, ?_, ?_⟩
  · rw [Nat.zero_add, hcs.cellAt _ (by omega)]; exact (hf j hj).1
  · rw [Nat.zero_add, hcs.cellAt _ (by omega)]; exact (hf j hj).2

theorem partQ_step {w wr : World} {g n k : Nat} {X : Nat → Nat} {S : Nat → Int} (h : PartQ wr g n k X S) (hk : k < n) (hg : w.heap.size ≤ g) (hgw : w.grownBy wr none) :
    (∃ u v, wr.cell? ⟨g, k * 2, none⟩ = some u ∧ wr.cell? ⟨g, k * 2 + 1, none⟩ = some v) ∧ wr.frozen? ⟨g, k * 2, none⟩ = false ∧ wr.frozen? ⟨g, k * 2 + 1, none⟩ = false ∧
    PartQ ((wr.setCell ⟨g, k * 2, none⟩ (.float .f64 (X k))).setCell ⟨g, k * 2 + 1, none⟩ (.int .u64 (S k))) g n (k + 1) X S ∧ w.grownBy ((wr.setCell ⟨g, k * 2, none⟩ (.float .f64 (X k))).setCell ⟨g, k * 2 + 1, none⟩ (.int .u64 (S k))) none := by
  obtain ⟨cs, hcs, hf⟩ := h
  have hcl : cs.length = n * 2 := hcs.1
  have hst := (hcs.stored (k * 2) (.float .f64 (X k))).1
  have hst2 := (hst.stored (k * 2 + 1) (.int .u64 (S k))).1
  refine ⟨⟨cs[k * 2], cs[k * 2 + 1], by rw [hcs.cellAt _ (by omega), List.getElem?_eq_getElem (by omega)], by rw [hcs.cellAt _ (by omega), List.getElem?_eq_getElem (by omega)]⟩, hcs.frozenAt _, hcs.frozenAt _, ⟨_, hst2, fun j hj => ?_⟩, ⟨hgw.os, hgw.tape, hgw.output, by simpa using hgw.size, fun j hj hne => ?_⟩⟩
  · by_cases hjk : j = k
    · subst hjk
      refine ⟨?_, ?_⟩
      · rw [List.getElem?_set_ne (by omega), List.getElem?_set_self (by omega)]
      · rw [List.getElem?_set_self (by rw [List.length_set]; omega)]
    · have hj' := hf j (by omega)
      refine ⟨?_, ?_⟩
      · rw [List.getElem?_set_ne (by omega), List.getElem?_set_ne (by omega)]; exact hj'.1
      · rw [List.getElem?_set_ne (by omega), List.getElem?_set_ne (by omega)]; exact hj'.2
  · rw [Below.heap_setCell _ _ _ _ (by show j ≠ g; omega), Below.heap_setCell _ _ _ _ (by show j ≠ g; omega)]
    exact hgw.block j hj hne

theorem RdQ.nil {w : World} {n : Nat} {X : Nat → Nat} {S : Nat → Int} (h : RdQ w none n X S) : n = 0 := by
  rcases Nat.eq_zero_or_pos n with h0 | h0
  · exact h0
  · obtain ⟨b, off, e, _⟩ := h 0 h0
    simp at e

set_option maxHeartbeats 800000 in
theorem qCopy (w : World) (ao : Option Addr) (n cap : Nat) (X : Nat → Nat) (S : Nat → Int) (hn : n ≤ 1048576) (hR : RdQ w ao n X S) :
    Calls Try.prog 11 #[.slice ao n cap] w fun e w' => ∃ ao', e = .returned (.slice ao' n n) ∧ RdQ w' ao' n X S ∧ w.grownBy w' none := by
  obtain ⟨i0, hi, hz0, hz1, hz2⟩ := info_parts info32
  have heq := fun w a l c => run_eql_slice_nil (P := Try.prog) w 22 32 a l c Try.underlying22
  cases ao with
  | none =>
    obtain rfl := hR.nil
    go_enter Try.func11, Try.ntmps11
    go_wp2
    go_ret
    exact ⟨none, rfl, fun j hj => by omega, World.grownBy.refl _ _⟩
  | some a =>
    generalize hg : w.heap.size = g
    have Hg := hid hg
    have HR := hid hR
    clear hg hR
    go_enter Try.func11, Try.ntmps11
    go_wp2_with (at_make; refine wpList_make_full _ rfl _ _ 22 rfl 0 32 i0 (.agg #[.float .f64 0, .int .u64 0]) 2 Try.underlying22 hi hz0 hz1 .i64 .i64 _ _ n rfl rfl rfl rfl (by rw [hz2]; omega) (by unfold maxLen; omega) (Nat.zero_le _) ?_; intro w1 hown hgr; rw [Hg.out] at hown ⊢)
    clear heq hi hz0 hz1 hz2
    go_loopw [4] (fun i wr => ∃ k : Nat, k ≤ n ∧ i = .int .i64 k ∧ PartQ wr g n k X S ∧ w.grownBy wr none) (fun i _ => n - (intOf i).toNat)
    case atStart => exact ⟨0, Nat.zero_le _, rfl, ⟨_, hown, fun j hj => by omega⟩, hgr⟩
    case round =>
      obtain ⟨k, hk, rfl, hP, hgw⟩ := hrel
      clear hown hgr
      by_cases hlt : k < n
      · obtain ⟨b, off, ha, hc0, hc1⟩ := (HR.out.kept hgw) k (by omega)
        simp only [Option.some.injEq] at ha
        subst ha
        obtain ⟨⟨o1, o2, hcg1, hcg2⟩, hf1, hf2, R1, R2⟩ := partQ_step hP hlt (by rw [Hg.out]; exact Nat.le_refl _) hgw
        have HS' := hid (And.intro R1 R2)
        have hbg : b ≠ g := by
          obtain ⟨b', off', e, h0, _⟩ := HR.out k hlt
          simp only [Option.some.injEq, Addr.mk.injEq, and_true] at e
          obtain ⟨rfl, rfl⟩ := e
          have hh : b < w.heap.size := World.block_lt_of_cell? _ _ h0
          have := Hg.out; omega
        clear hP hgw R1 R2
        generalize hx : X k = x at hc0 HS'
        generalize hs : S k = s at hc1 HS'
        clear hx hs
        go_wp2_with fail
        go_roundw
        case rel => exact ⟨k + 1, by omega, by go_num, HS'.out.1, HS'.out.2⟩
        case measure => simp [intOf]; omega
      · obtain rfl : n = k := by omega
        go_wp2
        go_ret
        exact ⟨_, rfl, partQ_rd hP (Nat.le_refl _), hgw⟩
end Go.Proofs.Qxb6606005a.Hp
