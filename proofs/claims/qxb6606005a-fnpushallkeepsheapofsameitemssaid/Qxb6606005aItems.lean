import Derived.Test.Qxb6606005aPush
namespace Go.Proofs.Qxb6606005a.Hp
open Go.RowKit
set_option maxRecDepth 100000
attribute [local go_sem] run_store_float

/-- what push does to the entries f when x comes to place n -/
def Sifted (f : Nat → Ent) (n : Nat) (x : Ent) (r : Nat) : Prop :=
  (∀ j, 1 ≤ j → j ≤ r → eless x (f (anc n j)) = true ∧ 0 < anc n (j - 1)) ∧ (anc n r = 0 ∨ eless x (f (anc n (r + 1))) = false)

set_option maxHeartbeats 800000 in
theorem zzpush (w0 w : World) (L g n cap : Nat) (f : Nat → Ent) (t : Nat) (s tag : Int) (hn : n ≤ 65536) (h : Qu w0 w L g n cap f) :
    Calls Try.prog 13 #[.pointer (some ⟨L, 0, none⟩), .float .f64 t, .int .u64 s, .int .i64 tag] w fun e w' => e = .returned (.tuple #[]) ∧
      ∃ g' cap' r b, Qu w0 w' L g' (n + 1) cap' (upf f n ⟨t, s, b, tag⟩ r) ∧ Sifted f n ⟨t, s, b, tag⟩ r := by
  have H := hid h
  clear h
  go_enter Try.func13, Try.ntmps13
  go_wp2_with fail
  refine (push w0 _ L g n cap f ⟨t, s, w.heap.size, tag⟩ hn (H.out.grow (World.grownBy_alloc _ _ none)) ⟨_, heap_alloc_new w _, by simp⟩).mono ?_
  rintro e w' ⟨rfl, g', cap', r, h1, h2, h3⟩
  have HR := hid (And.intro h1 (And.intro h2 h3))
  clear h1 h2 h3
  go_wp2_with fail
  go_end0
  exact ⟨rfl, g', cap', r, w.heap.size, HR.out.1, HR.out.2⟩

/-! ### rows of one-cell elements -/
theorem info23 : (Try.prog.info? 23).map (fun i => (i.zero, i.size, i.bytes)) = some (some (.float .f64 0), 1, 8) := by kernel_rfl
theorem info24 : (Try.prog.info? 24).map (fun i => (i.zero, i.size, i.bytes)) = some (some (.int .u64 0), 1, 8) := by kernel_rfl
theorem info3 : (Try.prog.info? 3).map (fun i => (i.zero, i.size, i.bytes)) = some (some (.int .i64 0), 1, 8) := by kernel_rfl
theorem info4 : (Try.prog.info? 4).map (fun i => (i.zero, i.size, i.bytes)) = some (some (.bool false), 1, 1) := by kernel_rfl

/-- the row g of n elements holds f j at every place j of P -/
def Part (w : World) (e : TypeId) (g n : Nat) (P : Nat → Prop) (f : Nat → Value) : Prop :=
  ∃ cs : List Value, w.ownsRow 0 e 1 (.slice (some ⟨g, 0, none⟩) n n) n cs ∧ ∀ j, j < n → P j → cs[j]? = some (f j)

theorem Part.cell {w : World} {e : TypeId} {g n : Nat} {P : Nat → Prop} {f : Nat → Value} (h : Part w e g n P f) {j : Nat} (hj : j < n) (hP : P j) : w.cell? ⟨g, j, none⟩ = some (f j) := by
  obtain ⟨cs, hcs, hf⟩ := h
  rw [hcs.cellAt j (by omega)]; exact hf j hj hP
theorem Part.some {w : World} {e : TypeId} {g n : Nat} {P : Nat → Prop} {f : Nat → Value} (h : Part w e g n P f) {j : Nat} (hj : j < n) : ∃ v, w.cell? ⟨g, j, none⟩ = some v := by
  obtain ⟨cs, hcs, hf⟩ := h
  have hcl : cs.length = n := by have := hcs.1; omega
  exact ⟨cs[j], by rw [hcs.cellAt j (by omega), List.getElem?_eq_getElem (by omega)]⟩
theorem Part.frozen {w : World} {e : TypeId} {g n : Nat} {P : Nat → Prop} {f : Nat → Value} (h : Part w e g n P f) (j : Nat) : w.frozen? ⟨g, j, none⟩ = false := by
  obtain ⟨cs, hcs, _⟩ := h; exact hcs.frozenAt j
theorem Part.lt {w : World} {e : TypeId} {g n : Nat} {P : Nat → Prop} {f : Nat → Value} (h : Part w e g n P f) : g < w.heap.size := by
  obtain ⟨cs, hcs, _⟩ := h; exact (hcs.lt g rfl).2
theorem Part.grow {w w' : World} {e : TypeId} {g n : Nat} {P : Nat → Prop} {f : Nat → Value} (h : Part w e g n P f) (hg : w.grownBy w' none) : Part w' e g n P f := by
  obtain ⟨cs, hcs, hf⟩ := h; exact ⟨cs, hcs.kept hg (by right; simp [Value.ownBlock]), hf⟩
theorem Part.other {w : World} {e : TypeId} {g n : Nat} {P : Nat → Prop} {f : Nat → Value} (h : Part w e g n P f) {a : Addr} (ha : g ≠ a.block) (u : Value) : Part (w.setCell a u) e g n P f := by
  obtain ⟨cs, hcs, hf⟩ := h; exact ⟨cs, ownsRow_setCell_other hcs (by simp [Value.ownBlock]; exact ha) u, hf⟩
/-- a store at place k: from then on the place holds what f' says -/
theorem Part.set {w : World} {e : TypeId} {g n : Nat} {P P' : Nat → Prop} {f f' : Nat → Value} (h : Part w e g n P f) (k : Nat) (u : Value) (hu : k < n → u = f' k) (hP : ∀ j, j < n → j ≠ k → P' j → P j ∧ f j = f' j) : Part (w.setCell ⟨g, k, none⟩ u) e g n P' f' := by
  obtain ⟨cs, hcs, hf⟩ := h
  have hcl : cs.length = n := by have := hcs.1; omega
  refine ⟨_, (hcs.stored k u).1, fun j hj hPj => ?_⟩
  by_cases hjk : j = k
  · subst hjk; rw [List.getElem?_set_self (by omega), hu hj]
  · obtain ⟨h1, h2⟩ := hP j hj hjk hPj
    rw [List.getElem?_set_ne (by omega), ← h2]; exact hf j hj h1
theorem Part.congr {w : World} {e : TypeId} {g n : Nat} {P P' : Nat → Prop} {f f' : Nat → Value} (h : Part w e g n P f) (hP : ∀ j, j < n → P' j → P j ∧ f j = f' j) : Part w e g n P' f' := by
  obtain ⟨cs, hcs, hf⟩ := h
  exact ⟨cs, hcs, fun j hj hPj => by obtain ⟨h1, h2⟩ := hP j hj hPj; rw [← h2]; exact hf j hj h1⟩
theorem Part.made {w : World} {e : TypeId} {g n : Nat} {cs : List Value} {f : Nat → Value} (h : w.ownsRow 0 e 1 (.slice (.some ⟨g, 0, none⟩) n n) n cs) : Part w e g n (fun _ => False) f := ⟨cs, h, fun _ _ hf => hf.elim⟩
/-- a row of zeros, as make leaves it -/
theorem Part.zeros {w : World} {e : TypeId} {g n : Nat} {z : Value} (h : w.ownsRow 0 e 1 (.slice (.some ⟨g, 0, none⟩) n n) n (madeCells #[z] (n * 1)).toList) : Part w e g n (fun _ => True) (fun _ => z) :=
  ⟨_, h, fun j hj _ => by rw [toList_madeCells_one, Nat.mul_one, List.getElem?_replicate, if_pos hj]⟩

theorem grown_set {w w' : World} {a : Addr} (h : w.grownBy w' none) (ha : w.heap.size ≤ a.block) (u : Value) : w.grownBy (w'.setCell a u) none :=
  ⟨h.os, h.tape, h.output, by simpa using h.size, fun k hk hne => by rw [Below.heap_setCell _ _ _ _ (by omega)]; exact h.block k hk hne⟩
theorem grown_tr {a b c : World} (h : a.grownBy b none) (k : b.grownBy c none) : a.grownBy c none := World.grownBy.trans h k
end Go.Proofs.Qxb6606005a.Hp
