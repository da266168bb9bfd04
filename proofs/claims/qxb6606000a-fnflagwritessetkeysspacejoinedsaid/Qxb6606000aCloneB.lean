import Derived.Test.Qxb6606000aClone
namespace Go.Proofs.Qxb6606000a
open Go.RowKit
set_option maxRecDepth 100000

/-- the bytes xs as cells -/
def cb (xs : List Int) : List Value := xs.map (Value.int .u8)
theorem cb_length (xs : List Int) : (cb xs).length = xs.length := by simp [cb]
theorem cb_append (xs ys : List Int) : cb (xs ++ ys) = cb xs ++ cb ys := by simp [cb]
theorem cb_get {xs : List Int} {j : Nat} (h : j < xs.length) : (cb xs)[j]? = some (fB xs j) := by
  simp [cb, fB, h, List.getD]
theorem cb_one (xs : List Int) : ∀ u ∈ cb xs, u.oneCell' = true := by
  intro u hu
  simp only [cb, List.mem_map] at hu
  obtain ⟨a, _, rfl⟩ := hu
  rfl

theorem rd_cells {w : World} {a : Addr} {n : Nat} {B : List Int} (hB : B.length = n) (h : Rd w (some a) n (fB B)) : ∀ j v, (cb B)[j]? = some v → w.cell? (a.add j) = some v := by
  intro j v hj
  have hlt : j < B.length := by
    rcases Nat.lt_or_ge j B.length with h' | h'
    · exact h'
    · rw [List.getElem?_eq_none (by rw [cb_length]; exact h')] at hj; cases hj
  rw [cb_get hlt] at hj
  obtain ⟨b, off, e, hc⟩ := h j (by omega)
  simp only [Option.some.injEq] at e hj
  subst e hj
  rw [← hc]
  congr 1
  unfold Addr.add
  split <;> simp_all

theorem own_bytes_rd {w : World} {ao : Option Addr} {n c : Nat} {B : List Int} (h : w.ownsRow 0 5 1 (.slice ao n c) n (cb B)) : Rd w ao n (fB B) := by
  have hl : B.length = n := by have := h.1; rw [cb_length] at this; omega
  refine (own_rd h).congr (fun j hj => ?_)
  show (cb B).getD j undef = _
  rw [List.getD_eq_getElem?_getD, cb_get (by omega)]; rfl

theorem row_of {w : World} {g n : Nat} {cs : List Value} (h : w.ownsRow 0 5 1 (.slice (some ⟨g, 0, none⟩) n n) n cs) : w.heap[g]? = some (.cells cs.toArray 5 (0, 0)) := by
  rcases h.2 with ⟨h', _⟩ | ⟨g', cap, cur, h', _, hg, _, _, hcs, htake⟩
  · simp at h'
  · simp only [Value.slice.injEq, Option.some.injEq, Addr.mk.injEq, and_true, true_and] at h'
    obtain ⟨rfl, rfl⟩ := h'
    rw [List.take_of_length_le (by rw [Array.length_toList, hcs]; exact Nat.le_refl _)] at htake
    rw [hg, ← htake]

theorem own_of_row {w : World} {g n : Nat} {cs : List Value} (h : w.heap[g]? = some (.cells cs.toArray 5 (0, 0))) (hn : cs.length = n) (hm : n ≤ maxLen) : w.ownsRow 0 5 1 (.slice (some ⟨g, 0, none⟩) n n) n cs :=
  ⟨by omega, .inr ⟨g, n, cs.toArray, rfl, Nat.zero_le _, h, Nat.le_refl _, hm, by simp; omega, List.take_of_length_le (by simp; omega)⟩⟩

theorem below_grown {w w' : World} {B : Nat} (hB : w.heap.size = B) (h : Below B w w') : w.grownBy w' none := ⟨h.os, h.tape, h.output, h.size, fun k hk _ => h.block k (by omega)⟩
theorem grown_below {w w' : World} {B : Nat} (hB : w.heap.size = B) (h : w.grownBy w' none) : Below B w w' := ⟨h.os, h.tape, h.output, h.size, fun k hk => h.block k (by omega) (by simp)⟩

theorem splice_all {L cs : List Value} (h : L.length = cs.length) : splice L 0 cs = cs := by
  simp [splice]; omega

set_option maxHeartbeats 400000 in
theorem cloneBytes (w : World) (ao : Option Addr) (n cap : Nat) (B : List Int) (hB : B.length = n) (hn : n ≤ 2097152) (hR : Rd w ao n (fB B)) :
    Calls Try.prog 7 #[.slice ao n cap] w fun e w' => ∃ ao', e = .returned (.slice ao' n n) ∧ w'.ownsRow 0 5 1 (.slice ao' n n) n (cb B) ∧ w.grownBy w' none ∧ (∀ b, (Value.slice ao' n n).ownBlock = some b → w.heap.size ≤ b) := by
  obtain ⟨i0, hi, hz0, hz1, hz2⟩ := info_parts info5
  have heq := fun w a l c => run_eql_slice_nil (P := Try.prog) w 22 5 a l c Try.underlying22
  cases ao with
  | none =>
    obtain rfl := hR.nil
    have hb0 : B = [] := List.length_eq_zero_iff.1 hB
    subst hb0
    go_enter Try.func7, Try.ntmps7
    go_wp2
    go_ret
    exact ⟨none, rfl, World.ownsRow_nil _ _ _ _, World.grownBy.refl _ _, by simp [Value.ownBlock]⟩
  | some a =>
    generalize hg : w.heap.size = g
    have Hg := hid hg
    have HR := hid hR
    have hsz : (Try.prog.info? 5).map (·.size) = some 1 := by rw [hi]; simp [hz1]
    clear hg hR
    go_enter Try.func7, Try.ntmps7
    have hcl := cb_length B
    go_wp2_with (at_make; refine wpList_make_full _ rfl _ _ 22 rfl 0 5 i0 (.int .u8 0) 1 Try.underlying22 hi hz0 hz1 .i64 .i64 _ _ n rfl rfl rfl rfl (by rw [hz2]; omega) (by unfold maxLen; omega) (Nat.zero_le _) ?_; intro w1 hown hgr; rw [Hg.out] at hown ⊢; have HO1 := hid hown; have HG1 := hid hgr; clear hown hgr)
    generalize (madeCells (Value.int IntKind.u8 0).cells (n * 1)).toList = cs0 at HO1
    have hl0 : cs0.length = n := by have := HO1.out.1; omega
    have hrun := run_copy_row (P := Try.prog) w1 22 22 3 5 g 0 n n a n cap cs0.toArray 5 (cb B) Try.underlying22 hsz (row_of HO1.out) (by rw [hcl, hB]; simp) (rd_cells hB (HR.out.kept HG1.out)) (by simp; omega) (cb_one B)
    have harr : (cs0.toArray.toList.take 0 ++ cb B ++ cs0.toArray.toList.drop (0 + (cb B).length)).toArray = (cb B).toArray := by
      congr 1
      simp; omega
    rw [harr] at hrun
    have R : Hid ((w1.setRow g (cb B).toArray).ownsRow 0 5 1 (.slice (some ⟨g, 0, none⟩) n n) n (cb B) ∧ w.grownBy (w1.setRow g (cb B).toArray) none) :=
      ⟨own_of_row (setRow_heap w1 g _ _ 5 _ (row_of HO1.out)) (by omega) (by unfold maxLen; omega), below_grown Hg.out (below_setRow (grown_below Hg.out HG1.out) (Nat.le_refl _) _)⟩
    rw [hrun]
    clear hrun harr
    generalize w1.setRow g (cb B).toArray = w2 at R ⊢
    go_wp2
    go_ret
    exact ⟨_, rfl, R.out.1, R.out.2, fun b e => by simp [Value.ownBlock] at e; omega⟩
end Go.Proofs.Qxb6606000a
