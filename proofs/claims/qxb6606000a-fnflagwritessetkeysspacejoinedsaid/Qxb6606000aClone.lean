import Derived.Test.Qxb6606000aRead
namespace Go.Proofs.Qxb6606000a
open Go.RowKit
set_option maxRecDepth 100000

theorem take_set_next {α : Type} {cs : List α} {k : Nat} (u : α) (h : k < cs.length) : (cs.set k u).take (k + 1) = cs.take k ++ [u] := by
  rw [List.take_succ_eq_append_getElem (by simpa using h)]
  simp [List.take_set_of_le]

theorem Rd.nil {w : World} {n : Nat} {f : Nat → Value} (h : Rd w none n f) : n = 0 := by
  rcases Nat.eq_zero_or_pos n with h0 | h0
  · exact h0
  · obtain ⟨b, off, e, _⟩ := h 0 h0
    simp at e

/-- what stands in the row while the first k elements are cloned -/
def Part (wr : World) (e : TypeId) (g n k : Nat) (f : Nat → Value) : Prop :=
  ∃ cs : List Value, wr.ownsRow 0 e 1 (.slice (some ⟨g, 0, none⟩) n n) n cs ∧ ∀ j, j < k → cs[j]? = some (f j)

theorem part_step {w wr : World} {e : TypeId} {g n k : Nat} {f : Nat → Value} (h : Part wr e g n k f) (hk : k < n) (hg : w.heap.size = g) (hgw : w.grownBy wr none) :
    (∃ v, wr.cell? ⟨g, k, none⟩ = some v) ∧ wr.frozen? ⟨g, k, none⟩ = false ∧ Part (wr.setCell ⟨g, k, none⟩ (f k)) e g n (k + 1) f ∧ w.grownBy (wr.setCell ⟨g, k, none⟩ (f k)) none := by
  obtain ⟨cs, hcs, hf⟩ := h
  have hcl : cs.length = n := by have := hcs.1; omega
  have hst := hcs.stored k (f k)
  refine ⟨⟨cs[k], by rw [hcs.cellAt k (by omega), List.getElem?_eq_getElem (by omega)]⟩, hcs.frozenAt k, ⟨_, hst.1, fun j hj => ?_⟩, ⟨hgw.os, hgw.tape, hgw.output, by simpa using hgw.size, fun j hj hne => ?_⟩⟩
  · by_cases hjk : j = k
    · subst hjk; simp [hcl, hk]
    · rw [List.getElem?_set_ne (by omega)]; exact hf j (by omega)
  · rw [Below.heap_setCell _ _ _ _ (by show j ≠ g; omega)]
    exact hgw.block j hj hne

theorem part_rd {wr : World} {e : TypeId} {g n : Nat} {f : Nat → Value} (h : Part wr e g n n f) : Rd wr (some ⟨g, 0, none⟩) n f := by
  obtain ⟨cs, hcs, hf⟩ := h
  intro j hj
  exact ⟨g, 0, rfl, by rw [Nat.zero_add, hcs.cellAt j (by omega), hf j hj]⟩

set_option maxHeartbeats 400000 in
theorem cloneStr (w : World) (ao : Option Addr) (n cap : Nat) (K : List ByteArray) (hn : n ≤ 2097152) (hR : Rd w ao n (fK K)) :
    Calls Try.prog 8 #[.slice ao n cap] w fun e w' => ∃ ao', e = .returned (.slice ao' n n) ∧ Rd w' ao' n (fK K) ∧ w.grownBy w' none := by
  obtain ⟨i0, hi, hz0, hz1, hz2⟩ := info_parts info9
  have heq := fun w a l c => run_eql_slice_nil (P := Try.prog) w 23 9 a l c Try.underlying23
  cases ao with
  | none =>
    obtain rfl := hR.nil
    go_enter Try.func8, Try.ntmps8
    go_wp2
    go_ret
    exact ⟨none, rfl, fun j hj => by omega, World.grownBy.refl _ _⟩
  | some a =>
    generalize hg : w.heap.size = g
    have Hg := hid hg
    have HR := hid hR
    clear hg hR
    go_enter Try.func8, Try.ntmps8
    go_wp2_with (at_make; refine wpList_make_full _ rfl _ _ 23 rfl 0 9 i0 (.string ⟨#[]⟩) 1 Try.underlying23 hi hz0 hz1 .i64 .i64 _ _ n rfl rfl rfl rfl (by rw [hz2]; omega) (by unfold maxLen; omega) (Nat.zero_le _) ?_; intro w1 hown hgr; rw [Hg.out] at hown ⊢)
    clear heq hi hz0 hz1 hz2
    go_loopw [4] (fun i wr => ∃ k : Nat, k ≤ n ∧ i = .int .i64 k ∧ Part wr 9 g n k (fK K) ∧ w.grownBy wr none) (fun i _ => n - (intOf i).toNat)
    case atStart => exact ⟨0, Nat.zero_le _, rfl, ⟨_, hown, fun j hj => by omega⟩, hgr⟩
    case round =>
      obtain ⟨k, hk, rfl, hP, hgw⟩ := hrel
      clear hown hgr
      by_cases hlt : k < n
      · obtain ⟨b, off, ha, hc⟩ := HR.out k (by omega)
        simp only [Option.some.injEq] at ha
        subst ha
        have hc' := hgw.cell hc (by simp)
        obtain ⟨⟨old, hcg⟩, hfz, R1, R2⟩ := part_step hP hlt Hg.out hgw
        have HS := hid (And.intro R1 R2)
        have hfk : fK K k = .string (K.getD k ByteArray.empty) := rfl
        rw [hfk] at hc'
        have HS' : Hid (Part (wr.setCell ⟨g, k, none⟩ (.string (K.getD k ByteArray.empty))) 9 g n (k + 1) (fK K) ∧ w.grownBy (wr.setCell ⟨g, k, none⟩ (.string (K.getD k ByteArray.empty))) none) := HS.out
        clear hc hP hgw R1 R2 HS hfk
        generalize K.getD k ByteArray.empty = u at hc' HS'
        go_wp2
        go_roundw
        case rel => exact ⟨k + 1, by omega, by go_num, HS'.out.1, HS'.out.2⟩
        case measure => simp [intOf]; omega
      · obtain rfl : n = k := by omega
        go_wp2
        go_ret
        exact ⟨_, rfl, part_rd hP, hgw⟩

set_option maxHeartbeats 400000 in
theorem cloneBools (w : World) (ao : Option Addr) (n cap : Nat) (S : List Bool) (hn : n ≤ 2097152) (hR : Rd w ao n (fS S)) :
    Calls Try.prog 9 #[.slice ao n cap] w fun e w' => ∃ ao', e = .returned (.slice ao' n n) ∧ Rd w' ao' n (fS S) ∧ w.grownBy w' none := by
  obtain ⟨i0, hi, hz0, hz1, hz2⟩ := info_parts info4
  have heq := fun w a l c => run_eql_slice_nil (P := Try.prog) w 24 4 a l c Try.underlying24
  cases ao with
  | none =>
    obtain rfl := hR.nil
    go_enter Try.func9, Try.ntmps9
    go_wp2
    go_ret
    exact ⟨none, rfl, fun j hj => by omega, World.grownBy.refl _ _⟩
  | some a =>
    generalize hg : w.heap.size = g
    have Hg := hid hg
    have HR := hid hR
    clear hg hR
    go_enter Try.func9, Try.ntmps9
    go_wp2_with (at_make; refine wpList_make_full _ rfl _ _ 24 rfl 0 4 i0 (.bool false) 1 Try.underlying24 hi hz0 hz1 .i64 .i64 _ _ n rfl rfl rfl rfl (by rw [hz2]; omega) (by unfold maxLen; omega) (Nat.zero_le _) ?_; intro w1 hown hgr; rw [Hg.out] at hown ⊢)
    clear heq hi hz0 hz1 hz2
    go_loopw [4] (fun i wr => ∃ k : Nat, k ≤ n ∧ i = .int .i64 k ∧ Part wr 4 g n k (fS S) ∧ w.grownBy wr none) (fun i _ => n - (intOf i).toNat)
    case atStart => exact ⟨0, Nat.zero_le _, rfl, ⟨_, hown, fun j hj => by omega⟩, hgr⟩
    case round =>
      obtain ⟨k, hk, rfl, hP, hgw⟩ := hrel
      clear hown hgr
      by_cases hlt : k < n
      · obtain ⟨b, off, ha, hc⟩ := HR.out k (by omega)
        simp only [Option.some.injEq] at ha
        subst ha
        have hc' := hgw.cell hc (by simp)
        obtain ⟨⟨old, hcg⟩, hfz, R1, R2⟩ := part_step hP hlt Hg.out hgw
        have hfk : fS S k = .bool (S.getD k false) := rfl
        rw [hfk] at hc'
        have HS' : Hid (Part (wr.setCell ⟨g, k, none⟩ (.bool (S.getD k false))) 4 g n (k + 1) (fS S) ∧ w.grownBy (wr.setCell ⟨g, k, none⟩ (.bool (S.getD k false))) none) := ⟨R1, R2⟩
        clear hc hP hgw R1 R2 hfk
        generalize S.getD k false = u at hc' HS'
        go_wp2
        go_roundw
        case rel => exact ⟨k + 1, by omega, by go_num, HS'.out.1, HS'.out.2⟩
        case measure => simp [intOf]; omega
      · obtain rfl : n = k := by omega
        go_wp2
        go_ret
        exact ⟨_, rfl, part_rd hP, hgw⟩
end Go.Proofs.Qxb6606000a
