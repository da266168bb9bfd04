import Derived.Test.Qxb6605914aMem
namespace Go.Proofs.Qxb6605914a
open Go.RowKit
set_option maxRecDepth 100000

theorem clone_nil (w : World) (n cap : Nat) : Calls Try.prog 8 #[.slice none n cap] w fun e w' => e = .returned (.slice none 0 0) ∧ w' = w := by
  have heq := fun w a l c => run_eql_slice_nil (P := Try.prog) w 23 5 a l c Try.underlying23
  go_enter Try.func8, Try.ntmps8
  go_wp2
  go_ret
  exact ⟨rfl, rfl⟩

theorem take_set_next {α : Type} {cs : List α} {k : Nat} (u : α) (h : k < cs.length) : (cs.set k u).take (k + 1) = cs.take k ++ [u] := by
  rw [List.take_succ_eq_append_getElem (by simpa using h)]
  simp [List.take_set_of_le]

theorem cb_take_succ {xs : List Int} {k : Nat} (h : k < xs.length) : cb (xs.take (k + 1)) = cb (xs.take k) ++ [.int .u8 (xs.getD k 0)] := by
  rw [List.take_succ_eq_append_getElem h, cb_append]
  simp [cb, h, List.getD]

set_option maxHeartbeats 400000 in
theorem clone_some (w : World) (a : Addr) (n cap : Nat) (xs : List Int) (hx : xs.length = n) (hn : n ≤ 2097152) (hR : Rd w (some a) xs) :
    Calls Try.prog 8 #[.slice (some a) n cap] w fun e w' => e = .returned (.slice (some ⟨w.heap.size, 0, none⟩) n n) ∧ Own w' (.slice (some ⟨w.heap.size, 0, none⟩) n n) xs ∧ w.grownBy w' none := by
  obtain ⟨i0, hi, hz0, hz1, hz2⟩ := info_parts info5
  have heq := fun w a l c => run_eql_slice_nil (P := Try.prog) w 23 5 a l c Try.underlying23
  generalize hg : w.heap.size = g
  have Hg : Hid (w.heap.size = g) := hg
  clear hg
  go_enter Try.func8, Try.ntmps8
  go_wp2_with (at_make; refine wpList_make_full _ rfl _ _ 23 rfl 0 5 i0 (.int .u8 0) 1 Try.underlying23 hi hz0 hz1 .i64 .i64 _ _ n rfl rfl rfl rfl (by rw [hz2]; omega) (by unfold maxLen; omega) (Nat.zero_le _) ?_; intro w1 hown hgr; rw [Hg.out] at hown ⊢)
  clear heq hi hz0 hz1 hz2
  go_loopw [4] (fun i wr => ∃ k : Nat, k ≤ n ∧ i = .int .i64 k ∧ ∃ cs : List Value, wr.ownsRow 0 5 1 (.slice (some ⟨g, 0, none⟩) n n) n cs ∧ cs.take k = cb (xs.take k) ∧ w.grownBy wr none) (fun i _ => n - (intOf i).toNat)
  case atStart => exact ⟨0, Nat.zero_le _, rfl, _, hown, by simp [cb], hgr⟩
  case round =>
    obtain ⟨k, hk, rfl, cs, hcs, htk, hgw⟩ := hrel
    clear hown hgr
    by_cases hlt : k < n
    · obtain ⟨b, off, ha, hc⟩ := hR k (by omega)
      simp only [Option.some.injEq] at ha
      subst ha
      have hbw : b < w.heap.size := World.block_lt_of_cell? _ _ hc
      have hbg : b ≠ g := by have := Hg.out; omega
      have hc' := hgw.cell hc (by simp)
      clear hc
      have hcl : cs.length = n := by have := hcs.1; omega
      have hcg := hcs.cellAt k (by omega)
      have hfz := hcs.frozenAt k
      rw [List.getElem?_eq_getElem (by omega)] at hcg
      have hst := hcs.stored k (.int .u8 (xs.getD k 0))
      have R : (cs.set k (.int .u8 (xs.getD k 0))).take (k + 1) = cb (xs.take (k + 1)) ∧ w.grownBy (wr.setCell ⟨g, k, none⟩ (.int .u8 (xs.getD k 0))) none := by
        refine ⟨by rw [take_set_next _ (by omega), htk, cb_take_succ (by omega)], ⟨hst.2.os.trans hgw.os, hst.2.tape.trans hgw.tape, hst.2.output.trans hgw.output, Nat.le_trans hgw.size hst.2.size, fun j hj hne => ?_⟩⟩
        rw [hst.2.block j (Nat.lt_of_lt_of_le hj hgw.size) (by have := Hg.out; simp; omega)]
        exact hgw.block j hj hne
      have hst1 := hst.1
      clear hst htk hgw hcs hR
      generalize xs.getD k 0 = u at hc' hst1 R
      go_wp2
      go_roundw
      case rel => exact ⟨k + 1, by omega, by go_num, _, hst1, R.1, R.2⟩
      case measure => simp [intOf]; omega
    · go_wp2
      go_ret
      obtain rfl : n = k := by omega
      refine ⟨rfl, ?_, hgw⟩
      have h1 : cs.take n = cs := List.take_of_length_le (by have := hcs.1; omega)
      have h2 : xs.take n = xs := List.take_of_length_le (by omega)
      rw [h1, h2] at htk
      subst htk
      unfold Own
      rw [hx]
      exact hcs
end Go.Proofs.Qxb6605914a
