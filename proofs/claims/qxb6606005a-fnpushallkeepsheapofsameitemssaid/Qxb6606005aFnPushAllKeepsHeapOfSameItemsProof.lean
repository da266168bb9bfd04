/-
  THE PROOF OF 'Rows.FnPushAllKeepsHeapOfSameItemsSaid'. The frame follows the guide's template for slices; the walk lies in Qxb6606005aAll.
-/
import Derived.Test.Qxb6606005aRows
import Derived.Test.Qxb6606005aAll
import Derived.Test.Qxb6606005aOpenQ
namespace Go.Proofs.Qxb6606005a.fnPushAllKeepsHeapOfSameItems
open Go.ChangeShapes Go.WideShapes Go.ChangeAt Go.RowKit Go.Deep
open Go.Proofs.Qxb6606005a.Hp (own laidOut open_items all_walk RdQ)
set_option linter.unusedVariables false

set_option maxRecDepth 100000 in
theorem lifted (os : Os) (started : os.Started) (H : Type) (enc : TypeId × Value → H) :
    ReturnsInHanded {} Try.checked os 4 .any (Rows.fnPushAllKeepsHeapOfSameItemsSpec.pre6 enc Try.prog Try.f4 Rows.fnPushAllKeepsHeapOfSameItemsRow.domain false) (Rows.fnPushAllKeepsHeapOfSameItemsSpec.post enc Try.prog Try.f4 false true false false) := by
  refine returnsInHanded_of_change (C := Try.checked) own started (by kernel_rfl) Try.func4
    (ChangeSpec.witness6 (enc := enc) (C := Try.checked) false ⟨#[], #[.slice none 0 0], []⟩ 8 (by kernel_rfl) (by kernel_rfl) (by kernel_rfl) (by kernel_rfl)) ?_
  intro W base args ds gs before hval0 hW hcnd _
  have hval : ∀ (j : Nat) t v, Try.f4.params[j]? = some t → args[j]? = some v → Value.okWide Try.prog W .any base t v := hval0
  have hW' := hW
  obtain ⟨p, q, hA0, hV, rfl, hfz, hnd⟩ := hW
  have hA : DataW.TrodAll enc Try.prog W 0 (fun _ => true) true Try.f4.params.toList args.toList ds p := hA0
  rw [Try.params4] at hA hval
  obtain ⟨v0, vs0, d0, ds0, p0, q0, hargs, rfl, rfl, h0, r0⟩ := trodAll_cons hA
  obtain ⟨rfl, rfl, rfl⟩ := trodAll_nil r0
  obtain rfl : args = #[v0] := by cases args; simp_all
  obtain ⟨rfl, rfl⟩ := trodVars_none hV
  obtain ⟨a0, len0, cap0, rfl⟩ := okWide_slice Try.underlying22 (hval 0 22 v0 rfl rfl)
  have k0 := h0
  have lt0 : ∀ x ∈ p0, x.block < W.heap.size := by obtain ⟨m, hm⟩ := k0; exact DataW.trod_lt m _ _ _ hm
  obtain ⟨X, S, w0⟩ : ∃ X S, RdQ W a0 len0 X S := by
    obtain ⟨fuel, hf⟩ := h0
    exact open_items hf
  clear hA0 hval0
  refine (all_walk W a0 len0 cap0 X S w0).mono fun e W' ⟨he, hg⟩ => ?_
  subst he
  have bel : Below W.heap.size W W' := ⟨hg.os, hg.tape, hg.output, hg.size, fun k hk => hg.block k hk (by simp)⟩
  exact ⟨_, rfl, _, _, _, [], _, [], hW', trodAll_mk1 (shut_bool Try.underlying4 _), (trodAll_cons_mk (Below.trod laidOut (by kernel_rfl) (of_decide_eq_true (by kernel_rfl)) k0 bel lt0) trodAll_mk0), rfl, bel.frame _, fun h => by cases h⟩

theorem over : Rows.fnPushAllKeepsHeapOfSameItemsRow.holds Try.pinned (OpenSpec.ofChange Rows.fnPushAllKeepsHeapOfSameItemsSpec) :=
  OpenClaim.holds_of_wide 4 Try.f4 rfl rfl rfl rfl rfl rfl rfl ⟨rfl, rfl, rfl, rfl, rfl⟩ rfl rfl rfl rfl rfl (by kernel_rfl) Try.func4 (by kernel_rfl)
    (of_decide_eq_true (by kernel_rfl)) (by unfold Func.isWrapper; first | (rw [if_pos (by decide +kernel)]; kernel_rfl) | (rw [if_neg (by decide +kernel)]; exact ⟨rfl, rfl⟩))
    (fun os started H enc _ => lifted os started H enc)

theorem proved : Rows.FnPushAllKeepsHeapOfSameItemsSaid := over
end Go.Proofs.Qxb6606005a.fnPushAllKeepsHeapOfSameItems

namespace Go.Proofs.Qxb6606005a
theorem pushAll_proved : Rows.FnPushAllKeepsHeapOfSameItemsSaid :=
  fnPushAllKeepsHeapOfSameItems.proved
end Go.Proofs.Qxb6606005a
