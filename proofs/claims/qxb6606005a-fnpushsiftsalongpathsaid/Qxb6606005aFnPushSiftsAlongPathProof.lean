/-
  THE PROOF OF 'Rows.FnPushSiftsAlongPathSaid'. The frame follows the guide's template for slices; the walk lies in Qxb6606005aSift.
-/
import Derived.Test.Qxb6606005aRows
import Derived.Test.Qxb6606005aSift
import Derived.Test.Qxb6606005aOpenQ
namespace Go.Proofs.Qxb6606005a.fnPushSiftsAlongPath
open Go.ChangeShapes Go.WideShapes Go.ChangeAt Go.RowKit Go.Deep
open Go.Proofs.Qxb6606005a.Hp (own laidOut open_items sift_walk RdQ)
set_option linter.unusedVariables false

set_option maxRecDepth 100000 in
theorem lifted (os : Os) (started : os.Started) (H : Type) (enc : TypeId × Value → H) :
    ReturnsInHanded {} Try.checked os 3 .any (Rows.fnPushSiftsAlongPathSpec.pre6 enc Try.prog Try.f3 Rows.fnPushSiftsAlongPathRow.domain false) (Rows.fnPushSiftsAlongPathSpec.post enc Try.prog Try.f3 false true false false) := by
  refine returnsInHanded_of_change (C := Try.checked) own started (by kernel_rfl) Try.func3
    (ChangeSpec.witness6 (enc := enc) (C := Try.checked) false ⟨#[], #[.slice none 0 0, .float .f64 0, .int .u64 0], []⟩ 8 (by kernel_rfl) (by kernel_rfl) (by kernel_rfl) (by kernel_rfl)) ?_
  intro W base args ds gs before hval0 hW hcnd _
  have hval : ∀ (j : Nat) t v, Try.f3.params[j]? = some t → args[j]? = some v → Value.okWide Try.prog W .any base t v := hval0
  have hW' := hW
  obtain ⟨p, q, hA0, hV, rfl, hfz, hnd⟩ := hW
  have hA : DataW.TrodAll enc Try.prog W 0 (fun _ => true) true Try.f3.params.toList args.toList ds p := hA0
  rw [Try.params3] at hA hval
  obtain ⟨v0, vs0, d0, ds0, p0, q0, hargs, rfl, rfl, h0, r0⟩ := trodAll_cons hA
  obtain ⟨v1, vs1, d1, ds1, p1, q1, rfl, rfl, rfl, h1, r1⟩ := trodAll_cons r0
  obtain ⟨v2, vs2, d2, ds2, p2, q2, rfl, rfl, rfl, h2, r2⟩ := trodAll_cons r1
  obtain ⟨rfl, rfl, rfl⟩ := trodAll_nil r2
  obtain rfl : args = #[v0, v1, v2] := by cases args; simp_all
  obtain ⟨rfl, rfl⟩ := trodVars_none hV
  obtain ⟨a0, len0, cap0, rfl⟩ := okWide_slice Try.underlying22 (hval 0 22 v0 rfl rfl)
  have k0 := h0
  have lt0 : ∀ x ∈ p0, x.block < W.heap.size := by obtain ⟨m, hm⟩ := k0; exact DataW.trod_lt m _ _ _ hm
  obtain ⟨X, S, w0⟩ : ∃ X S, RdQ W a0 len0 X S := by
    obtain ⟨fuel, hf⟩ := h0
    exact open_items hf
  obtain ⟨xt, rfl, rfl, rfl, wxt⟩ := open_float Try.underlying23 (hval 1 23 v1 rfl rfl) h1
  obtain ⟨xs, rfl, rfl, rfl, wxs⟩ := open_int Try.underlying24 (hval 2 24 v2 rfl rfl) h2
  clear hA0 hval0
  refine (sift_walk W a0 len0 cap0 X S xt xs w0).mono fun e W' ⟨he, hg⟩ => ?_
  subst he
  have bel : Below W.heap.size W W' := ⟨hg.os, hg.tape, hg.output, hg.size, fun k hk => hg.block k hk (by simp)⟩
  exact ⟨_, rfl, _, _, _, [], _, [], hW', trodAll_mk1 (shut_bool Try.underlying4 _), (trodAll_cons_mk (Below.trod laidOut (by kernel_rfl) (of_decide_eq_true (by kernel_rfl)) k0 bel lt0) (trodAll_cons_mk (shut_float Try.underlying23 wxt) (trodAll_cons_mk (shut_int Try.underlying24 wxs) trodAll_mk0))), rfl, bel.frame _, fun h => by cases h⟩

theorem over : Rows.fnPushSiftsAlongPathRow.holds Try.pinned (OpenSpec.ofChange Rows.fnPushSiftsAlongPathSpec) :=
  OpenClaim.holds_of_wide 3 Try.f3 rfl rfl rfl rfl rfl rfl rfl ⟨rfl, rfl, rfl, rfl, rfl⟩ rfl rfl rfl rfl rfl (by kernel_rfl) Try.func3 (by kernel_rfl)
    (of_decide_eq_true (by kernel_rfl)) (by unfold Func.isWrapper; first | (rw [if_pos (by decide +kernel)]; kernel_rfl) | (rw [if_neg (by decide +kernel)]; exact ⟨rfl, rfl⟩))
    (fun os started H enc _ => lifted os started H enc)

theorem proved : Rows.FnPushSiftsAlongPathSaid := over
end Go.Proofs.Qxb6606005a.fnPushSiftsAlongPath

namespace Go.Proofs.Qxb6606005a
theorem pushSifts_proved : Rows.FnPushSiftsAlongPathSaid :=
  fnPushSiftsAlongPath.proved
end Go.Proofs.Qxb6606005a
