/-
  THE PROOF OF 'Rows.FnAppendSetStreamReadsBackInOrderSaid'. The frame follows the guide's template for slices; the walk lies in Qxb6605914aStream.
-/
import Derived.Test.Qxb6605914aRows
import Derived.Test.Qxb6605914aStream
import Derived.WalkKit
import Derived.ProofKit
import Derived.OpenShut
import Derived.ShutString
import Derived.ChangeOld
import Derived.Below
import Derived.Deep.Matrix
namespace Go.Proofs.Qxb6605914a.fnAppendSetStreamReadsBackInOrder
open Go.ChangeShapes Go.WideShapes Go.ChangeAt Go.RowKit Go.Deep
set_option linter.unusedVariables false

theorem own : ownKnob Try.prog.godebug = none := by kernel_rfl
theorem laidOut : laidOutB Try.prog = true := by kernel_rfl

theorem getD_range {n r : Nat} (f : Nat → List Int) (h : r < n) : ((List.range n).map f).getD r [] = f r := by
  simp [List.getD, h]

theorem nest_of {w : World} {a : Addr} {len cap : Nat} {A : Nat → Option Addr} {L C : Nat → Nat} {Z : Nat → List Int} (hl : len ≤ cap) (hm : cap ≤ maxLen)
    (h : ∀ r, r < cap → w.cell? (a.add r) = some (.slice (A r) (L r) (C r)) ∧ L r ≤ C r ∧ C r ≤ maxLen ∧ (Z r).length = C r ∧ (∀ n ∈ Z r, (Lit.int .u8 n).wf = true) ∧ (A r = none → C r = 0) ∧
        ∀ a', A r = some a' → 0 ≤ a'.block ∧ ∀ c, c < C r → w.cell? (a'.add c) = some (.int .u8 ((Z r).getD c 0))) :
    Nest w (some a) len ((List.range len).map fun r => (Z r).take (L r)) A C := by
  refine ⟨by simp, fun r hr => ?_, fun r hr => ?_, by omega⟩
  · obtain ⟨h1, h2, h3, h4, _⟩ := h r (by omega)
    rw [getD_range _ hr]
    obtain ⟨b, off, spot⟩ := a
    have hspot : spot = none := by simpa [Addr.add] using World.cell?_spot (h 0 (by omega)).1
    subst hspot
    refine ⟨b, off, rfl, ?_⟩
    rw [← add_plain, h1, List.length_take, h4, Nat.min_eq_left h2]
  · obtain ⟨h1, h2, h3, h4, h5, h6, h7⟩ := h r (by omega)
    rw [getD_range _ hr]
    have hll : ((Z r).take (L r)).length = L r := by rw [List.length_take, h4, Nat.min_eq_left h2]
    have hg : ∀ k, k < L r → ((Z r).take (L r)).getD k 0 = (Z r).getD k 0 := fun k hk => by simp [List.getD, hk]
    refine ⟨rfl, fun j hj => ?_, fun k hk => ?_, by omega⟩
    · rw [hll] at hj
      cases hA : A r with
      | none => have := h6 hA; omega
      | some x =>
        obtain ⟨_, hc⟩ := h7 x hA
        obtain ⟨b, off, spot⟩ := x
        have hspot : spot = none := by simpa [Addr.add] using World.cell?_spot (hc 0 (by omega))
        subst hspot
        exact ⟨b, off, rfl, by rw [hg j hj, ← add_plain]; exact hc j (by omega)⟩
    · rw [hll] at hk
      rw [hg k hk]
      have hb := bounds_u8 (h5 ((Z r).getD k 0) (by
        have hk' : k < (Z r).length := by omega
        simp [List.getD, hk']))
      omega

theorem walk (a0 : Option Addr) (len0 cap0 : Nat) (X0 : List (List Int)) (A0 : Nat → Option Addr) (C0 : Nat → Nat) (a1 : Option Addr) (len1 cap1 : Nat) (X1 : List (List Int)) (A1 : Nat → Option Addr) (C1 : Nat → Nat) (w : World) (w0 : Nest w a0 len0 X0 A0 C0) (w1 : Nest w a1 len1 X1 A1 C1) :
    Calls Try.prog 6 #[.slice a0 len0 cap0, .slice a1 len1 cap1] w fun e w' => e = .returned (.bool true) ∧ Below w.heap.size w w' :=
  stream_walk w a0 a1 len0 len1 cap0 cap1 X0 X1 A0 A1 C0 C1 w0 w1

set_option maxRecDepth 100000 in
theorem lifted (os : Os) (started : os.Started) (H : Type) (enc : TypeId × Value → H) :
    ReturnsInHanded {} Try.checked os 6 .any (Rows.fnAppendSetStreamReadsBackInOrderSpec.pre6 enc Try.prog Try.f6 Rows.fnAppendSetStreamReadsBackInOrderRow.domain false) (Rows.fnAppendSetStreamReadsBackInOrderSpec.post enc Try.prog Try.f6 false true false false) := by
  refine returnsInHanded_of_change (C := Try.checked) own started (by kernel_rfl) Try.func6
    (ChangeSpec.witness6 (enc := enc) (C := Try.checked) false ⟨#[], #[.slice none 0 0, .slice none 0 0], []⟩ 8 (by kernel_rfl) (by kernel_rfl) (by kernel_rfl) (by kernel_rfl)) ?_
  intro W base args ds gs before hval0 hW hcnd _
  have hval : ∀ (j : Nat) t v, Try.f6.params[j]? = some t → args[j]? = some v → Value.okWide Try.prog W .any base t v := hval0
  have hW' := hW
  obtain ⟨p, q, hA0, hV, rfl, hfz, hnd⟩ := hW
  have hA : DataW.TrodAll enc Try.prog W 0 (fun _ => true) true Try.f6.params.toList args.toList ds p := hA0
  rw [Try.params6] at hA hval
  obtain ⟨v0, vs0, d0, ds0, p0, q0, hargs, rfl, rfl, h0, r0⟩ := trodAll_cons hA
  obtain ⟨v1, vs1, d1, ds1, p1, q1, rfl, rfl, rfl, h1, r1⟩ := trodAll_cons r0
  obtain ⟨rfl, rfl, rfl⟩ := trodAll_nil r1
  obtain rfl : args = #[v0, v1] := by cases args; simp_all
  obtain ⟨rfl, rfl⟩ := trodVars_none hV
  obtain ⟨a0, len0, cap0, rfl⟩ := okWide_slice Try.underlying44 (hval 0 44 v0 rfl rfl)
  have k0 := h0
  have lt0 : ∀ x ∈ p0, x.block < W.heap.size := by obtain ⟨m, hm⟩ := k0; exact DataW.trod_lt m _ _ _ hm
  obtain ⟨X0, A0, C0, w0⟩ : ∃ X A C, Nest W a0 len0 X A C := by
    obtain ⟨fuel, hf⟩ := h0
    rcases open_int_rows Try.underlying44 Try.underlying23 Try.underlying5 (by kernel_rfl) (by kernel_rfl) hf with ⟨hcs, _⟩ | ⟨x, l, c, A, L, C, Z, hcs, _, hl, hm, _, hrow⟩
    · simp [Value.cells] at hcs
      obtain ⟨rfl, rfl, rfl⟩ := hcs
      exact ⟨[], fun _ => none, fun _ => 0, rfl, fun r hr => by omega, fun r hr => by omega, Nat.zero_le _⟩
    · simp [Value.cells] at hcs
      obtain ⟨rfl, rfl, rfl⟩ := hcs
      exact ⟨_, A, C, nest_of hl hm hrow⟩
  obtain ⟨a1, len1, cap1, rfl⟩ := okWide_slice Try.underlying44 (hval 1 44 v1 rfl rfl)
  have k1 := h1
  have lt1 : ∀ x ∈ p1, x.block < W.heap.size := by obtain ⟨m, hm⟩ := k1; exact DataW.trod_lt m _ _ _ hm
  obtain ⟨X1, A1, C1, w1⟩ : ∃ X A C, Nest W a1 len1 X A C := by
    obtain ⟨fuel, hf⟩ := h1
    rcases open_int_rows Try.underlying44 Try.underlying23 Try.underlying5 (by kernel_rfl) (by kernel_rfl) hf with ⟨hcs, _⟩ | ⟨x, l, c, A, L, C, Z, hcs, _, hl, hm, _, hrow⟩
    · simp [Value.cells] at hcs
      obtain ⟨rfl, rfl, rfl⟩ := hcs
      exact ⟨[], fun _ => none, fun _ => 0, rfl, fun r hr => by omega, fun r hr => by omega, Nat.zero_le _⟩
    · simp [Value.cells] at hcs
      obtain ⟨rfl, rfl, rfl⟩ := hcs
      exact ⟨_, A, C, nest_of hl hm hrow⟩
  clear hA0 hval0
  refine (walk a0 len0 cap0 X0 A0 C0 a1 len1 cap1 X1 A1 C1 W w0 w1).mono fun e W' ⟨he, bel⟩ => ?_
  subst he
  exact ⟨_, rfl, _, _, _, [], _, [], hW', trodAll_mk1 (shut_bool Try.underlying4 _), (trodAll_cons_mk (Below.trod laidOut (by kernel_rfl) (of_decide_eq_true (by kernel_rfl)) k0 bel lt0) (trodAll_cons_mk (Below.trod laidOut (by kernel_rfl) (of_decide_eq_true (by kernel_rfl)) k1 bel lt1) trodAll_mk0)), rfl, bel.frame _, fun h => by cases h⟩

theorem over : Rows.fnAppendSetStreamReadsBackInOrderRow.holds Try.pinned (OpenSpec.ofChange Rows.fnAppendSetStreamReadsBackInOrderSpec) :=
  OpenClaim.holds_of_wide 6 Try.f6 rfl rfl rfl rfl rfl rfl rfl ⟨rfl, rfl, rfl, rfl, rfl⟩ rfl rfl rfl rfl rfl (by kernel_rfl) Try.func6 (by kernel_rfl)
    (of_decide_eq_true (by kernel_rfl)) (by unfold Func.isWrapper; first | (rw [if_pos (by decide +kernel)]; kernel_rfl) | (rw [if_neg (by decide +kernel)]; exact ⟨rfl, rfl⟩))
    (fun os started H enc _ => lifted os started H enc)

theorem proved : Rows.FnAppendSetStreamReadsBackInOrderSaid := over
end Go.Proofs.Qxb6605914a.fnAppendSetStreamReadsBackInOrder

namespace Go.Proofs.Qxb6605914a
theorem streamReadsBack_proved : Rows.FnAppendSetStreamReadsBackInOrderSaid :=
  fnAppendSetStreamReadsBackInOrder.proved
end Go.Proofs.Qxb6605914a
