import Derived.Test.Qxb6606005aRead
import Derived.WalkKit
import Derived.ProofKit
import Derived.OpenShut
import Derived.ChangeOld
import Derived.Below
import Derived.Deep.SlicePairs
namespace Go.Proofs.Qxb6606005a.Hp
open Go.ChangeShapes Go.WideShapes Go.ChangeAt Go.RowKit Go.Deep
set_option linter.unusedVariables false

theorem own : ownKnob Try.prog.godebug = none := by kernel_rfl
theorem laidOut : laidOutB Try.prog = true := by kernel_rfl
theorem trod_float {H : Type} {enc : TypeId × Value → H} {P : Program} {w : World} {base : Nat} {spare : Nat → Bool} {held : Bool} {t : TypeId} {fuel : Nat} {cs : List Value} {x : DataW H × List MemPlace} {k : FloatKind} (ht : P.underlying t = some (.float k)) (h : DataW.trod enc P w base spare held fuel t cs = some x) : ∃ n, cs = [.float k n] ∧ x = (.lit (.float k n), []) ∧ (Lit.float k n).wf = true := by
  cases fuel with
  | zero => simp [DataW.trod] at h
  | succ n =>
    unfold DataW.trod at h
    rw [ht] at h
    split at h <;> simp_all

theorem open_items {H : Type} {enc : TypeId × Value → H} {w : World} {base : Nat} {spare : Nat → Bool} {held : Bool} {fuel : Nat} {a : Option Addr} {len cap : Nat} {x : DataW H × List MemPlace}
    (h : DataW.trod enc Try.prog w base spare held fuel 22 [.slice a len cap] = some x) : ∃ (X : Nat → Nat) (S : Nat → Int), RdQ w a len X S := by
  rcases open_slice_pairs Try.underlying22 Try.underlying32 (by kernel_rfl) rfl rfl (by kernel_rfl) (by kernel_rfl) h with ⟨hcs, _⟩ | ⟨x, l, c, m, n, V0, V1, D0, D1, P0, P1, hcs, _, hl, hm, hmm, _, hx⟩
  · simp at hcs
    obtain ⟨rfl, rfl, rfl⟩ := hcs
    exact ⟨fun _ => 0, fun _ => 0, fun j hj => by omega⟩
  · simp at hcs
    obtain ⟨rfl, rfl, rfl⟩ := hcs
    have hml : len ≤ m := by rw [hmm]; split <;> omega
    obtain ⟨b, off, spot⟩ := x
    have each : ∀ i, i < len → ∃ q : Nat × Int, V0 i = .float .f64 q.1 ∧ V1 i = .int .u64 q.2 := fun i hi => by
      obtain ⟨_, _, h3, h4⟩ := hx i (by omega)
      obtain ⟨n0, e0, _⟩ := trod_float Try.underlying23 h3
      obtain ⟨n1, e1, _⟩ := DataW.trod_int Try.underlying24 h4
      simp only [List.cons.injEq, and_true] at e0 e1
      exact ⟨(n0, n1), e0, e1⟩
    obtain ⟨q, hq⟩ := choose_lt each
    refine ⟨fun i => (q i).1, fun i => (q i).2, fun j hj => ?_⟩
    obtain ⟨h1, h2, _, _⟩ := hx j (by omega)
    have hspot : spot = none := by simpa [Addr.add] using World.cell?_spot (hx 0 (by omega)).1
    subst hspot
    rw [(hq j hj).1, add_plain] at h1
    rw [(hq j hj).2, add_plain] at h2
    exact ⟨b, off, rfl, h1, by rw [Nat.add_assoc]; exact h2⟩
end Go.Proofs.Qxb6606005a.Hp
