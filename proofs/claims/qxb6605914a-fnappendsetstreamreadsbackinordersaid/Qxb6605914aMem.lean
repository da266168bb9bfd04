import Derived.Test.Qxb6605914aRows
import Derived.WalkKit
import Derived.Maps.AppendAt
import Derived.Deep.QuietTactic
import Derived.BigQuiet
import Derived.Lib.LazyBuf
namespace Go.Proofs.Qxb6605914a
open Go.RowKit

theorem hid {p : Prop} (h : p) : Hid p := h
/-! ### Small laws on memory, for slices of bytes (type 23, elements of type 5) -/
theorem info5 : (Try.prog.info? 5).map (fun i => (i.zero, i.size, i.bytes)) = some (some (.int .u8 0), 1, 1) := by kernel_rfl

/-- the bytes xs as cells -/
def cb (xs : List Int) : List Value := xs.map (Value.int .u8)
theorem cb_length (xs : List Int) : (cb xs).length = xs.length := by simp [cb]
theorem cb_append (xs ys : List Int) : cb (xs ++ ys) = cb xs ++ cb ys := by simp [cb]
theorem cb_get {xs : List Int} {j : Nat} (h : j < xs.length) : (cb xs)[j]? = some (.int .u8 (xs.getD j 0)) := by
  simp [cb, h, List.getD]

/-- the value v owns just the bytes xs -/
def Own (w : World) (v : Value) (xs : List Int) : Prop := w.ownsRow 0 5 1 v xs.length (cb xs)

/-- the slice with address ao reads as xs -/
def Rd (w : World) (ao : Option Addr) (xs : List Int) : Prop :=
  ∀ j, j < xs.length → ∃ b off, ao = some ⟨b, off, none⟩ ∧ w.cell? ⟨b, off + j, none⟩ = some (.int .u8 (xs.getD j 0))

theorem Own.form {w : World} {v : Value} {xs : List Int} (h : Own w v xs) : ∃ ao cap, v = .slice ao xs.length cap ∧ Rd w ao xs ∧ xs.length ≤ cap ∧ cap ≤ maxLen := by
  have h0 := h
  rcases h.2 with ⟨rfl, hn⟩ | ⟨g, cap, cur, rfl, _, hg, hnc, hcm, _, htake⟩
  · exact ⟨none, 0, by rw [hn], fun j hj => by omega, by omega, Nat.zero_le _⟩
  · refine ⟨some ⟨g, 0, none⟩, cap, rfl, fun j hj => ⟨g, 0, rfl, ?_⟩, hnc, hcm⟩
    have := World.ownsRow.cellAt h0 j (by omega)
    rw [Nat.zero_add, this, cb_get hj]

theorem Own.kept {w w' : World} {v : Value} {xs : List Int} {row : Option Nat} (h : Own w v xs) (hg : w.grownBy w' row) (hne : v.ownBlock = none ∨ v.ownBlock ≠ row) : Own w' v xs :=
  World.ownsRow.kept h hg hne
theorem Own.drewN {w : World} {v : Value} {xs : List Int} (h : Own w v xs) (n : Nat) : Own (w.drewN n) v xs := h
theorem Rd.drewN {w : World} {ao : Option Addr} {xs : List Int} (h : Rd w ao xs) (n : Nat) : Rd (w.drewN n) ao xs := h
end Go.Proofs.Qxb6605914a
