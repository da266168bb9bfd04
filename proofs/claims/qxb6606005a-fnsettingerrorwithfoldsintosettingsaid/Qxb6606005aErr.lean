import Derived.Test.Qxb6606005aRows
import Derived.WalkKit
import Derived.Laws.Concat
import Derived.Deep.QuietTactic
import Derived.BigQuiet
import Derived.Deep.RegionHeld3
namespace Go.Proofs.Qxb6606005a
open Go.RowKit
set_option maxRecDepth 100000
theorem hid {p : Prop} (h : p) : Hid p := h

theorem errNew (w : World) (r : ByteArray) : Calls Try.prog 27 #[.string r] w fun e w' => e = .returned (.iface 77 (.pointer (some ⟨w.heap.size, 0, none⟩))) ∧ w' = w.alloc (.cells #[.string r] 79) := by
  go_enter Try.func27, Try.ntmps27
  go_wp2
  go_ret
  exact ⟨rfl, rfl⟩

theorem errText (w : World) (b : Nat) (r : ByteArray) (h : w.cell? ⟨b, 0, none⟩ = some (.string r)) : Calls Try.prog 49 #[.pointer (some ⟨b, 0, none⟩)] w fun e w' => e = .returned (.string r) ∧ w' = w := by
  go_enter Try.func49, Try.ntmps49
  go_wp2
  go_ret
  exact ⟨rfl, rfl⟩

theorem meth (b : Nat) (w : World) : (method 203 77 (.pointer (some ⟨b, 0, none⟩)) "Error").run Try.prog w = .ok (49, .pointer (some ⟨b, 0, none⟩)) w := by kernel_rfl

theorem setErr_plain (w : World) (L b : Nat) (s wi r : ByteArray) (hwi : wi.toList.isEmpty = true) (hs : s.size ≤ 4194304) (hr : r.size ≤ 4194304) (h0 : w.cell? ⟨L, 0, none⟩ = some (.string s)) (h1 : w.cell? ⟨L, 1, none⟩ = some (.string wi)) (h2 : w.cell? ⟨L, 2, none⟩ = some (.iface 77 (.pointer (some ⟨b, 0, none⟩)))) (hb : w.cell? ⟨b, 0, none⟩ = some (.string r)) :
    Calls Try.prog 28 #[.pointer (some ⟨L, 0, none⟩)] w fun e w' => e = .returned (.string (s ++ ⟨#[58, 32]⟩ ++ r)) ∧ ∃ q, w' = w.drewN q := by
  have n1 : ¬ 9223372036854775807 < s.size + 2 := by omega
  have n2 : ¬ 9223372036854775807 < s.size + 2 + r.size := by omega
  have hm := meth b
  go_enter Try.func28, Try.ntmps28
  go_wp2
  go_region_held3 (fun w' => w'.cell? ⟨L, 0, none⟩ = some (.string s) ∧ w'.cell? ⟨L, 1, none⟩ = some (.string wi) ∧ w'.cell? ⟨L, 2, none⟩ = some (.iface 77 (.pointer (some ⟨b, 0, none⟩))) ∧ w'.cell? ⟨b, 0, none⟩ = some (.string r)) (go_keep)
    ((go_at_call 49; refine (errText _ _ _ (by simpa using hb)).mono ?_; rintro e w' ⟨rfl, rfl⟩))
  go_wp2
  go_ret
  exact ⟨rfl, 1, rfl⟩

theorem setErr_with (w : World) (L b : Nat) (s wi r : ByteArray) (hwi : wi.toList.isEmpty = false) (hs : s.size ≤ 4194304) (hww : wi.size ≤ 4194304) (hr : r.size ≤ 4194304) (h0 : w.cell? ⟨L, 0, none⟩ = some (.string s)) (h1 : w.cell? ⟨L, 1, none⟩ = some (.string wi)) (h2 : w.cell? ⟨L, 2, none⟩ = some (.iface 77 (.pointer (some ⟨b, 0, none⟩)))) (hb : w.cell? ⟨b, 0, none⟩ = some (.string r)) :
    Calls Try.prog 28 #[.pointer (some ⟨L, 0, none⟩)] w fun e w' => e = .returned (.string (s ++ ⟨#[32, 97, 110, 100, 32]⟩ ++ wi ++ ⟨#[58, 32]⟩ ++ r)) ∧ ∃ q, w' = w.drewN q := by
  have n1 : ¬ 9223372036854775807 < s.size + 5 := by omega
  have n2 : ¬ 9223372036854775807 < s.size + 5 + wi.size := by omega
  have n3 : ¬ 9223372036854775807 < s.size + 5 + wi.size + 2 := by omega
  have n4 : ¬ 9223372036854775807 < s.size + 5 + wi.size + 2 + r.size := by omega
  have hm := meth b
  go_enter Try.func28, Try.ntmps28
  go_wp2
  go_region_held3 (fun w' => w'.cell? ⟨L, 0, none⟩ = some (.string s) ∧ w'.cell? ⟨L, 1, none⟩ = some (.string wi) ∧ w'.cell? ⟨L, 2, none⟩ = some (.iface 77 (.pointer (some ⟨b, 0, none⟩))) ∧ w'.cell? ⟨b, 0, none⟩ = some (.string r)) (go_keep)
    ((go_at_call 49; refine (errText _ _ _ (by simpa using hb)).mono ?_; rintro e w' ⟨rfl, rfl⟩))
  go_wp2
  go_ret
  exact ⟨rfl, 1, rfl⟩

/-- the text of (setting, with, reason) -/
def txt (s wi r : ByteArray) : ByteArray := if wi.toList.isEmpty then s ++ ⟨#[58, 32]⟩ ++ r else s ++ ⟨#[32, 97, 110, 100, 32]⟩ ++ wi ++ ⟨#[58, 32]⟩ ++ r

theorem setErr (w : World) (L b : Nat) (s wi r : ByteArray) (hs : s.size ≤ 4194304) (hww : wi.size ≤ 4194304) (hr : r.size ≤ 4194304) (h0 : w.cell? ⟨L, 0, none⟩ = some (.string s)) (h1 : w.cell? ⟨L, 1, none⟩ = some (.string wi)) (h2 : w.cell? ⟨L, 2, none⟩ = some (.iface 77 (.pointer (some ⟨b, 0, none⟩)))) (hb : w.cell? ⟨b, 0, none⟩ = some (.string r)) :
    Calls Try.prog 28 #[.pointer (some ⟨L, 0, none⟩)] w fun e w' => e = .returned (.string (txt s wi r)) ∧ ∃ q, w' = w.drewN q := by
  unfold txt
  cases hwi : wi.toList.isEmpty with
  | true => simp only [if_true]; exact setErr_plain w L b s wi r hwi hs hr h0 h1 h2 hb
  | false => simp only [Bool.false_eq_true, if_false]; exact setErr_with w L b s wi r hwi hs hww hr h0 h1 h2 hb

theorem grown_draws {W w' : World} (h : Grown W w') (q : Nat) : Grown W (w'.drewN q) := h
theorem grown_two {a b c : World} (h : Grown a b) (k : Grown b c) : Grown a c := ⟨World.keptBut_trans h.1 k.1, fun x => (k.2.1 x).trans (h.2.1 x), Nat.le_trans h.2.2 k.2.2⟩

theorem setText (w : World) (s wi r : ByteArray) (hs : s.size ≤ 4194304) (hww : wi.size ≤ 4194304) (hr : r.size ≤ 4194304) :
    Calls Try.prog 24 #[.string s, .string wi, .string r] w fun e w' => e = .returned (.string (txt s wi r)) ∧ Grown w w' := by
  go_enter Try.func24, Try.ntmps24
  go_wp2_with fail
  refine (errNew w r).mono ?_
  rintro e w' ⟨rfl, rfl⟩
  go_wp2_with fail
  refine (setErr _ (w.heap.size + 1) w.heap.size s wi r hs hww hr (by simp) (by simp) (by simp) (by simp)).mono ?_
  rintro e w' ⟨rfl, q, rfl⟩
  go_wp2_with fail
  go_ret
  exact ⟨rfl, grown_draws (((Grown.refl w).alloc _ _).alloc _ _) q⟩
end Go.Proofs.Qxb6606005a
