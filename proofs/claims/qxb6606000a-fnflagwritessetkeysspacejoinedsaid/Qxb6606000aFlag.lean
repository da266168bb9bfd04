import Derived.Test.Qxb6606000aLine
namespace Go.Proofs.Qxb6606000a
open Go.RowKit
set_option maxRecDepth 100000

/-- a string's bytes as numbers -/
def kb (s : ByteArray) : List Int := s.data.toList.map fun b => (b.toNat : Int)
theorem kb_length (s : ByteArray) : (kb s).length = s.size := by rw [kb, List.length_map, Array.length_toList]; rfl
theorem kb_cells (s : ByteArray) : Lib.strCells s = cb (kb s) := by simp [Lib.strCells, cb, kb]

/-- one set flag, written onto a line that holds C -/
def addw (st : Int) (C : List Int) (s : ByteArray) : List Int := C ++ (if st < C.length then [32] else []) ++ kb s

theorem flag_no (w : World) (p : Value) (s : ByteArray) : Calls Try.prog 16 #[p, .string s, .bool false] w fun e w' => e = .returned (.tuple #[]) ∧ w' = w := by
  go_enter Try.func16, Try.ntmps16
  go_wp2
  go_end0
  exact ⟨rfl, rfl⟩

set_option maxHeartbeats 800000 in
theorem flag_yes (w6 w : World) (L : Nat) (st : Int) (C : List Int) (ao : Option Addr) (c : Nat) (s : ByteArray) (hs : 0 < s.size) (hC : C.length + s.size ≤ 16777216) (h : LSt w6 w L st C ao c) :
    Calls Try.prog 16 #[.pointer (some ⟨L, 0, none⟩), .string s, .bool true] w fun e w' => e = .returned (.tuple #[]) ∧ ∃ ao' c', LSt w6 w' L st (addw st C s) ao' c' := by
  obtain ⟨i0, hi, hz0, hz1, hz2⟩ := info_parts info5
  have Hi := hid (And.intro hi (And.intro hz0 (And.intro hz1 hz2)))
  clear hi hz0 hz1 hz2
  have H := hid h
  clear h
  unfold addw
  have hlen : (C ++ if st < C.length then [32] else []).length ≤ 16777217 := by
    split <;> simp <;> omega
  generalize hD : (C ++ if st < C.length then [32] else []) = D at *
  have HD := hid hD
  clear hD
  go_enter Try.func16, Try.ntmps16
  go_wp2_with fail
  refine (separate w6 w L st C ao c (by omega) H.out).mono ?_
  rintro e w1 ⟨rfl, ao1, c1, h1⟩
  rw [HD.out] at h1
  have H1 := hid h1
  have g0 := h1.blk.c0
  clear h1 H
  generalize hn : D.length = n at *
  have Hn := hid hn
  clear hn
  have HO1 : Hid (w1.ownsRow 0 5 1 (.slice ao1 n c1) n (cb D)) := by
    have := H1.out.own; rw [Hn.out] at this; exact this
  go_wp2_with (at_builtin; refine wpList_append_str (by rfl) (.tmp 13) (.tmp 14) 22 9 (by rfl) 0 5 i0 Try.underlying22 Try.underlying9 Hi.out.1 Hi.out.2.1 Hi.out.2.2.1 Hi.out.2.2.2 (.slice ao1 n c1) n (cb D) (by rfl) HO1.out s (by rfl) hs (by omega) (Nat.zero_le _) ?_; intro g cap w2 hO2 hS2; have HO2 := hid hO2; have HS2 := hid hS2; clear hO2 hS2; obtain ⟨k0, k1, k2⟩ := H1.out.stored (N := n + s.size) (cap := cap) (g := g) (C2 := D ++ kb s) (by rw [Hn.out]; exact HS2.out) (by have := Hn.out; have := kb_length s; simp; omega) (by rw [cb_append, ← kb_cells]; exact HO2.out); rw [Hn.out] at k0; have K2 := hid k2; clear k2)
  go_end0
  exact ⟨rfl, _, _, K2.out⟩

theorem zzflag_no (w : World) (p : Value) (s : ByteArray) : Calls Try.prog 11 #[p, .string s, .bool false] w fun e w' => e = .returned (.tuple #[]) ∧ w' = w := by
  go_enter Try.func11, Try.ntmps11
  go_wp2_with fail
  refine (flag_no w p s).mono ?_
  rintro e w' ⟨rfl, rfl⟩
  go_wp2_with fail
  go_end0
  exact ⟨rfl, rfl⟩

theorem zzflag_yes (w6 w : World) (L : Nat) (st : Int) (C : List Int) (ao : Option Addr) (c : Nat) (s : ByteArray) (hs : 0 < s.size) (hC : C.length + s.size ≤ 16777216) (h : LSt w6 w L st C ao c) :
    Calls Try.prog 11 #[.pointer (some ⟨L, 0, none⟩), .string s, .bool true] w fun e w' => e = .returned (.tuple #[]) ∧ ∃ ao' c', LSt w6 w' L st (addw st C s) ao' c' := by
  have H := hid (flag_yes w6 w L st C ao c s hs hC h)
  clear h
  go_enter Try.func11, Try.ntmps11
  go_wp2_with fail
  refine H.out.mono ?_
  rintro e w' ⟨rfl, ao', c', h'⟩
  have H' := hid h'
  clear h'
  go_wp2_with fail
  go_end0
  exact ⟨rfl, _, _, H'.out⟩

theorem newLine (w : World) (ao : Option Addr) (n c : Nat) (st : Int) : Calls Try.prog 10 #[.slice ao n c, .int .i64 st] w fun e w' => e = .returned (.pointer (some ⟨w.heap.size, 0, none⟩)) ∧ w' = w.alloc (.cells #[.slice ao n c, .int .i64 st, .nilIface] 41) := by
  go_enter Try.func10, Try.ntmps10
  go_wp2
  go_ret
  exact ⟨rfl, rfl⟩

theorem rdBytes (w : World) (L : Nat) (v : Value) (h : w.cell? ⟨L, 0, none⟩ = some v) : Calls Try.prog 13 #[.pointer (some ⟨L, 0, none⟩)] w fun e w' => e = .returned v ∧ w' = w := by
  go_enter Try.func13, Try.ntmps13
  go_wp2
  go_ret
  exact ⟨rfl, rfl⟩
theorem rdStart (w : World) (L : Nat) (v : Value) (h : w.cell? ⟨L, 1, none⟩ = some v) : Calls Try.prog 14 #[.pointer (some ⟨L, 0, none⟩)] w fun e w' => e = .returned v ∧ w' = w := by
  go_enter Try.func14, Try.ntmps14
  go_wp2
  go_ret
  exact ⟨rfl, rfl⟩
theorem rdErr (w : World) (L : Nat) (v : Value) (h : w.cell? ⟨L, 2, none⟩ = some v) : Calls Try.prog 15 #[.pointer (some ⟨L, 0, none⟩)] w fun e w' => e = .returned v ∧ w' = w := by
  go_enter Try.func15, Try.ntmps15
  go_wp2
  go_ret
  exact ⟨rfl, rfl⟩
end Go.Proofs.Qxb6606000a
