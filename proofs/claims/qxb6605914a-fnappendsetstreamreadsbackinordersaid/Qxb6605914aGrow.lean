import Derived.Test.Qxb6605914aEnc
import Derived.Lib.AppendZerosOnto
import Derived.Lib.SliceRun
import Derived.Lib.Walk
namespace Go.Proofs.Qxb6605914a
open Go.RowKit
set_option maxRecDepth 100000

set_option maxHeartbeats 400000 in
theorem grow_room (w : World) (a : Option Addr) (l c n : Nat) (hlc : l ≤ c) (hc : c ≤ 9223372036854775807) (hn : n ≤ 16777216) (hr : l + n ≤ c) :
    Calls Try.prog 48 #[.slice a l c, .int .i64 n] w fun e w' => e = .returned (.slice a l c) ∧ w' = w := by
  go_enter Try.func48, Try.ntmps48
  go_wp2
  go_ret
  exact ⟨rfl, rfl⟩

set_option maxHeartbeats 800000 in
theorem grow_grow (w : World) (g l c n : Nat) (cs : List Value) (hlc : l ≤ c) (hn : l + n ≤ 16777216) (hr : c < l + n)
    (hO : w.ownsRow 0 5 1 (.slice (some ⟨g, 0, none⟩) c c) c cs) :
    Calls Try.prog 48 #[.slice (some ⟨g, 0, none⟩) l c, .int .i64 n] w fun e w' => ∃ c', e = .returned (.slice (some ⟨w.heap.size, 0, none⟩) l c') ∧
      (∃ cs', w'.ownsRow 0 5 1 (.slice (some ⟨w.heap.size, 0, none⟩) c' c') c' cs' ∧ cs'.take l = cs.take l) ∧ l + n ≤ c' ∧ c' ≤ maxLen ∧ w.grownBy w' none := by
  obtain ⟨i0, hi, hz0, hz1, hz2⟩ := info_parts info5
  have hcl : cs.length = c := by have := hO.1; omega
  have hcells : ∀ j v, cs[j]? = some v → w.drew.cell? ((⟨g, 0, none⟩ : Addr).add j) = some v := fun j v h => by
    simpa using hO.cells (g := g) rfl j v h
  have hold : (Builtin.firstCells i0.size c (.slice (some ⟨g, 0, none⟩) c c)).run Try.prog w.drew = .ok cs.toArray w.drew :=
    run_firstCells_some w.drew i0.size c ⟨g, 0, none⟩ c c cs (by rw [hz1]; omega) hcells
  have hck : c + (l + n - c) = l + n := by omega
  have hrz : ∀ ty, (Builtin.append_ #[23, 3] ty #[.slice (some ⟨g, 0, none⟩) c c, .int .i64 ((n : Int) - ((c : Int) - (l : Int)))]).run Try.prog w =
      .ok (.slice (some ⟨w.heap.size, 0, none⟩) (l + n) (grownCap w (l + n) c 5)) (w.drew.alloc (.cells (cs.toArray ++ Builtin.zeroCells (Value.int .u8 0).cells (l + n - c) ++ Builtin.zeroCells (Value.int .u8 0).cells (grownCap w (l + n) c 5 - (l + n))) 5)) := fun ty => by
    have h := Lib.run_append_grow_zeros w 23 3 ty 5 i0 (.int .u8 0) .i64 .i64 Try.underlying23 Try.underlying3 hi hz0 (some ⟨g, 0, none⟩) c c cs hold (l + n - c) (by omega) (by omega) (by omega) (by omega)
      (by rw [hz2]; omega) (by rw [hck, hz2]; exact growslice_fits hr (by omega))
    rw [hck] at h
    rw [show (n : Int) - ((c : Int) - (l : Int)) = ((l + n - c : Nat) : Int) by omega]
    exact h
  have hGn : l + n ≤ grownCap w (l + n) c 5 := grownCap_ge w _ _ _
  have hGm : grownCap w (l + n) c 5 ≤ maxLen := grownCap_le_maxLen w (l + n) c 5 (by unfold maxLen; omega)
  generalize grownCap w (l + n) c 5 = G at *
  have R : (w.drew.alloc (.cells (cs.toArray ++ Builtin.zeroCells (Value.int .u8 0).cells (l + n - c) ++ Builtin.zeroCells (Value.int .u8 0).cells (G - (l + n))) 5)).ownsRow 0 5 1 (.slice (some ⟨w.heap.size, 0, none⟩) G G) G
      (cs.toArray ++ Builtin.zeroCells (Value.int .u8 0).cells (l + n - c) ++ Builtin.zeroCells (Value.int .u8 0).cells (G - (l + n))).toList := by
    refine World.ownsRow_lit w.drew _ G (Nat.zero_le _) hGm ?_
    simp only [Array.size_append, List.size_toArray, size_zeroCells, hcl]
    simp [Value.cells]; omega
  have R2 : (cs.toArray ++ Builtin.zeroCells (Value.int .u8 0).cells (l + n - c) ++ Builtin.zeroCells (Value.int .u8 0).cells (G - (l + n))).toList.take l = cs.take l := by
    simp only [Array.toList_append, List.append_assoc]
    rw [List.take_append_of_le_length (by omega)]
  generalize cs.toArray ++ Builtin.zeroCells (Value.int .u8 0).cells (l + n - c) ++ Builtin.zeroCells (Value.int .u8 0).cells (G - (l + n)) = cur at *
  have R3 : w.grownBy (w.drew.alloc (.cells cur 5)) none := ⟨rfl, rfl, rfl, by simp, fun k hk _ => Below.heap_alloc w.drew _ k hk⟩
  have HR := hid (And.intro R R2)
  have HR3 := hid R3
  clear R3
  have Hcl := hid hcl
  have HGm := hid hGm
  clear hold hck hcells R R2 hcl hi hz0 hz1 hz2 hO hGm
  go_enter Try.func48, Try.ntmps48
  go_wp2_with (at_builtin; refine Lib.wpList_append_run _ rfl _ _ _ _ rfl _ _ rfl rfl _ _ (hrz _) ?_)
  go_ret
  exact ⟨G, rfl, ⟨_, HR.out.1, HR.out.2⟩, hGn, HGm.out, HR3.out⟩

/-- slices.Grow: room for n more, in the old row or in a new one -/
theorem grow (w : World) (g l c n : Nat) (cs : List Value) (N : Int) (hN : N = (n : Int)) (hlc : l ≤ c) (hn : l + n ≤ 16777216)
    (hO : w.ownsRow 0 5 1 (.slice (some ⟨g, 0, none⟩) c c) c cs) :
    Calls Try.prog 48 #[.slice (some ⟨g, 0, none⟩) l c, .int .i64 N] w fun e w' => ∃ g' c', e = .returned (.slice (some ⟨g', 0, none⟩) l c') ∧
      (∃ cs', w'.ownsRow 0 5 1 (.slice (some ⟨g', 0, none⟩) c' c') c' cs' ∧ cs'.take l = cs.take l) ∧ l + n ≤ c' ∧ c' ≤ maxLen ∧ w.grownBy w' none ∧ (g' = g ∨ g' = w.heap.size) := by
  subst hN
  have hcm : c ≤ maxLen := by
    rcases hO.2 with ⟨h, _⟩ | ⟨_, _, _, h, _, _, _, hm, _⟩
    · simp at h
    · simp at h; omega
  by_cases hr : l + n ≤ c
  · refine (grow_room w _ l c n hlc (by unfold maxLen at hcm; omega) (by omega) hr).mono ?_
    rintro e w' ⟨rfl, rfl⟩
    exact ⟨g, c, rfl, ⟨cs, hO, rfl⟩, hr, hcm, World.grownBy.refl _ _, .inl rfl⟩
  · refine (grow_grow w g l c n cs hlc hn (by omega) hO).mono ?_
    rintro e w' ⟨c', rfl, h1, h2, h3, h4⟩
    exact ⟨w.heap.size, c', rfl, h1, h2, h3, h4, .inr rfl⟩
end Go.Proofs.Qxb6605914a
