import Derived.Test.Qxb6606000aCloneB
namespace Go.Proofs.Qxb6606000a
open Go.RowKit
set_option maxRecDepth 100000

/-- the block L holds the line's three fields -/
def Blk (w : World) (L : Nat) (v : Value) (st : Int) : Prop := w.heap[L]? = some (.cells #[v, .int .i64 st, .nilIface] 41 (0, 0))

theorem Blk.c0 {w : World} {L : Nat} {v : Value} {st : Int} (h : Blk w L v st) : w.cell? ⟨L, 0, none⟩ = some v := by unfold Blk at h; simp [World.cell?, h]
theorem Blk.c1 {w : World} {L : Nat} {v : Value} {st : Int} (h : Blk w L v st) : w.cell? ⟨L, 1, none⟩ = some (.int .i64 st) := by unfold Blk at h; simp [World.cell?, h]
theorem Blk.c2 {w : World} {L : Nat} {v : Value} {st : Int} (h : Blk w L v st) : w.cell? ⟨L, 2, none⟩ = some .nilIface := by unfold Blk at h; simp [World.cell?, h]
theorem Blk.f0 {w : World} {L : Nat} {v : Value} {st : Int} (h : Blk w L v st) : w.frozen? ⟨L, 0, none⟩ = false := by unfold Blk at h; simp [World.frozen?, h]
theorem Blk.lt {w : World} {L : Nat} {v : Value} {st : Int} (h : Blk w L v st) : L < w.heap.size := by
  unfold Blk at h
  exact (Array.getElem?_eq_some_iff.1 h).1
theorem Blk.set {w : World} {L : Nat} {v : Value} {st : Int} (h : Blk w L v st) (u : Value) : Blk (w.setCell ⟨L, 0, none⟩ u) L u st := by
  unfold Blk at h ⊢
  rw [heap_setCell_same w L 0 _ 41 u h]
  rfl
theorem Blk.apart {w : World} {L n : Nat} {v u : Value} {st : Int} {cs : List Value} (h : Blk w L v st) (hO : w.ownsRow 0 5 1 u n cs) : u.ownBlock ≠ some L := by
  intro e
  rcases hO.2 with ⟨rfl, _⟩ | ⟨g, cap, cur, rfl, _, hg, _⟩
  · simp [Value.ownBlock] at e
  · simp [Value.ownBlock] at e
    subst e
    unfold Blk at h
    rw [h] at hg
    simp at hg

/-- THE LINE: its buffer holds C, its start is st, no error; all that was there in w6 is as it was -/
structure LSt (w6 w : World) (L : Nat) (st : Int) (C : List Int) (ao : Option Addr) (c : Nat) : Prop where
  blk : Blk w L (.slice ao C.length c) st
  own : w.ownsRow 0 5 1 (.slice ao C.length c) C.length (cb C)
  old : w6.grownBy w none
  hL : w6.heap.size ≤ L
  new : ∀ b, (Value.slice ao C.length c).ownBlock = some b → w6.heap.size ≤ b

theorem LSt.drewN {w6 w : World} {L : Nat} {st : Int} {C : List Int} {ao : Option Addr} {c : Nat} (h : LSt w6 w L st C ao c) (q : Nat) : LSt w6 (w.drewN q) L st C ao c :=
  ⟨h.blk, h.own, ⟨h.old.os, h.old.tape, h.old.output, h.old.size, h.old.block⟩, h.hL, h.new⟩

theorem grown_trans {a b c : World} {r : Option Nat} (h : a.grownBy b none) (k : b.grownBy c r) (hr : ∀ g, r = some g → a.heap.size ≤ g) : a.grownBy c none :=
  ⟨k.os.trans h.os, k.tape.trans h.tape, k.output.trans h.output, Nat.le_trans h.size k.size, fun i hi hne => by
    rw [k.block i (Nat.lt_of_lt_of_le hi h.size) (fun e => by have := hr i e.symm; omega)]; exact h.block i hi hne⟩

theorem LSt.stored {w6 w w2 : World} {L : Nat} {st : Int} {C C2 : List Int} {ao : Option Addr} {c g N cap : Nat} (h : LSt w6 w L st C ao c) (hS : Step w w2 (Value.slice ao C.length c).ownBlock (some g))
    (hN : C2.length = N) (hO : w2.ownsRow 0 5 1 (.slice (some ⟨g, 0, none⟩) N cap) N (cb C2)) :
    w2.cell? ⟨L, 0, none⟩ = some (.slice ao C.length c) ∧ w2.frozen? ⟨L, 0, none⟩ = false ∧ LSt w6 (w2.setCell ⟨L, 0, none⟩ (.slice (some ⟨g, 0, none⟩) N cap)) L st C2 (some ⟨g, 0, none⟩) cap := by
  have hne := h.blk.apart h.own
  have hB : Blk w2 L (.slice ao C.length c) st := by
    unfold Blk
    rw [hS.1.block L h.blk.lt (Ne.symm hne)]; exact h.blk
  have hgL : g ≠ L := by
    rcases hS.2 with h2 | ⟨k, h2, h3⟩
    · intro e; subst e; exact hne h2.symm
    · simp at h2; have := h.blk.lt; omega
  subst hN
  refine ⟨hB.c0, hB.f0, hB.set _, ownsRow_setCell_other hO (by simp [Value.ownBlock]; exact hgL) _, ?_, h.hL, fun b e => ?_⟩
  · have := grown_trans h.old hS.1 h.new
    exact ⟨this.os, this.tape, this.output, by simpa using this.size, fun k hk hne => by
      rw [Below.heap_setCell _ _ _ _ (by have := h.hL; show k ≠ L; omega)]; exact this.block k hk hne⟩
  · simp [Value.ownBlock] at e
    subst e
    rcases hS.2 with h2 | ⟨k, h2, h3⟩
    · exact h.new g h2.symm
    · simp at h2; have := h.old.size; omega

set_option maxHeartbeats 800000 in
theorem separate (w6 w : World) (L : Nat) (st : Int) (C : List Int) (ao : Option Addr) (c : Nat) (hC : C.length ≤ 16777216) (h : LSt w6 w L st C ao c) :
    Calls Try.prog 17 #[.pointer (some ⟨L, 0, none⟩)] w fun e w' => e = .returned (.tuple #[]) ∧ ∃ ao' c', LSt w6 w' L st (C ++ if st < C.length then [32] else []) ao' c' := by
  obtain ⟨i0, hi, hz0, hz1, hz2⟩ := info_parts info5
  have Hi := hid (And.intro hi (And.intro hz0 (And.intro hz1 hz2)))
  clear hi hz0 hz1 hz2
  have h0 := h.blk.c0
  have h1 := h.blk.c1
  have H := hid h
  clear h
  rcases Int.lt_or_le st C.length with hlt | hge
  · rw [if_pos hlt]
    generalize hn : C.length = n at *
    have Hn := hid hn
    clear hn
    go_enter Try.func17, Try.ntmps17
    go_wp2
    go_quiet (fail)
    have H1 := hid (H.out.drewN nq)
    generalize w.drewN nq = w1 at H1 ⊢
    have g0 := H1.out.blk.c0
    rw [Hn.out] at g0
    clear h0 h1 H
    have HO1 : Hid ((w1.alloc (.cells #[.int .u8 32] 5)).ownsRow 0 5 1 (.slice ao n c) n (cb C)) := by
      have := H1.out.own; rw [Hn.out] at this; exact World.ownsRow.alloc this _
    go_wp2_with (at_builtin; refine wpList_append_from (by rfl) (.tmp 16) (.tmp 17) 22 (by rfl) 0 5 i0 (.int .u8 0) 1 Try.underlying22 Hi.out.1 Hi.out.2.1 Hi.out.2.2.1 Hi.out.2.2.2 (by rfl) (.slice ao n c) n (cb C) (by rfl) HO1.out ⟨w1.heap.size, 0, none⟩ 1 1 [.int .u8 32] rfl (by omega) (by simp; rfl) (by rfl) (one_news (by simp)) (by unfold maxLen; omega) (by omega) (Nat.zero_le _) ?_; intro g cap w2 hO2 hS2; have HO2 := hid hO2; have HS2 := hid hS2; clear hO2 hS2; obtain ⟨k0, k1, k2⟩ := H1.out.stored (by rw [Hn.out]; exact (Step.alloc w1 (.cells #[.int .u8 32] 5) _).trans HS2.out) (N := n + 1) (cap := cap) (g := g) (C2 := C ++ [32]) (by have := Hn.out; simp; omega) (by rw [cb_append]; exact HO2.out); rw [Hn.out] at k0; have K2 := hid k2; clear k2)
    go_end0
    exact ⟨rfl, _, _, K2.out⟩
  · rw [if_neg (by omega)]
    generalize hn : C.length = n at *
    have Hn := hid hn
    clear hn
    go_enter Try.func17, Try.ntmps17
    go_wp2
    go_quiet (fail)
    go_wp2
    go_end0
    exact ⟨rfl, ao, c, by rw [List.append_nil]; exact H.out.drewN _⟩
end Go.Proofs.Qxb6606000a
