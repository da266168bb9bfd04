import Derived.Test.Qxb6605914aGrow
namespace Go.Proofs.Qxb6605914a
open Go.RowKit
set_option maxRecDepth 100000

theorem encLen (w : World) (n : Nat) (hn : n ≤ 16777216) : Calls Try.prog 47 #[.int .i64 n] w fun e w' => e = .returned (.int .i64 ((2 * n : Nat) : Int)) ∧ w' = w := by
  go_enter Try.func47, Try.ntmps47
  go_wp2
  go_ret
  refine ⟨?_, rfl⟩
  show Ending.returned (.int .i64 ((n : Int) * 2)) = _
  rw [show (n : Int) * 2 = ((2 * n : Nat) : Int) by omega]

theorem own_full {w : World} {g n cap : Nat} {xs : List Value} (h : w.ownsRow 0 5 1 (.slice (some ⟨g, 0, none⟩) n cap) n xs) :
    n ≤ cap ∧ cap ≤ maxLen ∧ ∃ cs, w.ownsRow 0 5 1 (.slice (some ⟨g, 0, none⟩) cap cap) cap cs ∧ cs.take n = xs := by
  rcases h.2 with ⟨h', _⟩ | ⟨g', cap', cur, h', hb, hg, hnc, hcm, hcs, htake⟩
  · simp at h'
  · simp only [Value.slice.injEq, Option.some.injEq, Addr.mk.injEq, and_true, true_and] at h'
    obtain ⟨rfl, rfl⟩ := h'
    refine ⟨hnc, hcm, cur.toList, ⟨by simpa using hcs, .inr ⟨g, cap, cur, rfl, hb, hg, Nat.le_refl _, hcm, hcs, ?_⟩⟩, by simpa using htake⟩
    exact List.take_of_length_le (by simp; omega)

theorem own_cut {w : World} {g n cap : Nat} {cs xs : List Value} (h : w.ownsRow 0 5 1 (.slice (some ⟨g, 0, none⟩) cap cap) cap cs) (hn : n ≤ cap) (hx : cs.take n = xs) :
    w.ownsRow 0 5 1 (.slice (some ⟨g, 0, none⟩) n cap) n xs := by
  have hl := h.1
  rcases h.2 with ⟨h', _⟩ | ⟨g', cap', cur, h', hb, hg, hnc, hcm, hcs, htake⟩
  · simp at h'
  · simp only [Value.slice.injEq, Option.some.injEq, Addr.mk.injEq, and_true, true_and] at h'
    obtain ⟨rfl, rfl⟩ := h'
    refine ⟨by rw [← hx]; simp; omega, .inr ⟨g, cap, cur, rfl, hb, hg, hn, hcm, hcs, ?_⟩⟩
    rw [← hx, ← htake, List.take_take]
    congr 1
    omega

theorem grownBy_none {w w' : World} {r : Option Nat} (h : w.grownBy w' none) : w.grownBy w' r := ⟨h.os, h.tape, h.output, h.size, fun k hk _ => h.block k hk (by simp)⟩

/-- two steps: the first may have moved the row into a new block -/
theorem grownBy_two {a b c : World} {g g' : Nat} (h : a.grownBy b (some g)) (k : b.grownBy c (some g')) (hg : g' = g ∨ a.heap.size ≤ g') : a.grownBy c (some g) :=
  ⟨k.os.trans h.os, k.tape.trans h.tape, k.output.trans h.output, Nat.le_trans h.size k.size, fun i hi hne => by
    rw [k.block i (Nat.lt_of_lt_of_le hi h.size) (by intro e; simp at e; rcases hg with h' | h' <;> (subst e; first | (exact hne (by rw [h'])) | omega))]
    exact h.block i hi hne⟩

theorem own_lt {w : World} {g n cap : Nat} {xs : List Value} (h : w.ownsRow 0 5 1 (.slice (some ⟨g, 0, none⟩) n cap) n xs) : g < w.heap.size :=
  (h.lt g rfl).2

theorem enc_zero (w : World) (a so : Option Addr) (c1 c2 : Nat) : Calls Try.prog 49 #[.slice a 0 c1, .slice so 0 c2] w fun e w' => e = .returned (.int .i64 0) ∧ w' = w := by
  go_enter Try.func49, Try.ntmps49
  go_wp2
  go_loop [5, 10] (fun j i => j = .int .i64 0 ∧ i = .int .i64 0) (fun _ _ => 0)
  case atStart => exact ⟨rfl, rfl⟩
  case round =>
    obtain ⟨rfl, rfl⟩ := hrel
    go_wp2
    go_ret
    exact ⟨rfl, rfl⟩

set_option maxHeartbeats 800000 in
/-- hex.AppendEncode onto a row of the call's own -/
theorem appEnc (w : World) (g n cap m c2 : Nat) (so : Option Addr) (T bs : List Int) (hT : T.length = n) (hm : bs.length = m) (hO : w.ownsRow 0 5 1 (.slice (some ⟨g, 0, none⟩) n cap) n (cb T))
    (hS : Rd w so bs) (hb : ∀ k, k < m → 0 ≤ bs.getD k 0 ∧ bs.getD k 0 ≤ 255) (hs : n + 2 * m ≤ 16777216) (hne : ∀ b off, so = some ⟨b, off, none⟩ → b ≠ g ∧ b < w.heap.size) :
    Calls Try.prog 41 #[.slice (some ⟨g, 0, none⟩) n cap, .slice so m c2] w fun e w' => ∃ g' cap', e = .returned (.slice (some ⟨g', 0, none⟩) (n + 2 * m) cap') ∧
      w'.ownsRow 0 5 1 (.slice (some ⟨g', 0, none⟩) (n + 2 * m) cap') (n + 2 * m) (cb (T ++ hexOf bs)) ∧ w.grownBy w' (some g) ∧ (g' = g ∨ w.heap.size ≤ g') := by
  obtain ⟨hnc, hcm, cs, hcs, htk⟩ := own_full hO
  have hgw := own_lt hO
  have Hcs := hid hcs
  have Htk := hid htk
  have HS := hid hS
  have Hne := hid hne
  clear hO hcs htk hS hne
  go_enter Try.func41, Try.ntmps41
  go_wp2_with fail
  refine (encLen _ m (by omega)).mono ?_
  rintro e w' ⟨rfl, rfl⟩
  go_wp2_with fail
  refine (grow _ g n cap (2 * m) cs _ (by omega) hnc hs Hcs.out).mono ?_
  rintro e w1 ⟨g1, c1, rfl, ⟨cs1, hcs1, htk1⟩, hc1, hc1m, hgr1, hg1⟩
  have hc1m' : c1 ≤ 9223372036854775807 := by unfold maxLen at hc1m; omega
  have HS1 : Hid (Rd w1 so bs) := fun j hj => by
    obtain ⟨b, off, h1, h2⟩ := HS.out j hj
    exact ⟨b, off, h1, hgr1.cell h2 (by simp)⟩
  have Hne1 : Hid (∀ b off, so = some ⟨b, off, none⟩ → b ≠ g1) := fun b off h => by
    have := Hne.out b off h
    omega
  have HG1 := hid (And.intro hcs1 (And.intro htk1 hgr1))
  clear hcs1 htk1 hgr1 hc1m hcm
  by_cases h0 : m = 0
  · subst h0
    have hbs : bs = [] := List.length_eq_zero_iff.1 hm
    subst hbs
    have HF : Hid (w1.ownsRow 0 5 1 (.slice (some ⟨g1, 0, none⟩) n c1) n (cb (T ++ hexOf [])) ∧ w'.grownBy w1 (some g) ∧ (g1 = g ∨ w'.heap.size ≤ g1)) := by
      refine ⟨own_cut HG1.out.1 (by omega) ?_, grownBy_none HG1.out.2.2, by omega⟩
      rw [HG1.out.2.1, Htk.out]; simp [hexOf]
    clear hg1
    by_cases hcn : c1 = n
    · subst hcn
      go_wp2_with fail
      refine (enc_zero _ _ _ _ _).mono ?_
      rintro e w2 ⟨rfl, rfl⟩
      go_wp2_with fail
      go_ret
      exact ⟨g1, _, rfl, HF.out.1, HF.out.2.1, HF.out.2.2⟩
    · go_wp2_with fail
      refine (enc_zero _ _ _ _ _).mono ?_
      rintro e w2 ⟨rfl, rfl⟩
      go_wp2_with fail
      go_ret
      exact ⟨g1, _, rfl, HF.out.1, HF.out.2.1, HF.out.2.2⟩
  · have hpos : 0 < m := by omega
    clear h0
    have hcn : n < c1 := by omega
    have hcn' : ¬ c1 = n := by omega
    have Hg1 := hid hg1
    clear hg1
    go_wp2_with fail
    refine (enc _ g1 n m c1 _ _ so bs cs1 hm HS1.out hb HG1.out.1 hc1 hs Hne1.out).mono ?_
    rintro e w2 ⟨rfl, ⟨cs2, hcs2, htk2⟩, hgr2⟩
    have HF : Hid (w2.ownsRow 0 5 1 (.slice (some ⟨g1, 0, none⟩) (n + 2 * m) c1) (n + 2 * m) (cb (T ++ hexOf bs)) ∧ w'.grownBy w2 (some g) ∧ (g1 = g ∨ w'.heap.size ≤ g1)) := by
      have := Hg1.out
      refine ⟨own_cut hcs2 (by omega) ?_, grownBy_two (grownBy_none HG1.out.2.2) hgr2 (by omega), by omega⟩
      rw [htk2, HG1.out.2.1, Htk.out, cb_append]
    clear hcs2 htk2 hgr2
    go_wp2_with fail
    go_ret
    exact ⟨g1, _, rfl, HF.out.1, HF.out.2.1, HF.out.2.2⟩
end Go.Proofs.Qxb6605914a
