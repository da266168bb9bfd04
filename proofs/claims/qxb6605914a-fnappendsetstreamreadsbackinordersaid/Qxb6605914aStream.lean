import Derived.Test.Qxb6605914aCloneN
import Derived.Deep.RegionHeld3
namespace Go.Proofs.Qxb6605914a
open Go.RowKit
set_option maxRecDepth 100000

/-- the first k lines -/
def lines (Ks Vs : List (List Int)) : Nat → List Int
  | 0 => []
  | k + 1 => lines Ks Vs k ++ line (Ks.getD k []) (Vs.getD k [])

theorem lines_length (Ks Vs : List (List Int)) : ∀ k, (lines Ks Vs k).length = 6 * k + 2 * sl Ks k + 2 * sl Vs k
  | 0 => rfl
  | k + 1 => by simp only [lines, List.length_append, lines_length Ks Vs k, line_length, sl]; omega

theorem lines_cut (Ks Vs : List (List Int)) (k : Nat) : ∀ n, k < n → ∃ post, lines Ks Vs n = lines Ks Vs k ++ (line (Ks.getD k []) (Vs.getD k []) ++ post)
  | 0, h => by omega
  | n + 1, h => by
    rcases Nat.lt_or_ge k n with h' | h'
    · obtain ⟨post, hp⟩ := lines_cut Ks Vs k n h'
      exact ⟨post ++ line (Ks.getD n []) (Vs.getD n []), by simp only [lines, hp, List.append_assoc]⟩
    · obtain rfl : k = n := by omega
      exact ⟨[], by simp [lines]⟩

theorem step_undraw {w w' : World} {q : Nat} {r r' : Option Nat} (h : Step (w.drewN q) w' r r') : Step w w' r r' :=
  ⟨⟨h.1.os, h.1.tape, h.1.output, h.1.size, h.1.block⟩, h.2⟩

theorem stream_step {w4 wr w5 : World} {u : Option Nat} {g5 : Nat} (h1 : w4.grownBy wr none) (h2 : ∀ g, u = some g → w4.heap.size ≤ g) (h3 : Step wr w5 u (some g5)) :
    w4.grownBy w5 none ∧ ∀ g, g5 = g → w4.heap.size ≤ g := by
  refine ⟨⟨h3.1.os.trans h1.os, h3.1.tape.trans h1.tape, h3.1.output.trans h1.output, Nat.le_trans h1.size h3.1.size, fun j hj _ => ?_⟩, fun g e => ?_⟩
  · rw [h3.1.block j (Nat.lt_of_lt_of_le hj h1.size) (fun e => by have := h2 j e.symm; omega)]
    exact h1.block j hj (by simp)
  · subst e
    rcases h3.2 with h | ⟨k, h, hk⟩
    · exact h2 g5 h.symm
    · have := h1.size
      simp at h; omega

set_option maxHeartbeats 1600000 in
theorem stream_walk (w : World) (a0 a1 : Option Addr) (n0 n1 c0 c1 : Nat) (X0 X1 : List (List Int)) (A0 A1 : Nat → Option Addr) (C0 C1 : Nat → Nat) (h0 : Nest w a0 n0 X0 A0 C0) (h1 : Nest w a1 n1 X1 A1 C1) :
    Calls Try.prog 6 #[.slice a0 n0 c0, .slice a1 n1 c1] w fun e w' => e = .returned (.bool true) ∧ Below w.heap.size w w' := by
  have m0 := h0.max
  have m1 := h1.max
  unfold maxLen at m0 m1
  have H0 := hid h0
  have H1 := hid h1
  clear h0 h1
  go_enter Try.func6, Try.ntmps6
  go_wp2_with fail
  refine (bytesN _ a0 a1 n0 n1 c0 c1 X0 X1 A0 A1 C0 C1 H0.out H1.out).mono ?_
  rintro e w' ⟨⟨b, rfl, hb⟩, rfl⟩
  cases b with
  | false =>
    clear hb
    go_wp2_with fail
    go_ret
    exact ⟨rfl, Below.refl _ _⟩
  | true =>
    have hb := hb rfl
    by_cases hs : n0 ≤ 65536 ∧ n1 ≤ 65536
    rotate_left
    · rcases (show 65536 < n0 ∨ (n0 ≤ 65536 ∧ 65536 < n1) by omega) with h | h
      · go_wp2_with fail
        go_ret
        exact ⟨rfl, Below.refl _ _⟩
      · go_wp2_with fail
        go_ret
        exact ⟨rfl, Below.refl _ _⟩
    obtain ⟨s0, s1⟩ := hs
    have B0 : Hid (∀ r, r < n0 → (X0.getD r []).length ≤ 1048576) := fun r hr => by have := sl_each X0 n0 r hr; omega
    have B1 : Hid (∀ r, r < n1 → (X1.getD r []).length ≤ 1048576) := fun r hr => by have := sl_each X1 n1 r hr; omega
    have Hb := hid hb
    clear hb m0 m1
    go_wp2_with fail
    refine (nestedBytes _ a0 a1 n0 n1 c0 c1 X0 X1 A0 A1 C0 C1 H0.out H1.out s0 s1 B0.out B1.out).mono ?_
    rintro e w2 ⟨⟨t, rfl⟩, rfl⟩
    rcases Int.lt_or_le 1048576 t with ht | ht
    · go_wp2_with fail
      go_ret
      exact ⟨rfl, Below.refl _ _⟩
    go_wp2_with fail
    refine (cloneN _ a0 n0 c0 X0 A0 C0 H0.out s0 B0.out).mono ?_
    rintro e w3 ⟨t0, K0, rfl, hN0, hg0, hk0⟩
    have H1 := hid (H1.out.kept hg0)
    have D0 := hid (And.intro hN0 (And.intro hg0 hk0))
    clear hN0 hg0 hk0
    go_wp2_with fail
    refine (cloneN _ a1 n1 c1 X1 A1 C1 (by exact H1.out) s1 B1.out).mono ?_
    rintro e w4 ⟨t1, V0, rfl, hN1, hg1, hk1⟩
    have D1 : Hid (Nest w4 t0 n0 X0 K0 (fun r => (X0.getD r []).length) ∧ Nest w4 t1 n1 X1 V0 (fun r => (X1.getD r []).length) ∧ Below w2.heap.size w2 w4 ∧
        (∀ r, r < n0 → ∀ b off, K0 r = some ⟨b, off, none⟩ → b < w4.heap.size) ∧ (∀ r, r < n1 → ∀ b off, V0 r = some ⟨b, off, none⟩ → b < w4.heap.size)) :=
      ⟨D0.out.1.kept hg1, hN1, (below_of_grown D0.out.2.1).trans ((below_of_grown hg1).mono D0.out.2.1.size), fun r hr b off e => by have := D0.out.2.2 r hr b off e; have := hg1.size; omega, hk1⟩
    clear hN1 hg1 hk1
    rcases Nat.lt_or_ge n1 n0 with hmin | hmin
    · have l0 : n1 ≤ n0 := by omega
      have l1 : n1 ≤ n1 := by omega
      go_wp2_with fail
      go_loopw [6, 7] (fun tv i wr => ∃ k : Nat, k ≤ n1 ∧ i = .int .i64 k ∧ wr.ownsRow 0 5 1 tv (lines X0 X1 k).length (cb (lines X0 X1 k)) ∧ w4.grownBy wr none ∧ (∀ g, tv.ownBlock = some g → w4.heap.size ≤ g)) (fun _ i _ => n1 - (intOf i).toNat)
      case atStart => exact ⟨0, Nat.zero_le _, rfl, World.ownsRow_nil _ _ _ _, World.grownBy.refl _ _, by simp [Value.ownBlock]⟩
      case round =>
        obtain ⟨k, hk, rfl, hO, hgw, hgb⟩ := hrel
        have HO := hid (And.intro hO (And.intro hgw hgb))
        by_cases hlt : k < n1
        · have NK := hid (D1.out.1.kept hgw)
          have NV := hid (D1.out.2.1.kept hgw)
          clear hO hgw hgb
          obtain ⟨kb, ko, rfl, hc0⟩ := NK.out.top k (by omega)
          obtain ⟨vb, vo, rfl, hc1⟩ := NV.out.top k (by omega)
          have RK := hid (NK.out.row k (by omega))
          have RV := hid (NV.out.row k (by omega))
          have PK : Hid (Apart wr (K0 k) u6.ownBlock) := fun b off e => by
            have := D1.out.2.2.2.1 k (by omega) b off e
            refine ⟨fun hh => ?_, by have := HO.out.2.1.size; omega⟩
            have := HO.out.2.2 b hh; omega
          have PV : Hid (Apart wr (V0 k) u6.ownBlock) := fun b off e => by
            have := D1.out.2.2.2.2 k (by omega) b off e
            refine ⟨fun hh => ?_, by have := HO.out.2.1.size; omega⟩
            have := HO.out.2.2 b hh; omega
          have hbd : (lines X0 X1 k).length + 2 * (X0.getD k []).length + 2 * (X1.getD k []).length + 6 ≤ 16777216 := by
            have e1 := lines_length X0 X1 (k + 1)
            have e2 := sl_le X0 n0 (k + 1) (by omega)
            have e3 := sl_le X1 n1 (k + 1) (by omega)
            have := Hb.out
            simp only [lines, List.length_append, line_length] at e1
            omega
          have Hset : Hid (∀ q, Calls Try.prog 21 #[u6, .slice (K0 k) (X0.getD k []).length (X0.getD k []).length, .slice (V0 k) (X1.getD k []).length (X1.getD k []).length] (wr.drewN q) fun e w' => ∃ g cap N, e = .returned (.slice (some ⟨g, 0, none⟩) N cap) ∧ N = (lines X0 X1 k).length + (line (X0.getD k []) (X1.getD k [])).length ∧
              w'.ownsRow 0 5 1 (.slice (some ⟨g, 0, none⟩) N cap) N (cb (lines X0 X1 k ++ line (X0.getD k []) (X1.getD k []))) ∧ Step wr w' u6.ownBlock (some g)) := fun q =>
            (zzSet (wr.drewN q) u6 (lines X0 X1 k).length (X0.getD k []).length (X1.getD k []).length _ _ (K0 k) (V0 k) (lines X0 X1 k) (X0.getD k []) (X1.getD k []) rfl rfl rfl HO.out.1 RK.out.rd RV.out.rd RK.out.byte RV.out.byte hbd u6.ownBlock (.inl rfl) PK.out PV.out).mono (fun e w' ⟨g, cap, N, h1, h2, h3, h4⟩ => ⟨g, cap, N, h1, h2, h3, step_undraw h4⟩)
          clear hbd
          have NE0 : Hid (some kb ≠ u6.ownBlock) := by
            obtain ⟨b, off, e, hh⟩ := D1.out.1.top k (by omega)
            simp only [Option.some.injEq, Addr.mk.injEq, and_true] at e
            obtain ⟨rfl, rfl⟩ := e
            have hlt2 : kb < w4.heap.size := World.block_lt_of_cell? _ _ hh
            intro hx
            have := HO.out.2.2 kb hx.symm
            omega
          have NE1 : Hid (some vb ≠ u6.ownBlock) := by
            obtain ⟨b, off, e, hh⟩ := D1.out.2.1.top k (by omega)
            simp only [Option.some.injEq, Addr.mk.injEq, and_true] at e
            obtain ⟨rfl, rfl⟩ := e
            have hlt2 : vb < w4.heap.size := World.block_lt_of_cell? _ _ hh
            intro hx
            have := HO.out.2.2 vb hx.symm
            omega
          generalize (X0.getD k []).length = L0 at *
          generalize (X1.getD k []).length = L1 at *
          have i0 : (k : Int) < (n0 : Int) := by omega
          have i1 : (k : Int) < (n1 : Int) := by omega
          have i2 : (0 : Int) ≤ (k : Int) := by omega
          go_wp2_with fail
          go_region_held3 (fun w' => w'.cell? ⟨kb, ko + k, none⟩ = some (.slice (K0 k) L0 L0) ∧ w'.cell? ⟨vb, vo + k, none⟩ = some (.slice (V0 k) L1 L1)) (go_keep)
            ((go_at_call 21; refine (Hset.out 1).mono ?_; rintro e w5 ⟨g5, c5, N5, rfl, hN5, hO5, hS5⟩; have k0 := hS5.1.cell hc0 NE0.out; have k1 := hS5.1.cell hc1 NE1.out; have HN5 := hid hN5; have HO5 := hid hO5; have HS5 := hid hS5; clear hN5 hO5 hS5))
          have R : Hid (w5.ownsRow 0 5 1 (.slice (some ⟨g5, 0, none⟩) N5 c5) (lines X0 X1 (k + 1)).length (cb (lines X0 X1 (k + 1)))) := by
            show w5.ownsRow _ _ _ _ _ _
            rw [show (lines X0 X1 (k + 1)).length = N5 by rw [HN5.out, lines, List.length_append]]
            exact HO5.out
          have R2 := hid (stream_step HO.out.2.1 HO.out.2.2 HS5.out)
          go_wp2_with fail
          go_roundw
          case rel => exact ⟨k + 1, by omega, by go_num, R.out, R2.out.1, fun g e => R2.out.2 g (by simpa [Value.ownBlock] using e)⟩
          case measure => simp [intOf]; omega
        · obtain rfl : n1 = k := by omega
          have NK := hid (D1.out.1.kept hgw)
          have NV := hid (D1.out.2.1.kept hgw)
          have FB : Hid (Below w2.heap.size w2 wr) := D1.out.2.2.1.trans ((below_of_grown hgw).mono D1.out.2.2.1.size)
          clear hO hgw hgb
          obtain ⟨tao, tcap, rfl, hRd, _, _⟩ := Own.form (show Own wr u6 (lines X0 X1 n1) from HO.out.1)
          have HR := hid hRd
          have hbd : (lines X0 X1 n1).length ≤ 16777216 := by
            have e1 := lines_length X0 X1 n1
            have e2 := sl_le X0 n0 n1 (by omega)
            have e3 := sl_le X1 n1 n1 (by omega)
            have := Hb.out
            omega
          have HL : Hid ((lines X0 X1 n1).length = (lines X0 X1 n1).length) := rfl
          generalize hlx : (lines X0 X1 n1).length = lx at *
          have Hlx := hid hlx
          clear hRd hlx
          go_wp2_with fail
          go_loopw [8, 9] (fun ps i wx => ∃ k : Nat, k ≤ n1 ∧ i = .int .i64 k ∧ (∃ p : Nat, p = (lines X0 X1 k).length ∧ p ≤ lx ∧ ps = .int .i64 p) ∧ ∃ q, wx = wr.drewN q) (fun _ i _ => n1 - (intOf i).toNat)
          case atStart => exact ⟨0, Nat.zero_le _, rfl, ⟨0, rfl, Nat.zero_le _, rfl⟩, 0, rfl⟩
          case round =>
            obtain ⟨k, hk, rfl, ⟨ps, hps, hpl, rfl⟩, q, rfl⟩ := hrel
            have Hps := hid hps
            clear hps
            by_cases hlt : k < n1
            · obtain ⟨kb, ko, rfl, hc0⟩ := NK.out.top k (by omega)
              obtain ⟨vb, vo, rfl, hc1⟩ := NV.out.top k (by omega)
              have RK := hid (NK.out.row k (by omega))
              have RV := hid (NV.out.row k (by omega))
              obtain ⟨post, hpost⟩ := lines_cut X0 X1 k n1 hlt
              have LA : Hid (LineAt (lines X0 X1 n1) (X0.getD k []) (X1.getD k []) ps) := by
                have := lineAt_of (lines X0 X1 k) post (X0.getD k []) (X1.getD k []) ps Hps.out.symm
                rw [← hpost] at this; exact this
              have Hnext : Hid (((lines X0 X1 (k + 1)).length : Int) = ((ps + 4 + 2 * (X0.getD k []).length + 1 + 2 * (X1.getD k []).length + 1 : Nat) : Int)) := by
                show _ = _
                rw [lines, List.length_append, line_length, ← Hps.out]; omega
              have hnl : (lines X0 X1 (k + 1)).length ≤ lx := by
                have e1 := lines_length X0 X1 n1
                have e2 := lines_length X0 X1 (k + 1)
                have e3 := sl_le X0 n1 (k + 1) (by omega)
                have e4 := sl_le X1 n1 (k + 1) (by omega)
                have := Hlx.out
                omega
              have Hpar : Hid (∀ q, Calls Try.prog 22 #[.slice tao lx tcap, .int .i64 ps, .slice (K0 k) (X0.getD k []).length (X0.getD k []).length, .slice (V0 k) (X1.getD k []).length (X1.getD k []).length] (wr.drewN q) fun e w' => e = .returned (.tuple #[.int .i64 ((lines X0 X1 (k + 1)).length : Int), .bool true]) ∧ ∃ q', w' = wr.drewN q') := fun q =>
                (parse_true (wr.drewN q) tao (K0 k) (V0 k) tcap _ _ ps lx _ _ (lines X0 X1 n1) (X0.getD k []) (X1.getD k []) Hlx.out rfl rfl hbd HR.out RK.out.rd RV.out.rd RK.out.byte RV.out.byte LA.out _ Hnext.out).mono (fun e w' ⟨h1, q', h2⟩ => ⟨h1, q + q', by rw [h2]; simp⟩)
              generalize hnx : (lines X0 X1 (k + 1)).length = nx at *
              have Hnx := hid hnx
              clear hnx hpost
              generalize (X0.getD k []).length = L0 at *
              generalize (X1.getD k []).length = L1 at *
              have i0 : (k : Int) < (n0 : Int) := by omega
              have i1 : (k : Int) < (n1 : Int) := by omega
              have i2 : (0 : Int) ≤ (k : Int) := by omega
              go_wp2_with fail
              go_region_held3 (fun w' => w'.cell? ⟨kb, ko + k, none⟩ = some (.slice (K0 k) L0 L0) ∧ w'.cell? ⟨vb, vo + k, none⟩ = some (.slice (V0 k) L1 L1)) (go_keep)
                ((go_at_call 22; refine (Hpar.out (q + 1)).mono ?_; rintro e w5 ⟨rfl, q5, rfl⟩))
              go_wp2_with fail
              go_roundw
              case rel => exact ⟨k + 1, by omega, by go_num, ⟨nx, Hnx.out.symm, hnl, rfl⟩, _, rfl⟩
              case measure => simp [intOf]; omega
            · obtain rfl : n1 = k := by omega
              have hpe : ps = lx := by rw [Hps.out, Hlx.out]
              subst hpe
              go_wp2_with fail
              go_ret
              exact ⟨by simp, below_draws FB.out _⟩
    · have hdm : decide (n1 < n0) = false := by simp; omega
      have l0 : n0 ≤ n0 := by omega
      have l1 : n0 ≤ n1 := by omega
      go_wp2_with fail
      go_loopw [6, 7] (fun tv i wr => ∃ k : Nat, k ≤ n0 ∧ i = .int .i64 k ∧ wr.ownsRow 0 5 1 tv (lines X0 X1 k).length (cb (lines X0 X1 k)) ∧ w4.grownBy wr none ∧ (∀ g, tv.ownBlock = some g → w4.heap.size ≤ g)) (fun _ i _ => n0 - (intOf i).toNat)
      case atStart => exact ⟨0, Nat.zero_le _, rfl, World.ownsRow_nil _ _ _ _, World.grownBy.refl _ _, by simp [Value.ownBlock]⟩
      case round =>
        obtain ⟨k, hk, rfl, hO, hgw, hgb⟩ := hrel
        have HO := hid (And.intro hO (And.intro hgw hgb))
        by_cases hlt : k < n0
        · have NK := hid (D1.out.1.kept hgw)
          have NV := hid (D1.out.2.1.kept hgw)
          clear hO hgw hgb
          obtain ⟨kb, ko, rfl, hc0⟩ := NK.out.top k (by omega)
          obtain ⟨vb, vo, rfl, hc1⟩ := NV.out.top k (by omega)
          have RK := hid (NK.out.row k (by omega))
          have RV := hid (NV.out.row k (by omega))
          have PK : Hid (Apart wr (K0 k) u6.ownBlock) := fun b off e => by
            have := D1.out.2.2.2.1 k (by omega) b off e
            refine ⟨fun hh => ?_, by have := HO.out.2.1.size; omega⟩
            have := HO.out.2.2 b hh; omega
          have PV : Hid (Apart wr (V0 k) u6.ownBlock) := fun b off e => by
            have := D1.out.2.2.2.2 k (by omega) b off e
            refine ⟨fun hh => ?_, by have := HO.out.2.1.size; omega⟩
            have := HO.out.2.2 b hh; omega
          have hbd : (lines X0 X1 k).length + 2 * (X0.getD k []).length + 2 * (X1.getD k []).length + 6 ≤ 16777216 := by
            have e1 := lines_length X0 X1 (k + 1)
            have e2 := sl_le X0 n0 (k + 1) (by omega)
            have e3 := sl_le X1 n1 (k + 1) (by omega)
            have := Hb.out
            simp only [lines, List.length_append, line_length] at e1
            omega
          have Hset : Hid (∀ q, Calls Try.prog 21 #[u6, .slice (K0 k) (X0.getD k []).length (X0.getD k []).length, .slice (V0 k) (X1.getD k []).length (X1.getD k []).length] (wr.drewN q) fun e w' => ∃ g cap N, e = .returned (.slice (some ⟨g, 0, none⟩) N cap) ∧ N = (lines X0 X1 k).length + (line (X0.getD k []) (X1.getD k [])).length ∧
              w'.ownsRow 0 5 1 (.slice (some ⟨g, 0, none⟩) N cap) N (cb (lines X0 X1 k ++ line (X0.getD k []) (X1.getD k []))) ∧ Step wr w' u6.ownBlock (some g)) := fun q =>
            (zzSet (wr.drewN q) u6 (lines X0 X1 k).length (X0.getD k []).length (X1.getD k []).length _ _ (K0 k) (V0 k) (lines X0 X1 k) (X0.getD k []) (X1.getD k []) rfl rfl rfl HO.out.1 RK.out.rd RV.out.rd RK.out.byte RV.out.byte hbd u6.ownBlock (.inl rfl) PK.out PV.out).mono (fun e w' ⟨g, cap, N, h1, h2, h3, h4⟩ => ⟨g, cap, N, h1, h2, h3, step_undraw h4⟩)
          clear hbd
          have NE0 : Hid (some kb ≠ u6.ownBlock) := by
            obtain ⟨b, off, e, hh⟩ := D1.out.1.top k (by omega)
            simp only [Option.some.injEq, Addr.mk.injEq, and_true] at e
            obtain ⟨rfl, rfl⟩ := e
            have hlt2 : kb < w4.heap.size := World.block_lt_of_cell? _ _ hh
            intro hx
            have := HO.out.2.2 kb hx.symm
            omega
          have NE1 : Hid (some vb ≠ u6.ownBlock) := by
            obtain ⟨b, off, e, hh⟩ := D1.out.2.1.top k (by omega)
            simp only [Option.some.injEq, Addr.mk.injEq, and_true] at e
            obtain ⟨rfl, rfl⟩ := e
            have hlt2 : vb < w4.heap.size := World.block_lt_of_cell? _ _ hh
            intro hx
            have := HO.out.2.2 vb hx.symm
            omega
          generalize (X0.getD k []).length = L0 at *
          generalize (X1.getD k []).length = L1 at *
          have i0 : (k : Int) < (n0 : Int) := by omega
          have i1 : (k : Int) < (n1 : Int) := by omega
          have i2 : (0 : Int) ≤ (k : Int) := by omega
          go_wp2_with fail
          go_region_held3 (fun w' => w'.cell? ⟨kb, ko + k, none⟩ = some (.slice (K0 k) L0 L0) ∧ w'.cell? ⟨vb, vo + k, none⟩ = some (.slice (V0 k) L1 L1)) (go_keep)
            ((go_at_call 21; refine (Hset.out 1).mono ?_; rintro e w5 ⟨g5, c5, N5, rfl, hN5, hO5, hS5⟩; have k0 := hS5.1.cell hc0 NE0.out; have k1 := hS5.1.cell hc1 NE1.out; have HN5 := hid hN5; have HO5 := hid hO5; have HS5 := hid hS5; clear hN5 hO5 hS5))
          have R : Hid (w5.ownsRow 0 5 1 (.slice (some ⟨g5, 0, none⟩) N5 c5) (lines X0 X1 (k + 1)).length (cb (lines X0 X1 (k + 1)))) := by
            show w5.ownsRow _ _ _ _ _ _
            rw [show (lines X0 X1 (k + 1)).length = N5 by rw [HN5.out, lines, List.length_append]]
            exact HO5.out
          have R2 := hid (stream_step HO.out.2.1 HO.out.2.2 HS5.out)
          go_wp2_with fail
          go_roundw
          case rel => exact ⟨k + 1, by omega, by go_num, R.out, R2.out.1, fun g e => R2.out.2 g (by simpa [Value.ownBlock] using e)⟩
          case measure => simp [intOf]; omega
        · obtain rfl : n0 = k := by omega
          have NK := hid (D1.out.1.kept hgw)
          have NV := hid (D1.out.2.1.kept hgw)
          have FB : Hid (Below w2.heap.size w2 wr) := D1.out.2.2.1.trans ((below_of_grown hgw).mono D1.out.2.2.1.size)
          clear hO hgw hgb
          obtain ⟨tao, tcap, rfl, hRd, _, _⟩ := Own.form (show Own wr u6 (lines X0 X1 n0) from HO.out.1)
          have HR := hid hRd
          have hbd : (lines X0 X1 n0).length ≤ 16777216 := by
            have e1 := lines_length X0 X1 n0
            have e2 := sl_le X0 n0 n0 (by omega)
            have e3 := sl_le X1 n1 n0 (by omega)
            have := Hb.out
            omega
          have HL : Hid ((lines X0 X1 n0).length = (lines X0 X1 n0).length) := rfl
          generalize hlx : (lines X0 X1 n0).length = lx at *
          have Hlx := hid hlx
          clear hRd hlx
          go_wp2_with fail
          go_loopw [8, 9] (fun ps i wx => ∃ k : Nat, k ≤ n0 ∧ i = .int .i64 k ∧ (∃ p : Nat, p = (lines X0 X1 k).length ∧ p ≤ lx ∧ ps = .int .i64 p) ∧ ∃ q, wx = wr.drewN q) (fun _ i _ => n0 - (intOf i).toNat)
          case atStart => exact ⟨0, Nat.zero_le _, rfl, ⟨0, rfl, Nat.zero_le _, rfl⟩, 0, rfl⟩
          case round =>
            obtain ⟨k, hk, rfl, ⟨ps, hps, hpl, rfl⟩, q, rfl⟩ := hrel
            have Hps := hid hps
            clear hps
            by_cases hlt : k < n0
            · obtain ⟨kb, ko, rfl, hc0⟩ := NK.out.top k (by omega)
              obtain ⟨vb, vo, rfl, hc1⟩ := NV.out.top k (by omega)
              have RK := hid (NK.out.row k (by omega))
              have RV := hid (NV.out.row k (by omega))
              obtain ⟨post, hpost⟩ := lines_cut X0 X1 k n0 hlt
              have LA : Hid (LineAt (lines X0 X1 n0) (X0.getD k []) (X1.getD k []) ps) := by
                have := lineAt_of (lines X0 X1 k) post (X0.getD k []) (X1.getD k []) ps Hps.out.symm
                rw [← hpost] at this; exact this
              have Hnext : Hid (((lines X0 X1 (k + 1)).length : Int) = ((ps + 4 + 2 * (X0.getD k []).length + 1 + 2 * (X1.getD k []).length + 1 : Nat) : Int)) := by
                show _ = _
                rw [lines, List.length_append, line_length, ← Hps.out]; omega
              have hnl : (lines X0 X1 (k + 1)).length ≤ lx := by
                have e1 := lines_length X0 X1 n0
                have e2 := lines_length X0 X1 (k + 1)
                have e3 := sl_le X0 n0 (k + 1) (by omega)
                have e4 := sl_le X1 n0 (k + 1) (by omega)
                have := Hlx.out
                omega
              have Hpar : Hid (∀ q, Calls Try.prog 22 #[.slice tao lx tcap, .int .i64 ps, .slice (K0 k) (X0.getD k []).length (X0.getD k []).length, .slice (V0 k) (X1.getD k []).length (X1.getD k []).length] (wr.drewN q) fun e w' => e = .returned (.tuple #[.int .i64 ((lines X0 X1 (k + 1)).length : Int), .bool true]) ∧ ∃ q', w' = wr.drewN q') := fun q =>
                (parse_true (wr.drewN q) tao (K0 k) (V0 k) tcap _ _ ps lx _ _ (lines X0 X1 n0) (X0.getD k []) (X1.getD k []) Hlx.out rfl rfl hbd HR.out RK.out.rd RV.out.rd RK.out.byte RV.out.byte LA.out _ Hnext.out).mono (fun e w' ⟨h1, q', h2⟩ => ⟨h1, q + q', by rw [h2]; simp⟩)
              generalize hnx : (lines X0 X1 (k + 1)).length = nx at *
              have Hnx := hid hnx
              clear hnx hpost
              generalize (X0.getD k []).length = L0 at *
              generalize (X1.getD k []).length = L1 at *
              have i0 : (k : Int) < (n0 : Int) := by omega
              have i1 : (k : Int) < (n1 : Int) := by omega
              have i2 : (0 : Int) ≤ (k : Int) := by omega
              go_wp2_with fail
              go_region_held3 (fun w' => w'.cell? ⟨kb, ko + k, none⟩ = some (.slice (K0 k) L0 L0) ∧ w'.cell? ⟨vb, vo + k, none⟩ = some (.slice (V0 k) L1 L1)) (go_keep)
                ((go_at_call 22; refine (Hpar.out (q + 1)).mono ?_; rintro e w5 ⟨rfl, q5, rfl⟩))
              go_wp2_with fail
              go_roundw
              case rel => exact ⟨k + 1, by omega, by go_num, ⟨nx, Hnx.out.symm, hnl, rfl⟩, _, rfl⟩
              case measure => simp [intOf]; omega
            · obtain rfl : n0 = k := by omega
              have hpe : ps = lx := by rw [Hps.out, Hlx.out]
              subst hpe
              go_wp2_with fail
              go_ret
              exact ⟨by simp, below_draws FB.out _⟩
end Go.Proofs.Qxb6605914a
