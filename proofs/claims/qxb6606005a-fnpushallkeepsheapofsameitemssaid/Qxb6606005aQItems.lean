import Derived.Test.Qxb6606005aNewQ
namespace Go.Proofs.Qxb6606005a.Hp
open Go.RowKit
set_option maxRecDepth 100000
attribute [local go_sem] run_store_float

theorem Ev.cell {w : World} {b : Nat} {tag : Int} (h : Ev w b tag) : w.cell? ⟨b, 10, none⟩ = some (.int .i64 tag) := by
  obtain ⟨arr, h1, h2⟩ := h; simp [World.cell?, h1, h2]

/-- the three rows of a queue's items, the first k of them in -/
def Three (w wr : World) (g1 g2 g3 n k : Nat) (f : Nat → Ent) : Prop :=
  w.grownBy wr none ∧ Part wr 23 g1 n (· < k) (fun j => .float .f64 (f j).tm) ∧ Part wr 24 g2 n (· < k) (fun j => .int .u64 (f j).seq) ∧ Part wr 3 g3 n (· < k) (fun j => .int .i64 (f j).tag)

theorem Three.step {w wr : World} {g1 g2 g3 n k : Nat} {f : Nat → Ent} (h : Three w wr g1 g2 g3 n k f) (h1 : w.heap.size ≤ g1) (h2 : w.heap.size ≤ g2) (h3 : w.heap.size ≤ g3) (a : g1 ≠ g2) (b : g1 ≠ g3) (c : g2 ≠ g3) :
    Three w (((wr.setCell ⟨g1, k, none⟩ (.float .f64 (f k).tm)).setCell ⟨g2, k, none⟩ (.int .u64 (f k).seq)).setCell ⟨g3, k, none⟩ (.int .i64 (f k).tag)) g1 g2 g3 n (k + 1) f := by
  obtain ⟨hg, p1, p2, p3⟩ := h
  have q : ∀ (F : Nat → Value), ∀ j, j < n → j ≠ k → j < k + 1 → j < k ∧ F j = F j := fun F j _ h1 h2 => ⟨by omega, rfl⟩
  refine ⟨grown_set (grown_set (grown_set hg (by exact h1) _) (by exact h2) _) (by exact h3) _, ?_, ?_, ?_⟩
  · exact ((p1.set k _ (fun _ => rfl) (q _)).other a _).other b _
  · exact ((p2.other (Ne.symm a) _).set k _ (fun _ => rfl) (q _)).other c _
  · exact ((p3.other (Ne.symm b) _).other (Ne.symm c) _).set k _ (fun _ => rfl) (q _)

set_option maxHeartbeats 1600000 in
theorem queueItems (w0 w : World) (L g n cap : Nat) (f : Nat → Ent) (hn : n ≤ 65537) (h : Qu w0 w L g n cap f) :
    Calls Try.prog 14 #[.pointer (some ⟨L, 0, none⟩)] w fun e w' => ∃ g1 g2 g3, e = .returned (.tuple #[.slice (some ⟨g1, 0, none⟩) n n, .slice (some ⟨g2, 0, none⟩) n n, .slice (some ⟨g3, 0, none⟩) n n]) ∧
      Three w w' g1 g2 g3 n n f ∧ w.heap.size ≤ g1 ∧ w.heap.size ≤ g2 ∧ w.heap.size ≤ g3 := by
  obtain ⟨i1, hi1, ha0, ha1, ha2⟩ := info_parts info23
  obtain ⟨i2, hi2, hb0, hb1, hb2⟩ := info_parts info24
  obtain ⟨i3, hi3, hc0, hc1, hc2⟩ := info_parts info3
  have c0 := h.c0
  have H := hid h
  clear h
  go_enter Try.func14, Try.ntmps14
  go_wp2_with (at_make; first
    | refine wpList_make_full _ rfl _ _ 28 rfl 0 23 i1 (.float .f64 0) 1 Try.underlying28 hi1 ha0 ha1 .i64 .i64 _ _ n rfl rfl rfl rfl (by rw [ha2]; omega) (by unfold maxLen; omega) (Nat.zero_le _) ?_; intro w1 hown1 hgr1
    | refine wpList_make_full _ rfl _ _ 29 rfl 0 24 i2 (.int .u64 0) 1 Try.underlying29 hi2 hb0 hb1 .i64 .i64 _ _ n rfl rfl rfl rfl (by rw [hb2]; omega) (by unfold maxLen; omega) (Nat.zero_le _) ?_; intro w2 hown2 hgr2
    | refine wpList_make_full _ rfl _ _ 30 rfl 0 3 i3 (.int .i64 0) 1 Try.underlying30 hi3 hc0 hc1 .i64 .i64 _ _ n rfl rfl rfl rfl (by rw [hc2]; omega) (by unfold maxLen; omega) (Nat.zero_le _) ?_; intro w3 hown3 hgr3)
  clear hi1 ha0 ha1 ha2 hi2 hb0 hb1 hb2 hi3 hc0 hc1 hc2 c0
  have l1 : w.heap.size < w1.heap.size := (hown1.lt _ rfl).2
  have l2 : w1.heap.size < w2.heap.size := (hown2.lt _ rfl).2
  have H0 : Hid (Three w w3 w.heap.size w1.heap.size w2.heap.size n 0 f) :=
    ⟨grown_tr hgr1 (grown_tr hgr2 hgr3), ((Part.made (f := fun _ => .int .i64 0) hown1).grow (grown_tr hgr2 hgr3)).congr (fun j _ h => by omega), ((Part.made (f := fun _ => .int .i64 0) hown2).grow hgr3).congr (fun j _ h => by omega), (Part.made (f := fun _ => .int .i64 0) hown3).congr (fun j _ h => by omega)⟩
  clear hown1 hown2 hown3 hgr1 hgr2 hgr3
  obtain ⟨g1, hg1⟩ : ∃ g1, g1 = w.heap.size := ⟨_, rfl⟩
  rw [← hg1] at H0 l1 ⊢
  generalize w1.heap.size = g2 at *
  generalize w2.heap.size = g3 at *
  have HLT : Hid (g < g1) := by rw [hg1]; exact H.out.ltg
  have Hw := hid hg1
  clear hg1
  go_loopw [24, 9] (fun i _ wr => ∃ (k : Nat), k ≤ n ∧ i = .int .i64 k ∧ Three w wr g1 g2 g3 n k f) (fun i _ _ => n - (intOf i).toNat)
  case atStart => exact ⟨0, Nat.zero_le _, rfl, H0.out⟩
  case round =>
    obtain ⟨k, hk, rfl, hT⟩ := hrel
    have HT := hid hT
    clear hT H0
    by_cases hlt : k < n
    · have HQ := H.out.grow HT.out.1
      obtain ⟨a0, a1, a2⟩ := HQ.row.cells hlt
      have a3 := (HQ.ev k hlt).cell
      have m1 : g ≠ g1 := by have := HLT.out; omega
      have m2 : g ≠ g2 := by have := HLT.out; omega
      have m3 : g ≠ g3 := by have := HLT.out; omega
      have e0 : (f k).b < w.heap.size := by obtain ⟨arr, h1, _⟩ := H.out.ev k hlt; exact (Array.getElem?_eq_some_iff.1 h1).1
      rw [← Hw.out] at e0
      have e1 : (f k).b ≠ g1 := by omega
      have e2 : (f k).b ≠ g2 := by omega
      have e3 : (f k).b ≠ g3 := by omega
      have n12 : g1 ≠ g2 := by omega
      have n13 : g1 ≠ g3 := by omega
      have n23 : g2 ≠ g3 := by omega
      obtain ⟨u1, hu1⟩ := HT.out.2.1.some hlt
      obtain ⟨u2, hu2⟩ := HT.out.2.2.1.some hlt
      obtain ⟨u3, hu3⟩ := HT.out.2.2.2.some hlt
      have z1 := HT.out.2.1.frozen
      have z2 := HT.out.2.2.1.frozen
      have z3 := HT.out.2.2.2.frozen
      have j1 : (k : Int) < (n : Int) := by omega
      have HN := hid (HT.out.step (by have := Hw.out; omega) (by have := Hw.out; omega) (by have := Hw.out; omega) n12 n13 n23)
      clear HQ e0
      generalize (f k).tm = x at *
      generalize (f k).seq = s at *
      generalize (f k).b = b at *
      generalize (f k).tag = t at *
      go_wp2_with fail
      go_roundw
      case rel => exact ⟨k + 1, by omega, by go_num, HN.out⟩
      case measure => simp [intOf]; omega
    · obtain rfl : n = k := by omega
      go_wp2_with fail
      go_ret3
      exact ⟨g1, g2, g3, rfl, HT.out, by have := Hw.out; omega, by have := Hw.out; omega, by have := Hw.out; omega⟩
end Go.Proofs.Qxb6606005a.Hp
