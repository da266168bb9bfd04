import Derived.Test.Qxb6606005aHeap
import Derived.Below
namespace Go.Proofs.Qxb6606005a.Hp
open Go.RowKit
set_option maxRecDepth 100000
attribute [local go_sem] run_store_float

theorem bytes8 (w : World) (ao : Option Addr) (n cap t : Nat) (s : Int) :
    Calls Try.prog 8 #[.slice ao n cap, .float .f64 t, .int .u64 s] w fun e w' => e = .returned (.bool (decide (n ≤ 1048576))) ∧ w' = w := by
  by_cases h : n ≤ 1048576
  · rw [decide_eq_true h]
    have h2 : ¬ 1048576 < (n : Int) := by omega
    go_enter Try.func8, Try.ntmps8
    go_wp2
    go_ret
    exact ⟨rfl, rfl⟩
  · rw [decide_eq_false h]
    have h2 : 1048576 < (n : Int) := by omega
    go_enter Try.func8, Try.ntmps8
    go_wp2
    go_ret
    exact ⟨rfl, rfl⟩

theorem bytes16 (w : World) (ao : Option Addr) (n cap : Nat) :
    Calls Try.prog 16 #[.slice ao n cap] w fun e w' => e = .returned (.bool (decide (n ≤ 1048576))) ∧ w' = w := by
  by_cases h : n ≤ 1048576
  · rw [decide_eq_true h]
    have h2 : ¬ 1048576 < (n : Int) := by omega
    go_enter Try.func16, Try.ntmps16
    go_wp2
    go_ret
    exact ⟨rfl, rfl⟩
  · rw [decide_eq_false h]
    have h2 : 1048576 < (n : Int) := by omega
    go_enter Try.func16, Try.ntmps16
    go_wp2
    go_ret
    exact ⟨rfl, rfl⟩

theorem rd1_of {w : World} {e : TypeId} {g n : Nat} {P : Nat → Prop} {f : Nat → Value} (h : Part w e g n P f) (hP : ∀ j, j < n → P j) : Rd1 w (some ⟨g, 0, none⟩) n f := fun j hj =>
  ⟨g, 0, rfl, by rw [Nat.zero_add]; exact h.cell hj (hP j hj)⟩

/-- what the law holds in hand behind the push: the items, the queue's rows, the wanted rows -/
structure Base (w0 w : World) (ai : Option Addr) (n : Nat) (X : Nat → Nat) (S : Nat → Int) (F : Nat → Ent) (G1 G2 G3 G4 G5 G6 : Nat) (P : Nat → Prop) (E : Nat → Ent) : Prop where
  old : w0.grownBy w none
  rd : RdQ w ai n X S
  aib : ∀ b off, ai = some ⟨b, off, none⟩ → 0 < n → b < G4
  g1 : Part w 23 G1 (n + 1) (fun _ => True) (fun j => .float .f64 (F j).tm)
  g2 : Part w 24 G2 (n + 1) (fun _ => True) (fun j => .int .u64 (F j).seq)
  g3 : Part w 3 G3 (n + 1) (fun _ => True) (fun j => .int .i64 (F j).tag)
  h1 : Part w 23 G4 (n + 1) P (fun j => .float .f64 (E j).tm)
  h2 : Part w 24 G5 (n + 1) P (fun j => .int .u64 (E j).seq)
  h3 : Part w 3 G6 (n + 1) P (fun j => .int .i64 (E j).tag)
  l0 : w0.heap.size ≤ G4
  l1 : G1 < G4 ∧ G2 < G4 ∧ G3 < G4
  l2 : G4 < G5 ∧ G5 < G6

theorem Base.grow {w0 w w' : World} {ai : Option Addr} {n : Nat} {X : Nat → Nat} {S : Nat → Int} {F : Nat → Ent} {G1 G2 G3 G4 G5 G6 : Nat} {P : Nat → Prop} {E : Nat → Ent}
    (h : Base w0 w ai n X S F G1 G2 G3 G4 G5 G6 P E) (hg : w.grownBy w' none) : Base w0 w' ai n X S F G1 G2 G3 G4 G5 G6 P E :=
  ⟨grown_tr h.old hg, h.rd.kept hg, h.aib, h.g1.grow hg, h.g2.grow hg, h.g3.grow hg, h.h1.grow hg, h.h2.grow hg, h.h3.grow hg, h.l0, h.l1, h.l2⟩

theorem RdQ.other {w : World} {ao : Option Addr} {n : Nat} {X : Nat → Nat} {S : Nat → Int} (h : RdQ w ao n X S) (a : Addr) (ha : ∀ b off, ao = some ⟨b, off, none⟩ → 0 < n → b ≠ a.block) (u : Value) : RdQ (w.setCell a u) ao n X S := fun j hj => by
  obtain ⟨b, off, h1, h2, h3⟩ := h j hj
  have hb := ha b off h1 (by omega)
  have hh : (w.setCell a u).heap[b]? = w.heap[b]? := Below.heap_setCell _ _ _ _ hb
  exact ⟨b, off, h1, by rw [World.cell?_of_block (w := w) (a := ⟨b, off + j * 2, none⟩) hh]; exact h2, by rw [World.cell?_of_block (w := w) (a := ⟨b, off + j * 2 + 1, none⟩) hh]; exact h3⟩

theorem Base.put {w0 w : World} {ai : Option Addr} {n : Nat} {X : Nat → Nat} {S : Nat → Int} {F : Nat → Ent} {G1 G2 G3 G4 G5 G6 : Nat} {P P' : Nat → Prop} {E : Nat → Ent}
    (h : Base w0 w ai n X S F G1 G2 G3 G4 G5 G6 P E) (k : Nat) (x : Nat) (s t : Int) (hx : x = (E k).tm) (hs : s = (E k).seq) (ht : t = (E k).tag) (hP : ∀ j, j < n + 1 → j ≠ k → P' j → P j) :
    Base w0 (((w.setCell ⟨G4, k, none⟩ (.float .f64 x)).setCell ⟨G5, k, none⟩ (.int .u64 s)).setCell ⟨G6, k, none⟩ (.int .i64 t)) ai n X S F G1 G2 G3 G4 G5 G6 P' E := by
  obtain ⟨l1, l2⟩ := h.l1
  obtain ⟨l3, l4⟩ := h.l2
  have l0 := h.l0
  refine ⟨grown_set (grown_set (grown_set h.old (by show _ ≤ G4; omega) _) (by show _ ≤ G5; omega) _) (by show _ ≤ G6; omega) _,
    ((h.rd.other _ (fun b off e h0 => by have := h.aib b off e h0; show b ≠ G4; omega) _).other _ (fun b off e h0 => by have := h.aib b off e h0; show b ≠ G5; omega) _).other _ (fun b off e h0 => by have := h.aib b off e h0; show b ≠ G6; omega) _,
    h.aib, ((h.g1.other (by show _ ≠ G4; omega) _).other (by show _ ≠ G5; omega) _).other (by show _ ≠ G6; omega) _, ((h.g2.other (by show _ ≠ G4; omega) _).other (by show _ ≠ G5; omega) _).other (by show _ ≠ G6; omega) _, ((h.g3.other (by show _ ≠ G4; omega) _).other (by show _ ≠ G5; omega) _).other (by show _ ≠ G6; omega) _, ?_, ?_, ?_, h.l0, h.l1, h.l2⟩
  · exact ((h.h1.set k _ (fun _ => by rw [hx]) (fun j a b c => ⟨hP j a b c, rfl⟩)).other (by show _ ≠ G5; omega) _).other (by show _ ≠ G6; omega) _
  · exact ((h.h2.other (by show _ ≠ G4; omega) _).set k _ (fun _ => by rw [hs]) (fun j a b c => ⟨hP j a b c, rfl⟩)).other (by show _ ≠ G6; omega) _
  · exact ((h.h3.other (by show _ ≠ G4; omega) _).other (by show _ ≠ G5; omega) _).set k _ (fun _ => by rw [ht]) (fun j a b c => ⟨hP j a b c, rfl⟩)

def it (X : Nat → Nat) (S : Nat → Int) : Nat → Ent := fun i => ⟨X i, S i, 0, (i : Int) + 1⟩

/-- the way up, its first m places -/
def Up (wb wr : World) (n m : Nat) (v : Value) : Prop :=
  wb.grownBy wr none ∧ wr.ownsRow 0 3 1 v m ((List.range m).map fun j => .int .i64 (anc n j)) ∧ ∀ g, v.ownBlock = some g → wb.heap.size ≤ g

theorem Up.step {wb wr w' : World} {n m g cap : Nat} {v : Value} {o : Obj} (h : Up wb wr n m v) (hg : (wr.alloc o).grownBy w' v.ownBlock)
    (hO : w'.ownsRow 0 3 1 (.slice (some ⟨g, 0, none⟩) (m + 1) cap) (m + 1) (((List.range m).map fun j => .int .i64 (anc n j)) ++ [.int .i64 (anc n m)])) (hat : v.ownBlock = some g ∨ g = wr.heap.size + 1) : Up wb w' n (m + 1) (.slice (some ⟨g, 0, none⟩) (m + 1) cap) := by
  obtain ⟨h1, h2, h3⟩ := h
  have hs := h1.size
  refine ⟨⟨hg.os.trans h1.os, hg.tape.trans h1.tape, hg.output.trans h1.output, ?_, fun k hk hne => ?_⟩, ?_, fun g' hg' => ?_⟩
  · have := hg.size; simp at this; omega
  · rw [hg.block k (by simp; omega) (fun e => by have := h3 k e.symm; omega), Below.heap_alloc _ _ _ (by omega)]
    exact h1.block k hk hne
  · rw [List.range_succ, List.map_append]; exact hO
  · simp [Value.ownBlock] at hg'
    subst hg'
    rcases hat with e | e
    · exact h3 _ e
    · omega

theorem Up.cell {wb wr : World} {n m g cap : Nat} (h : Up wb wr n m (.slice (some ⟨g, 0, none⟩) m cap)) {j : Nat} (hj : j < m) : wr.cell? ⟨g, j, none⟩ = some (.int .i64 (anc n j)) := by
  rw [h.2.1.cellAt j (by omega)]; simp [hj]

theorem anc_add (n : Nat) : ∀ m, (∀ j, j < m → 0 < anc n j) → anc n m + m ≤ n
  | 0, _ => by simp [anc]
  | m + 1, h => by
    have h1 := anc_add n m (fun j hj => h j (by omega))
    have h2 := anc_lt (h m (by omega))
    omega

theorem Base.recast {w0 w : World} {ai : Option Addr} {n : Nat} {X : Nat → Nat} {S : Nat → Int} {F : Nat → Ent} {G1 G2 G3 G4 G5 G6 : Nat} {P P' : Nat → Prop} {E E' : Nat → Ent}
    (h : Base w0 w ai n X S F G1 G2 G3 G4 G5 G6 P E) (hP : ∀ j, j < n + 1 → P' j → P j ∧ E j = E' j) : Base w0 w ai n X S F G1 G2 G3 G4 G5 G6 P' E' :=
  ⟨h.old, h.rd, h.aib, h.g1, h.g2, h.g3, h.h1.congr (fun j hj hp => ⟨(hP j hj hp).1, by rw [(hP j hj hp).2]⟩), h.h2.congr (fun j hj hp => ⟨(hP j hj hp).1, by rw [(hP j hj hp).2]⟩), h.h3.congr (fun j hj hp => ⟨(hP j hj hp).1, by rw [(hP j hj hp).2]⟩), h.l0, h.l1, h.l2⟩

theorem Sifted.pos {f : Nat → Ent} {n : Nat} {x : Ent} {r : Nat} (hs : Sifted f n x r) : ∀ i, i < r → 0 < anc n i := fun i hi => by
  have := (hs.1 (i + 1) (by omega) hi).2
  rw [Nat.add_sub_cancel] at this; exact this

theorem upf_ok {f : Nat → Ent} {n : Nat} {x : Ent} {r : Nat} (hs : Sifted f n x r) (hx : oke x) (hok : ∀ i, i < n → oke (f i)) (q : Nat) (hq : q < n + 1) : oke (upf f n x r q) := by
  by_cases h : ∃ j, j ≤ r ∧ q = anc n j
  · obtain ⟨j, hj, rfl⟩ := h
    rcases Nat.lt_or_ge j r with h1 | h1
    · rw [upf_path f n x r j h1 hs.pos]
      have h2 := anc_lt (hs.pos j h1)
      exact hok _ (by omega)
    · obtain rfl : j = r := by omega
      rw [upf_self]; exact hx
  · have h' : ∀ j, j ≤ r → q ≠ anc n j := fun j hj e => h ⟨j, hj, e⟩
    rw [upf_off f n x r q h']
    have h0 : q ≠ n := h' 0 (Nat.zero_le _)
    exact hok q (by omega)

/-- the wanted places that are in: those off the path, and of the path those from place r of it on -/
def PP (n m r k : Nat) (q : Nat) : Prop := (q < n ∧ ∀ j, j ≤ r → q ≠ anc n j) ∨ ∃ j, j ≤ r ∧ m - j < k ∧ q = anc n j

set_option maxHeartbeats 6400000 in
theorem sift_walk (w : World) (ao : Option Addr) (n cap : Nat) (X : Nat → Nat) (S : Nat → Int) (xt : Nat) (xs : Int) (hR : RdQ w ao n X S) :
    Calls Try.prog 3 #[.slice ao n cap, .float .f64 xt, .int .u64 xs] w fun e w' => e = .returned (.bool true) ∧ w.grownBy w' none := by
  obtain ⟨i1, hi1, ha0, ha1, ha2⟩ := info_parts info23
  obtain ⟨i2, hi2, hb0, hb1, hb2⟩ := info_parts info24
  obtain ⟨i3, hi3, hc0, hc1, hc2⟩ := info_parts info3
  have HI := hid (And.intro (And.intro hi1 (And.intro ha0 (And.intro ha1 ha2))) (And.intro (And.intro hi2 (And.intro hb0 (And.intro hb1 hb2))) (And.intro hi3 (And.intro hc0 (And.intro hc1 hc2)))))
  clear hi1 ha0 ha1 ha2 hi2 hb0 hb1 hb2 hi3 hc0 hc1 hc2
  have HR := hid hR
  clear hR
  go_enter Try.func3, Try.ntmps3
  go_wp2_with fail
  refine (bytes8 _ ao n cap xt xs).mono ?_
  rintro e w1 ⟨rfl, rfl⟩
  by_cases hb : n ≤ 1048576
  case neg =>
    rw [decide_eq_false hb]
    go_wp2_with fail
    go_ret
    exact ⟨rfl, World.grownBy.refl _ _⟩
  rw [decide_eq_true hb]
  by_cases hn : n ≤ 65536
  case neg =>
    have h2 : 65536 < (n : Int) := by omega
    go_wp2_with fail
    go_ret
    exact ⟨rfl, World.grownBy.refl _ _⟩
  have h2 : ¬ 65536 < (n : Int) := by omega
  have h3 : decide ((65536 : Int) < (n : Int)) = false := decide_eq_false h2
  cases hne : (FloatKind.f64.format.order xt xt != some .eq) with
  | true =>
    go_wp2_with fail
    go_ret
    exact ⟨rfl, World.grownBy.refl _ _⟩
  | false =>
  have Hxt : Hid (okf xt) := by simpa [okf, ford, Hid] using hne
  go_wp2_with fail
  refine (hasNaN _ ao n cap X S (by omega) HR.out).mono ?_
  rintro e w2 ⟨⟨bn, rfl, hbn⟩, q, rfl⟩
  cases bn with
  | true =>
    go_wp2_with fail
    go_ret
    exact ⟨rfl, ⟨rfl, rfl, rfl, Nat.le_refl _, fun _ _ _ => rfl⟩⟩
  | false =>
  have HX := hid (hbn rfl)
  clear hbn
  have HG2 : Hid (w1.grownBy (w1.drewN q) none) := ⟨rfl, rfl, rfl, Nat.le_refl _, fun _ _ _ => rfl⟩
  generalize w1.drewN q = w2 at *
  have HR2 := hid (HR.out.kept HG2.out)
  go_wp2_with fail
  refine (isHeap _ ao n cap X S (by omega) HR2.out).mono ?_
  rintro e w3 ⟨⟨bn, rfl, hbn⟩, hg3⟩
  have HG3 := hid (grown_tr HG2.out hg3)
  clear hg3
  cases bn with
  | false =>
    go_wp2_with fail
    go_ret
    exact ⟨rfl, HG3.out⟩
  | true =>
  have HH := hid (hbn.1 rfl)
  clear hbn
  go_wp2_with fail
  refine (qCopy _ ao n cap X S (by omega) (HR.out.kept HG3.out)).mono ?_
  rintro e w4 ⟨ai, rfl, hr4, hg4⟩
  have HR4 := hid hr4
  have HG4 := hid (grown_tr HG3.out hg4)
  clear hr4 hg4 HR2 HG2 HG3 HR
  go_wp2_with (at_make; first
    | refine wpList_make_full _ rfl _ _ 28 rfl 0 23 i1 (.float .f64 0) 1 Try.underlying28 HI.out.1.1 HI.out.1.2.1 HI.out.1.2.2.1 .i64 .i64 _ _ n rfl rfl rfl rfl (by rw [HI.out.1.2.2.2]; omega) (by unfold maxLen; omega) (Nat.zero_le _) ?_; intro w5 hown1 hgr1
    | refine wpList_make_full _ rfl _ _ 29 rfl 0 24 i2 (.int .u64 0) 1 Try.underlying29 HI.out.2.1.1 HI.out.2.1.2.1 HI.out.2.1.2.2.1 .i64 .i64 _ _ n rfl rfl rfl rfl (by rw [HI.out.2.1.2.2.2]; omega) (by unfold maxLen; omega) (Nat.zero_le _) ?_; intro w6 hown2 hgr2
    | refine wpList_make_full _ rfl _ _ 30 rfl 0 3 i3 (.int .i64 0) 1 Try.underlying30 HI.out.2.2.1 HI.out.2.2.2.1 HI.out.2.2.2.2.1 .i64 .i64 _ _ n rfl rfl rfl rfl (by rw [HI.out.2.2.2.2.2]; omega) (by unfold maxLen; omega) (Nat.zero_le _) ?_; intro w7 hown3 hgr3)
  have HAI : Hid (∀ b off, ai = some ⟨b, off, none⟩ → 0 < n → b < w4.heap.size) := fun b off e h0 => by
    obtain ⟨b', o', e', h', _⟩ := HR4.out 0 h0
    rw [e] at e'; simp only [Option.some.injEq, Addr.mk.injEq, and_true] at e'
    obtain ⟨rfl, rfl⟩ := e'
    exact World.block_lt_of_cell? _ _ h'
  have l1 : w4.heap.size < w5.heap.size := (hown1.lt _ rfl).2
  have l2 : w5.heap.size < w6.heap.size := (hown2.lt _ rfl).2
  have H0 : Hid (Three w4 w7 w4.heap.size w5.heap.size w6.heap.size n 0 (it X S)) :=
    ⟨grown_tr hgr1 (grown_tr hgr2 hgr3), ((Part.made (f := fun _ => .int .i64 0) hown1).grow (grown_tr hgr2 hgr3)).congr (fun j _ h => by omega), ((Part.made (f := fun _ => .int .i64 0) hown2).grow hgr3).congr (fun j _ h => by omega), (Part.made (f := fun _ => .int .i64 0) hown3).congr (fun j _ h => by omega)⟩
  clear hown1 hown2 hown3 hgr1 hgr2 hgr3 h3
  obtain ⟨g1, hg1⟩ : ∃ g1, g1 = w4.heap.size := ⟨_, rfl⟩
  rw [← hg1] at H0 l1 HAI ⊢
  generalize w5.heap.size = g2 at *
  generalize w6.heap.size = g3 at *
  have Hg1 := hid hg1
  clear hg1
  go_loopw [11] (fun i wr => ∃ (k : Nat), k ≤ n ∧ i = .int .i64 k ∧ Three w4 wr g1 g2 g3 n k (it X S)) (fun i _ => n - (intOf i).toNat)
  case atStart => exact ⟨0, Nat.zero_le _, rfl, H0.out⟩
  case round =>
    obtain ⟨k, hk, rfl, hT⟩ := hrel
    have HT := hid hT
    clear hT H0
    by_cases hlt : k < n
    · obtain ⟨b, off, rfl, c0, c1⟩ := (HR4.out.kept HT.out.1) k hlt
      have m0 := HAI.out b off rfl (by omega)
      have m1 : b ≠ g1 := by omega
      have m2 : b ≠ g2 := by omega
      have m3 : b ≠ g3 := by omega
      have n12 : g1 ≠ g2 := by omega
      have n13 : g1 ≠ g3 := by omega
      have n23 : g2 ≠ g3 := by omega
      obtain ⟨u1, hu1⟩ := HT.out.2.1.some hlt
      obtain ⟨u2, hu2⟩ := HT.out.2.2.1.some hlt
      obtain ⟨u3, hu3⟩ := HT.out.2.2.2.some hlt
      have z1 := HT.out.2.1.frozen
      have z2 := HT.out.2.2.1.frozen
      have z3 := HT.out.2.2.2.frozen
      have j1 : (k : Int) < (n : Int) := by omega
      have HN := hid (HT.out.step (by have := Hg1.out; omega) (by have := Hg1.out; omega) (by have := Hg1.out; omega) n12 n13 n23)
      simp only [it] at HN
      generalize X k = x at *
      generalize S k = s at *
      go_wp2_with fail
      go_roundw
      case rel => exact ⟨k + 1, by omega, by go_num, HN.out⟩
      case measure => simp [intOf]; omega
    · obtain rfl : n = k := by omega
      go_wp2_with fail
      refine (newQueue _ (some ⟨g1, 0, none⟩) (some ⟨g2, 0, none⟩) (some ⟨g3, 0, none⟩) n n n n X S (fun j => (j : Int) + 1) hn (rd1_of HT.out.2.1 (fun j h => h)) (rd1_of HT.out.2.2.1 (fun j h => h)) (rd1_of HT.out.2.2.2 (fun j h => h))).mono ?_
      rintro e w9 ⟨L, gq, fq, rfl, hQ, hfq⟩
      have HQ := hid hQ
      have Hfq := hid hfq
      clear hQ hfq
      go_wp2_with fail
      refine (zzpush wr _ L gq n n fq xt xs ((n : Int) + 1) hn HQ.out).mono ?_
      rintro e w10 ⟨rfl, gq2, capq, r, be, hQ, hS⟩
      have HQ2 := hid hQ
      have HS := hid hS
      clear hQ hS HQ
      go_wp2_with fail
      refine (queueItems wr _ L gq2 (n + 1) capq _ (by omega) HQ2.out).mono ?_
      rintro e w11 ⟨G1, G2, G3, rfl, hT3, a1, a2, a3⟩
      have HG11 : Hid (w4.grownBy w11 none) := grown_tr HT.out.1 (grown_tr HQ2.out.old hT3.1)
      have HT3 := hid hT3
      clear hT3 HT HQ2
      generalize hx : (⟨xt, xs, be, (n : Int) + 1⟩ : Ent) = x at *
      generalize hF : upf fq n x r = F at *
      have HF := hid (And.intro hx hF)
      clear hx hF
      have lG1 := HT3.out.2.1.lt
      have lG2 := HT3.out.2.2.1.lt
      have lG3 := HT3.out.2.2.2.lt
      clear a1 a2 a3
      go_wp2_with (at_make; first
        | refine wpList_make_full _ rfl _ _ 28 rfl 0 23 i1 (.float .f64 0) 1 Try.underlying28 HI.out.1.1 HI.out.1.2.1 HI.out.1.2.2.1 .i64 .i64 _ _ (n + 1) rfl rfl rfl rfl (by rw [HI.out.1.2.2.2]; omega) (by unfold maxLen; omega) (Nat.zero_le _) ?_; intro w12 hown1 hgr1
        | refine wpList_make_full _ rfl _ _ 29 rfl 0 24 i2 (.int .u64 0) 1 Try.underlying29 HI.out.2.1.1 HI.out.2.1.2.1 HI.out.2.1.2.2.1 .i64 .i64 _ _ (n + 1) rfl rfl rfl rfl (by rw [HI.out.2.1.2.2.2]; omega) (by unfold maxLen; omega) (Nat.zero_le _) ?_; intro w13 hown2 hgr2
        | refine wpList_make_full _ rfl _ _ 30 rfl 0 3 i3 (.int .i64 0) 1 Try.underlying30 HI.out.2.2.1 HI.out.2.2.2.1 HI.out.2.2.2.2.1 .i64 .i64 _ _ (n + 1) rfl rfl rfl rfl (by rw [HI.out.2.2.2.2.2]; omega) (by unfold maxLen; omega) (Nat.zero_le _) ?_; intro w14 hown3 hgr3)
      have l4 : w11.heap.size < w12.heap.size := (hown1.lt _ rfl).2
      have l5 : w12.heap.size < w13.heap.size := (hown2.lt _ rfl).2
      have H0 : Hid (Base w4 w14 ai n X S F G1 G2 G3 w11.heap.size w12.heap.size w13.heap.size (· < 0) fq) :=
        have hgg := grown_tr hgr1 (grown_tr hgr2 hgr3)
        ⟨grown_tr HG11.out hgg, HR4.out.kept (grown_tr HG11.out hgg), fun b off e h0 => by have h1 := HAI.out b off e h0; have h2 := Hg1.out; have h3 := HG11.out.size; omega,
          (HT3.out.2.1.grow hgg).congr (fun j h _ => ⟨h, rfl⟩), (HT3.out.2.2.1.grow hgg).congr (fun j h _ => ⟨h, rfl⟩), (HT3.out.2.2.2.grow hgg).congr (fun j h _ => ⟨h, rfl⟩),
          ((Part.made (f := fun _ => .int .i64 0) hown1).grow (grown_tr hgr2 hgr3)).congr (fun j _ h => by omega), ((Part.made (f := fun _ => .int .i64 0) hown2).grow hgr3).congr (fun j _ h => by omega), (Part.made (f := fun _ => .int .i64 0) hown3).congr (fun j _ h => by omega),
          HG11.out.size, ⟨lG1, lG2, lG3⟩, ⟨l4, l5⟩⟩
      clear hown1 hown2 hown3 hgr1 hgr2 hgr3 lG1 lG2 lG3 HT3 HG11 HAI
      generalize w11.heap.size = G4 at *
      generalize w12.heap.size = G5 at *
      generalize w13.heap.size = G6 at *
      go_loopw [19] (fun i wr => ∃ (k : Nat), k ≤ n ∧ i = .int .i64 k ∧ Base w4 wr ai n X S F G1 G2 G3 G4 G5 G6 (· < k) fq) (fun i _ => n - (intOf i).toNat)
      case atStart => exact ⟨0, Nat.zero_le _, rfl, H0.out⟩
      case round =>
        obtain ⟨k, hk, rfl, hT⟩ := hrel
        have HB := hid hT
        clear hT H0
        by_cases hlt : k < n
        · obtain ⟨b, off, rfl, c0, c1⟩ := HB.out.rd k hlt
          have m0 := HB.out.aib b off rfl (by omega)
          have m1 : b ≠ G4 := by omega
          have m2 : b ≠ G5 := by omega
          have m3 : b ≠ G6 := by omega
          have n12 : G4 ≠ G5 := by omega
          have n13 : G4 ≠ G6 := by omega
          have n23 : G5 ≠ G6 := by omega
          obtain ⟨u1, hu1⟩ := HB.out.h1.some (j := k) (by omega)
          obtain ⟨u2, hu2⟩ := HB.out.h2.some (j := k) (by omega)
          obtain ⟨u3, hu3⟩ := HB.out.h3.some (j := k) (by omega)
          have z1 := HB.out.h1.frozen
          have z2 := HB.out.h2.frozen
          have z3 := HB.out.h3.frozen
          have j1 : (k : Int) < (n : Int) + 1 := by omega
          have j2 : (k : Int) < (n : Int) := by omega
          obtain ⟨f1, f2, f3⟩ := Hfq.out k hlt
          have HN : Hid (Base w4 _ _ n X S F G1 G2 G3 G4 G5 G6 (· < k + 1) fq) := HB.out.put k (X k) (S k) ((k : Int) + 1) f1.symm f2.symm f3.symm (fun j _ _ _ => by omega)
          clear f1 f2 f3
          generalize X k = x at *
          generalize S k = s at *
          go_wp2_with fail
          go_roundw
          case rel => exact ⟨k + 1, by omega, by go_num, HN.out⟩
          case measure => simp [intOf]; omega
        · obtain rfl : n = k := by omega
          clear hk hlt hb h2
          obtain ⟨wb, hwb⟩ : ∃ wb, wb = wr := ⟨_, rfl⟩
          go_wp2_with fail
          rw [← hwb] at HB
          go_loopw [20, 21] (fun u p wr => ∃ m : Nat, p = .int .i64 (anc n m) ∧ Up wb wr n m u ∧ ∀ j, j < m → 0 < anc n j) (fun _ p _ => (intOf p).toNat)
          case atStart => exact ⟨0, rfl, ⟨by rw [hwb]; exact World.grownBy.refl _ _, ⟨rfl, .inl ⟨rfl, rfl⟩⟩, fun g hg => by simp [Value.ownBlock] at hg⟩, fun j hj => by omega⟩
          case round =>
            obtain ⟨m, rfl, hU, hpos⟩ := hrel
            have HU := hid hU
            have hmn := anc_add n m hpos
            have Hpos := hid hpos
            clear hU hpos
            have Hnx : Hid (anc n (m + 1) = (anc n m - 1) / 2) := rfl
            by_cases hp0 : anc n m = 0
            · have Hp0 := hid hp0
              generalize hp : anc n m = p at *
              subst hp0
              go_wp2_with (first
                | (at_builtin; refine wpList_append_lies _ (by rfl) (.tmp 158) (.tmp 160) 30 (by rfl) 0 3 i3 (.int .i64 0) 1 8 Try.underlying30 HI.out.2.2.1 HI.out.2.2.2.1 HI.out.2.2.2.2.1 HI.out.2.2.2.2.2 (by rfl) (by omega) u20 m ((List.range m).map fun j => .int .i64 (anc n j)) (by rfl) (by exact HU.out.2.1.alloc _) ⟨wr.heap.size, 0, none⟩ 1 1 [.int .i64 0] (by rfl) (by rfl) (World.news_of_block (cs := #[.int .i64 0]) (by exact heap_alloc_new wr _)) (by intro u hu; simp at hu; subst hu; rfl) (by omega) (by unfold maxLen; omega) (by omega) (Nat.zero_le _) _ (by rfl) ?_; intro gu capu w15 hownu hgru hatu hltu)
                | (at_make; refine wpList_make_full _ rfl _ _ 30 rfl 0 3 i3 (.int .i64 0) 1 Try.underlying30 HI.out.2.2.1 HI.out.2.2.2.1 HI.out.2.2.2.2.1 .i64 .i64 _ _ (m + 1) rfl rfl rfl rfl (by rw [HI.out.2.2.2.2.2]; omega) (by unfold maxLen; omega) (Nat.zero_le _) ?_; intro w16 hownd hgrd))
              have HUp : Hid (Up wb w15 n (m + 1) (.slice (some ⟨gu, 0, none⟩) (m + 1) capu)) := HU.out.step hgru (by rw [hp]; exact hownu) (by simpa using hatu)
              have hgd : gu < w15.heap.size := hltu
              have hgd2 := hgrd
              have H0 : Hid (w15.grownBy w16 none ∧ Part w16 3 w15.heap.size (m + 1) (· < 0) (fun j => .int .i64 (anc n (m - j)))) := ⟨hgrd, (Part.made (f := fun _ => .int .i64 0) hownd).congr (fun j _ h => by omega)⟩
              clear hgd2 hownd hgrd hownu hgru hatu hltu HU Hnx Hp0
              obtain ⟨gd, hgdd⟩ : ∃ gd, gd = w15.heap.size := ⟨_, rfl⟩
              rw [← hgdd] at H0 hgd ⊢
              have Hgd := hid (And.intro hgdd hp)
              clear hgdd hp
              have hmn' : m ≤ n := by omega
              clear hmn
              go_loopw [24] (fun i wr => ∃ (k : Nat), k ≤ m + 1 ∧ i = .int .i64 k ∧ w15.grownBy wr none ∧ Part wr 3 gd (m + 1) (· < k) (fun j => .int .i64 (anc n (m - j)))) (fun i _ => m + 1 - (intOf i).toNat)
              case atStart => exact ⟨0, Nat.zero_le _, rfl, H0.out⟩
              case round =>
                obtain ⟨k, hk, rfl, hT⟩ := hrel
                have HT := hid hT
                clear hT H0
                by_cases hlt : k ≤ m
                · obtain ⟨d, hd⟩ : ∃ d, d = m - k := ⟨_, rfl⟩
                  have c0 := HT.out.1.cell (HUp.out.cell (j := d) (by omega)) (by simp)
                  have hdi : (m : Int) - (k : Int) = (d : Int) := by omega
                  have hdm : (d : Int) < (m : Int) + 1 := by omega
                  have hkm : (k : Int) < (m : Int) + 1 := by omega
                  have hkm' : (k : Int) ≤ (m : Int) := by omega
                  have ng : gu ≠ gd := by omega
                  obtain ⟨u1, hu1⟩ := HT.out.2.some (j := k) (by omega)
                  have z1 := HT.out.2.frozen
                  have HN : Hid (w15.grownBy (wr.setCell ⟨gd, k, none⟩ (.int .i64 (anc n d))) none ∧ Part (wr.setCell ⟨gd, k, none⟩ (.int .i64 (anc n d))) 3 gd (m + 1) (· < k + 1) (fun j => .int .i64 (anc n (m - j)))) :=
                    ⟨grown_set HT.out.1 (by rw [← Hgd.out.1]; exact Nat.le_refl _) _, HT.out.2.set k _ (fun _ => by rw [hd]) (fun j _ _ _ => ⟨by omega, rfl⟩)⟩
                  clear hd
                  generalize anc n d = q at *
                  go_wp2_with fail
                  go_roundw
                  case rel => exact ⟨k + 1, by omega, by go_num, HN.out⟩
                  case measure => simp [intOf]; omega
                · obtain rfl : k = m + 1 := by omega
                  have hmk : ¬ (((m + 1 : Nat) : Int) ≤ (m : Int)) := by omega
                  have hmk' : decide (((m + 1 : Nat) : Int) ≤ (m : Int)) = false := decide_eq_false hmk
                  have HF2 : Hid (HeapE n fq ∧ ∀ i, i < n → oke (fq i)) := by
                    refine ⟨fun i h1 h2 => ?_, fun i hi => ?_⟩
                    · unfold eless
                      rw [(Hfq.out i h2).1, (Hfq.out i h2).2.1, (Hfq.out ((i - 1) / 2) (by omega)).1, (Hfq.out ((i - 1) / 2) (by omega)).2.1]
                      exact HH.out i h1 h2
                    · unfold oke; rw [(Hfq.out i hi).1]; exact HX.out i hi
                  have Hx : Hid (oke x) := by show okf x.tm; rw [← HF.out.1]; exact Hxt.out
                  have HL : Hid (∀ j, 1 ≤ j → j ≤ m → anc n j < n) := fun j h1 h2 => by
                    have h3 := anc_lt (Hpos.out (j - 1) (by omega)); rw [Nat.sub_add_cancel h1] at h3
                    have h4 := anc_le n (j - 1); omega
                  have HP : Hid (∀ j, 1 ≤ j → j ≤ m → less xt xs (X (anc n j)) (S (anc n j)) = decide (j ≤ r)) := fun j h1 h2 => by
                    have h3 := path_less Hx.out HF2.out.2 HF2.out.1 HS.out j h1 (Hpos.out (j - 1) (by omega))
                    have h4 := HL.out j h1 h2
                    rw [← h3]; unfold eless; rw [(Hfq.out _ h4).1, (Hfq.out _ h4).2.1, ← HF.out.1]
                  have hrm : r ≤ m := by
                    rcases Nat.eq_zero_or_pos r with h0 | h0
                    · omega
                    · have h1 := (HS.out.1 r h0 (Nat.le_refl _)).2
                      rcases Nat.lt_or_ge (r - 1) m with h2 | h2
                      · omega
                      · have h3 := anc_mono n m (r - 1) h2
                        have h4 := Hgd.out.2
                        omega
                  go_wp2_with fail
                  have hgdwb : wb.heap.size ≤ gd := by rw [Hgd.out.1]; exact HUp.out.1.size
                  have hG6 : G6 < wb.heap.size := HB.out.h3.lt
                  obtain ⟨wd, hwd⟩ : ∃ wd, wd = wr.alloc (.cells #[.float .f64 xt, .int .u64 xs] 32 (0, 0)) := ⟨_, rfl⟩
                  rw [← hwd]
                  have hgw : wr.grownBy wd none := by rw [hwd]; exact World.grownBy_alloc _ _ none
                  have HB2 := hid (HB.out.grow (grown_tr HUp.out.1 (grown_tr HT.out.1 hgw)))
                  have HD : Hid (Part wd 3 gd (m + 1) (fun _ => True) (fun j => .int .i64 (anc n (m - j)))) := (HT.out.2.grow hgw).congr (fun j h _ => ⟨h, rfl⟩)
                  have p0 : wd.cell? ⟨wr.heap.size, 0, none⟩ = some (.float .f64 xt) := by rw [hwd]; simp
                  have p1 : wd.cell? ⟨wr.heap.size, 1, none⟩ = some (.int .u64 xs) := by rw [hwd]; simp
                  have hlG : gd ≠ G4 ∧ gd ≠ G5 ∧ gd ≠ G6 := ⟨by omega, by omega, by omega⟩
                  have HG := hid hlG
                  generalize wr.heap.size = px at *
                  have Hp := hid (And.intro p0 p1)
                  clear hwd hgw HT HUp HB hlG p0 p1 hwb hgdwb hG6 hmk hmk' hk hlt hgd
                  go_loopw [26, 27] (fun l i wr => ∃ (k : Nat), k ≤ m ∧ i = .int .i64 k ∧ l = .int .i64 ((k - (m - r) : Nat) : Int) ∧ wd.grownBy wr none) (fun _ i _ => m - (intOf i).toNat)
                  case atStart => exact ⟨0, Nat.zero_le _, rfl, by rw [Nat.zero_sub]; rfl, World.grownBy.refl _ _⟩
                  case round =>
                    obtain ⟨k, hk, rfl, rfl, hT⟩ := hrel
                    have HT := hid hT
                    clear hT
                    by_cases hlt : k < m
                    · obtain ⟨j, hj⟩ : ∃ j, j = m - k := ⟨_, rfl⟩
                      have hq := HL.out j (by omega) (by omega)
                      have hpl := HP.out j (by omega) (by omega)
                      have d0 := (HD.out.grow HT.out).cell (j := k) (by omega) trivial
                      obtain ⟨b, off, rfl, c0, c1⟩ := (HB2.out.rd.kept HT.out) (anc n j) hq
                      rw [← hj] at d0
                      have p0 := HT.out.cell Hp.out.1 (by simp)
                      have p1 := HT.out.cell Hp.out.2 (by simp)
                      obtain ⟨l, hl⟩ : ∃ l, l = k - (m - r) := ⟨_, rfl⟩
                      rw [← hl]
                      have hl65 : l ≤ m := by omega
                      generalize anc n j = a at *
                      have j1 : (k : Int) < (m : Int) := by omega
                      have j2 : (k : Int) < (m : Int) + 1 := by omega
                      have j3 : (a : Int) < (n : Int) := by omega
                      have j4 : decide ((k : Int) < (m : Int)) = true := decide_eq_true j1
                      have Hl := hid (And.intro hl (And.intro hj hpl))
                      clear hl hj hpl
                      generalize X a = x' at *
                      generalize S a = s' at *
                      go_wp2_with fail
                      go_region_held3 (fun w' => w'.cell? ⟨px, 0, none⟩ = some (.float .f64 xt) ∧ w'.cell? ⟨px, 1, none⟩ = some (.int .u64 xs) ∧ w'.cell? ⟨gd, k, none⟩ = some (.int .i64 a) ∧ w'.cell? ⟨b, off + a * 2, none⟩ = some (.float .f64 x') ∧ w'.cell? ⟨b, off + a * 2 + 1, none⟩ = some (.int .u64 s')) (go_keep)
                        ((go_at_call 15; refine (keyLess _ xt x' xs s').mono ?_; rintro e w5 ⟨rfl, hg5⟩; have k0 := hg5.cell (a := ⟨px, 0, none⟩) (by simpa using p0) (by simp); have k1 := hg5.cell (a := ⟨px, 1, none⟩) (by simpa using p1) (by simp); have k2 := hg5.cell (a := ⟨gd, k, none⟩) (by simpa using d0) (by simp); have k3 := hg5.cell (a := ⟨b, off + a * 2, none⟩) (by simpa using c0) (by simp); have k4 := hg5.cell (a := ⟨b, off + a * 2 + 1, none⟩) (by simpa using c1) (by simp); have HG5 := hid hg5; clear hg5))
                      have HG6 : Hid (wd.grownBy w5 none) := World.grownBy.trans (show wd.grownBy wr.drew none from ⟨HT.out.os, HT.out.tape, HT.out.output, HT.out.size, HT.out.block⟩) HG5.out
                      clear k0 k1 k2 k3 k4 p0 p1 d0 c0 c1
                      rw [Hl.out.2.2]
                      by_cases hjr : j ≤ r
                      · rw [decide_eq_true hjr]
                        go_wp2_with fail
                        go_roundw
                        case rel => exact ⟨k + 1, by omega, by go_num, by have h1 := Hl.out.1; have h2 := Hl.out.2.1; rw [show k + 1 - (m - r) = l + 1 by omega]; go_num, HG6.out⟩
                        case measure => simp [intOf]; omega
                      · rw [decide_eq_false hjr]
                        go_wp2_with fail
                        go_roundw
                        case rel => exact ⟨k + 1, by omega, by go_num, by have h1 := Hl.out.1; have h2 := Hl.out.2.1; rw [show k + 1 - (m - r) = l by omega], HG6.out⟩
                        case measure => simp [intOf]; omega
                    · obtain rfl : m = k := by omega
                      have hr : m - (m - r) = r := by omega
                      rw [hr]
                      obtain ⟨sl, hsl⟩ : ∃ sl, sl = m - r := ⟨_, rfl⟩
                      have hsl' : (m : Int) - (r : Int) = (sl : Int) := by omega
                      have hmm : decide ((m : Int) < (m : Int)) = false := decide_eq_false (by omega)
                      have H0 : Hid (Base w4 wr ai n X S F G1 G2 G3 G4 G5 G6 (PP n m r sl) F ∧ Part wr 3 gd (m + 1) (fun _ => True) (fun j => .int .i64 (anc n (m - j)))) := by
                        refine ⟨(HB2.out.grow HT.out).recast (fun q hq hp => ?_), HD.out.grow HT.out⟩
                        rcases hp with ⟨h1, h2⟩ | ⟨j, h1, h2, h3⟩
                        · exact ⟨h1, by rw [← HF.out.2, upf_off fq n x r q h2]⟩
                        · omega
                      have Hsl := hid hsl
                      have hslm : sl ≤ m := by omega
                      clear HB2 HD hk hlt Hp hsl hr
                      go_wp2_with fail
                      go_loopw [29, 30, 31] (fun i _ _ wr => ∃ (k : Nat), sl ≤ k ∧ k ≤ m + 1 ∧ i = .int .i64 k ∧ Base w4 wr ai n X S F G1 G2 G3 G4 G5 G6 (PP n m r k) F ∧ Part wr 3 gd (m + 1) (fun _ => True) (fun j => .int .i64 (anc n (m - j)))) (fun i _ _ _ => m + 1 - (intOf i).toNat)
                      case atStart => exact ⟨sl, Nat.le_refl _, by omega, rfl, H0.out⟩
                      case round =>
                        obtain ⟨k, hks, hk, rfl, hT⟩ := hrel
                        have HB := hid hT
                        clear hT H0
                        by_cases hlt : k ≤ m
                        · obtain ⟨j, hj⟩ : ∃ j, j = m - k := ⟨_, rfl⟩
                          have hjr : j ≤ r := by have := Hsl.out; omega
                          have d0 := HB.out.2.cell (j := k) (by omega) trivial
                          rw [← hj] at d0
                          have hle := anc_le n j
                          obtain ⟨u1, hu1⟩ := HB.out.1.h1.some (j := anc n j) (by omega)
                          obtain ⟨u2, hu2⟩ := HB.out.1.h2.some (j := anc n j) (by omega)
                          obtain ⟨u3, hu3⟩ := HB.out.1.h3.some (j := anc n j) (by omega)
                          have z1 := HB.out.1.h1.frozen
                          have z2 := HB.out.1.h2.frozen
                          have z3 := HB.out.1.h3.frozen
                          obtain ⟨l3, l4⟩ := HB.out.1.l2
                          obtain ⟨l6, l7, l8⟩ := HG.out
                          have n12 : G4 ≠ G5 := by omega
                          have n13 : G4 ≠ G6 := by omega
                          have n23 : G5 ≠ G6 := by omega
                          have j1 : (k : Int) ≤ (m : Int) := by omega
                          have j2 : (k : Int) < (m : Int) + 1 := by omega
                          have j3 : ((anc n j : Nat) : Int) < (n : Int) + 1 := by omega
                          have HN : ∀ (x' : Nat) (s' t' : Int), x' = (F (anc n j)).tm → s' = (F (anc n j)).seq → t' = (F (anc n j)).tag →
                              Hid (Base w4 (((wr.setCell ⟨G4, anc n j, none⟩ (.float .f64 x')).setCell ⟨G5, anc n j, none⟩ (.int .u64 s')).setCell ⟨G6, anc n j, none⟩ (.int .i64 t')) ai n X S F G1 G2 G3 G4 G5 G6 (PP n m r (k + 1)) F ∧ Part (((wr.setCell ⟨G4, anc n j, none⟩ (.float .f64 x')).setCell ⟨G5, anc n j, none⟩ (.int .u64 s')).setCell ⟨G6, anc n j, none⟩ (.int .i64 t')) 3 gd (m + 1) (fun _ => True) (fun j => .int .i64 (anc n (m - j)))) :=
                            fun x' s' t' e1 e2 e3 => ⟨HB.out.1.put (anc n j) x' s' t' e1 e2 e3 (fun q hq hne hp => by
                              rcases hp with h1 | ⟨i, h1, h2, h3⟩
                              · exact .inl h1
                              · refine .inr ⟨i, h1, ?_, h3⟩
                                rcases Nat.lt_or_ge (m - i) k with h4 | h4
                                · exact h4
                                · exfalso; apply hne; rw [h3]; congr 1; omega), ((HB.out.2.other (by exact l6) _).other (by exact l7) _).other (by exact l8) _⟩
                          by_cases hks' : k = sl
                          · have hjr' : j = r := by have := Hsl.out; omega
                            have hFa : F (anc n j) = x := by rw [← HF.out.2, hjr', upf_self]
                            rw [hFa] at HN
                            have HN' := HN xt xs ((n : Int) + 1) (by rw [← HF.out.1]) (by rw [← HF.out.1]) (by rw [← HF.out.1])
                            have e0 : decide ((k : Int) = (sl : Int)) = true := decide_eq_true (by omega)
                            clear HN hj hFa
                            generalize anc n j = a at *
                            subst hks'
                            go_wp2_with fail
                            go_roundw
                            case rel => exact ⟨k + 1, by omega, by omega, by go_num, HN'.out⟩
                            case measure => simp [intOf]; omega
                          · have hjr' : j < r := by have := Hsl.out; omega
                            have hFa : F (anc n j) = fq (anc n (j + 1)) := by rw [← HF.out.2, upf_path fq n x r j hjr' HS.out.pos]
                            have ha' := HL.out (j + 1) (by omega) (by omega)
                            obtain ⟨f1, f2, f3⟩ := Hfq.out (anc n (j + 1)) ha'
                            rw [hFa, f1, f2, f3] at HN
                            have HN' := HN _ _ _ rfl rfl rfl
                            obtain ⟨p, hp⟩ : ∃ p, p = k - 1 := ⟨_, rfl⟩
                            have d1 := HB.out.2.cell (j := p) (by omega) trivial
                            rw [show m - p = j + 1 by omega] at d1
                            obtain ⟨b, off, hai, c0, c1⟩ := HB.out.1.rd (anc n (j + 1)) ha'
                            have m0 := HB.out.1.aib b off hai (by omega)
                            have q1 : b ≠ G4 := by omega
                            have q2 : b ≠ G5 := by omega
                            have q3 : b ≠ G6 := by omega
                            have e0 : ¬ (k : Int) = (sl : Int) := by omega
                            have e1 : (k : Int) - 1 = (p : Int) := by omega
                            have e2 : (p : Int) < (m : Int) + 1 := by omega
                            have e3 : ((anc n (j + 1) : Nat) : Int) < (n : Int) := by omega
                            clear HN hj hFa f1 f2 f3 hp
                            generalize anc n (j + 1) = a' at *
                            generalize anc n j = a at *
                            generalize X a' = x' at *
                            generalize S a' = s' at *
                            subst hai
                            go_wp2_with fail
                            go_roundw
                            case rel => exact ⟨k + 1, by omega, by omega, by go_num, HN'.out⟩
                            case measure => simp [intOf]; omega
                        · obtain rfl : k = m + 1 := by omega
                          have hmk : ¬ (((m + 1 : Nat) : Int) ≤ (m : Int)) := by omega
                          have hmk' : decide (((m + 1 : Nat) : Int) ≤ (m : Int)) = false := decide_eq_false hmk
                          have HE : Hid (Base w4 wr ai n X S F G1 G2 G3 G4 G5 G6 (fun _ => True) F) := HB.out.1.recast (fun q hq _ => ⟨by
                            by_cases h : ∃ j, j ≤ r ∧ q = anc n j
                            · obtain ⟨j, h1, h2⟩ := h; exact .inr ⟨j, h1, by omega, h2⟩
                            · have h' : ∀ j, j ≤ r → q ≠ anc n j := fun j hj e => h ⟨j, hj, e⟩
                              have h0 : q ≠ n := h' 0 (Nat.zero_le _)
                              exact .inl ⟨by omega, h'⟩, rfl⟩)
                          have HO : Hid (∀ q, q < n + 1 → oke (F q)) := fun q hq => by rw [← HF.out.2]; exact upf_ok HS.out Hx.out HF2.out.2 q hq
                          obtain ⟨we, hwe⟩ : ∃ we, we = wr := ⟨_, rfl⟩
                          rw [← hwe] at HE
                          have Hwe := hid hwe
                          clear hwe
                          clear HB HF HF2 HS Hfq HH HX HP HL Hx Hsl HG Hpos Hgd hks hk hlt hslm hsl'
                          go_wp2_with fail
                          go_loopw [32] (fun i wr => ∃ (k : Nat), k ≤ n + 1 ∧ i = .int .i64 k ∧ ∃ q, wr = we.drewN q) (fun i _ => n + 1 - (intOf i).toNat)
                          case atStart => exact ⟨0, Nat.zero_le _, rfl, 0, Hwe.out.symm⟩
                          case round =>
                            obtain ⟨k, hk, rfl, q, rfl⟩ := hrel
                            by_cases hlt : k ≤ n
                            · have a1 := HE.out.g1.cell (j := k) (by omega) trivial
                              have a2 := HE.out.g2.cell (j := k) (by omega) trivial
                              have a3 := HE.out.g3.cell (j := k) (by omega) trivial
                              have b1 := HE.out.h1.cell (j := k) (by omega) trivial
                              have b2 := HE.out.h2.cell (j := k) (by omega) trivial
                              have b3 := HE.out.h3.cell (j := k) (by omega) trivial
                              have o1 : (FloatKind.f64.format.order (F k).tm (F k).tm != some .eq) = false := by have := HO.out k (by omega); simpa [oke, okf, ford] using this
                              have j1 : (k : Int) < (n : Int) + 1 := by omega
                              have j2 : (k : Int) ≤ (n : Int) := by omega
                              generalize (F k).tm = t1 at *
                              generalize (F k).seq = t2 at *
                              generalize (F k).tag = t3 at *
                              go_wp2_with fail
                              go_quiet (fail)
                              go_wp2_with fail
                              go_roundw
                              case rel => exact ⟨k + 1, by omega, by go_num, _, rfl⟩
                              case measure => simp [intOf]; omega
                            · obtain rfl : k = n + 1 := by omega
                              have hnn : ¬ (((n + 1 : Nat) : Int) ≤ (n : Int)) := by omega
                              have hnn' : decide (((n + 1 : Nat) : Int) ≤ (n : Int)) = false := decide_eq_false hnn
                              go_wp2_with fail
                              go_ret
                              exact ⟨rfl, grown_tr (grown_tr HG4.out HE.out.old) ⟨rfl, rfl, rfl, Nat.le_refl _, fun _ _ _ => rfl⟩⟩
            · generalize hp : anc n m = p at *
              have hp1 : 0 < p := by omega
              have Hnx' : Hid (((p : Int) - 1).tdiv 2 = ((anc n (m + 1) : Nat) : Int)) := by
                show _ = _; rw [Hnx.out, Int.tdiv_eq_ediv_of_nonneg (by omega)]; omega
              generalize hq : anc n (m + 1) = q at *
              have hpi : ((p : Int) - 1).tdiv 2 = (q : Int) := Hnx'.out
              have hpi' : ((p : Int) - 1) / 2 = (q : Int) := by have := Hnx.out; omega
              have Hpq := hid (And.intro hp hq)
              clear hp hq
              go_wp2_with (at_builtin; refine wpList_append_lies _ (by rfl) (.tmp 158) (.tmp 160) 30 (by rfl) 0 3 i3 (.int .i64 0) 1 8 Try.underlying30 HI.out.2.2.1 HI.out.2.2.2.1 HI.out.2.2.2.2.1 HI.out.2.2.2.2.2 (by rfl) (by omega) u20 m ((List.range m).map fun j => .int .i64 (anc n j)) (by rfl) (by exact HU.out.2.1.alloc _) ⟨wr.heap.size, 0, none⟩ 1 1 [.int .i64 p] (by rfl) (by rfl) (World.news_of_block (cs := #[.int .i64 p]) (by exact heap_alloc_new wr _)) (by intro u hu; simp at hu; subst hu; rfl) (by omega) (by unfold maxLen; omega) (by omega) (Nat.zero_le _) _ (by rfl) ?_; intro gu capu w15 hownu hgru hatu hltu)
              have HUp : Hid (Up wb w15 n (m + 1) (.slice (some ⟨gu, 0, none⟩) (m + 1) capu)) := HU.out.step hgru (by rw [Hpq.out.1]; exact hownu) (by simpa using hatu)
              clear hownu hgru hatu hltu
              go_roundw
              case rel => exact ⟨m + 1, by rw [Hpq.out.2], HUp.out, fun j hj => by
                rcases Nat.lt_or_ge j m with h | h
                · exact Hpos.out j h
                · obtain rfl : j = m := by omega
                  rw [Hpq.out.1]; omega⟩
              case measure => simp [intOf]; have := Hnx.out; omega
end Go.Proofs.Qxb6606005a.Hp
