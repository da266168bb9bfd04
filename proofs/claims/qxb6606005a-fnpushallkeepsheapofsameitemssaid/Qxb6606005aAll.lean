import Derived.Test.Qxb6606005aSift
namespace Go.Proofs.Qxb6606005a.Hp
open Go.RowKit
set_option maxRecDepth 100000
attribute [local go_sem] run_store_float

/-- behind k pushes -/
def Run (w0 w : World) (L k : Nat) (X : Nat → Nat) (S : Nat → Int) : Prop := ∃ g cap f, Qu w0 w L g k cap f ∧ Same k X S f ∧ HeapE k f

theorem Run.hdr {w0 w : World} {L k : Nat} {X : Nat → Nat} {S : Nat → Int} (h : Run w0 w L k X S) : w0.grownBy w none := by
  obtain ⟨g, cap, f, h1, _⟩ := h; exact h1.old

/-- one more push -/
theorem run_push (w0 w : World) (L k : Nat) (X : Nat → Nat) (S : Nat → Int) (hk : k ≤ 65536) (h : Run w0 w L k X S) (hX : ∀ j, j < k + 1 → okf (X j))
    (x : Nat) (s c : Int) (hx : x = X k) (hs : s = S k) (hc : c = (k : Int) + 1) :
    Calls Try.prog 13 #[.pointer (some ⟨L, 0, none⟩), .float .f64 x, .int .u64 s, .int .i64 c] w fun e w' => e = .returned (.tuple #[]) ∧ Run w0 w' L (k + 1) X S := by
  subst hx hs hc
  obtain ⟨g, cap, f, h1, h2, h3⟩ := h
  refine (zzpush w0 w L g k cap f (X k) (S k) ((k : Int) + 1) hk h1).mono ?_
  rintro e w' ⟨rfl, g', cap', r, b, h4, h5⟩
  obtain ⟨h6, h7⟩ := pushed h2 h3 hX b r h5
  exact ⟨rfl, g', cap', _, h4, h6, h7⟩

/-- is the tag t + 1 among the first k -/
def sn (F : Nat → Ent) (k t : Nat) : Bool := (List.range k).any fun i => (F i).tag == (t : Int) + 1
theorem sn_succ (F : Nat → Ent) (k t : Nat) : sn F (k + 1) t = (sn F k t || (F k).tag == (t : Int) + 1) := by
  simp [sn, List.range_succ]
theorem sn_false {F : Nat → Ent} {k t : Nat} (h : ∀ i, i < k → (F i).tag ≠ (t : Int) + 1) : sn F k t = false := by
  simp only [sn, List.any_eq_false, List.mem_range, beq_iff_eq]; exact h

theorem partQ_other {w : World} {g n k : Nat} {X : Nat → Nat} {S : Nat → Int} (h : PartQ w g n k X S) {a : Addr} (ha : g ≠ a.block) (u : Value) : PartQ (w.setCell a u) g n k X S := by
  obtain ⟨cs, hcs, hf⟩ := h; exact ⟨cs, ownsRow_setCell_other hcs (by simp [Value.ownBlock]; exact ha) u, hf⟩
theorem partQ_grow {w w' : World} {g n k : Nat} {X : Nat → Nat} {S : Nat → Int} (h : PartQ w g n k X S) (hg : w.grownBy w' none) : PartQ w' g n k X S := by
  obtain ⟨cs, hcs, hf⟩ := h; exact ⟨cs, hcs.kept hg (by right; simp [Value.ownBlock]), hf⟩

/-- what the second loop holds: who was seen, what was got -/
def Got (w wr : World) (n k G4 G5 : Nat) (F : Nat → Ent) : Prop :=
  w.grownBy wr none ∧ Part wr 4 G4 n (fun _ => True) (fun t => .bool (sn F k t)) ∧ PartQ wr G5 n k (fun j => (F j).tm) (fun j => (F j).seq)

theorem drew_grown (w : World) : w.grownBy w.drew none := ⟨rfl, rfl, rfl, Nat.le_refl _, fun _ _ _ => rfl⟩
theorem drewN_grown (w : World) (q : Nat) : w.grownBy (w.drewN q) none := ⟨rfl, rfl, rfl, Nat.le_refl _, fun _ _ _ => rfl⟩

theorem keep2 {w : World} {g i j b o : Nat} {u v z : Value} (h : w.cell? ⟨b, o, none⟩ = some z) (hb : b ≠ g) : ((w.setCell ⟨g, i, none⟩ u).setCell ⟨g, j, none⟩ v).drew.cell? ⟨b, o, none⟩ = some z := by
  rw [← h]
  refine World.cell?_of_block (w := w) (a := ⟨b, o, none⟩) ?_
  show ((w.setCell ⟨g, i, none⟩ u).setCell ⟨g, j, none⟩ v).heap[b]? = _
  rw [Below.heap_setCell _ _ _ _ hb, Below.heap_setCell _ _ _ _ hb]

/-- the least so far: item a, in the block px -/
def Least (w wr : World) (px k n : Nat) (X : Nat → Nat) (S : Nat → Int) (a : Nat) : Prop :=
  w.grownBy wr none ∧ wr.heap[px]? = some (.cells #[.float .f64 (X a), .int .u64 (S a)] 32 (0, 0)) ∧ a < n ∧ ∀ j, j < k → less (X j) (S j) (X a) (S a) = false

theorem Least.c0 {w wr : World} {px k n a : Nat} {X : Nat → Nat} {S : Nat → Int} (h : Least w wr px k n X S a) : wr.cell? ⟨px, 0, none⟩ = some (.float .f64 (X a)) ∧ wr.cell? ⟨px, 1, none⟩ = some (.int .u64 (S a)) ∧ (∀ i, wr.frozen? ⟨px, i, none⟩ = false) := by
  refine ⟨by simp [World.cell?, h.2.1], by simp [World.cell?, h.2.1], fun i => by simp [World.frozen?, h.2.1]⟩

theorem Least.keep {w wr w' : World} {px k n a : Nat} {X : Nat → Nat} {S : Nat → Int} (h : Least w wr px k n X S a) (hg : wr.grownBy w' none) (hk : less (X k) (S k) (X a) (S a) = false) : Least w w' px (k + 1) n X S a := by
  refine ⟨grown_tr h.1 hg, ?_, h.2.2.1, fun j hj => ?_⟩
  · rw [hg.block px (Array.getElem?_eq_some_iff.1 h.2.1).1 (by simp)]; exact h.2.1
  · rcases Nat.lt_or_ge j k with h' | h'
    · exact h.2.2.2 j h'
    · obtain rfl : j = k := by omega
      exact hk

theorem Least.take {w wr w' : World} {px k n a : Nat} {X : Nat → Nat} {S : Nat → Int} (h : Least w wr px k n X S a) (hg : wr.grownBy w' none) (hok : ∀ j, j < n → okf (X j)) (hkn : k < n) (hpx : w.heap.size ≤ px) (hk : less (X k) (S k) (X a) (S a) = true) :
    Least w ((w'.setCell ⟨px, 0, none⟩ (.float .f64 (X k))).setCell ⟨px, 1, none⟩ (.int .u64 (S k))) px (k + 1) n X S k := by
  have h1 : w'.heap[px]? = some (.cells #[.float .f64 (X a), .int .u64 (S a)] 32 (0, 0)) := by rw [hg.block px (Array.getElem?_eq_some_iff.1 h.2.1).1 (by simp)]; exact h.2.1
  refine ⟨grown_set (grown_set (grown_tr h.1 hg) hpx _) hpx _, ?_, hkn, fun j hj => ?_⟩
  · rw [heap_setCell_same _ px 1 _ 32 _ (heap_setCell_same w' px 0 _ 32 _ h1)]; rfl
  · rcases Nat.lt_or_ge j k with h' | h'
    · exact less_negtrans (hok j (by omega)) (hok a h.2.2.1) (hok k hkn) (h.2.2.2 j h') (less_asymm (hok k hkn) (hok a h.2.2.1) hk)
    · obtain rfl : j = k := by omega
      exact less_irrefl (hok j hkn)

set_option maxHeartbeats 6400000 in
theorem all_walk (w : World) (ao : Option Addr) (n cap : Nat) (X : Nat → Nat) (S : Nat → Int) (hR : RdQ w ao n X S) :
    Calls Try.prog 4 #[.slice ao n cap] w fun e w' => e = .returned (.bool true) ∧ w.grownBy w' none := by
  obtain ⟨i1, hi1, ha0, ha1, ha2⟩ := info_parts info4
  obtain ⟨i2, hi2, hb0, hb1, hb2⟩ := info_parts info32
  have HI := hid (And.intro (And.intro hi1 (And.intro ha0 (And.intro ha1 ha2))) (And.intro hi2 (And.intro hb0 (And.intro hb1 hb2))))
  clear hi1 ha0 ha1 ha2 hi2 hb0 hb1 hb2
  have HR := hid hR
  clear hR
  go_enter Try.func4, Try.ntmps4
  go_wp2_with fail
  refine (bytes16 _ ao n cap).mono ?_
  rintro e w1 ⟨rfl, rfl⟩
  by_cases hb : n ≤ 1048576
  case neg =>
    rw [decide_eq_false hb]
    go_wp2_with fail
    go_ret
    exact ⟨rfl, World.grownBy.refl _ _⟩
  rw [decide_eq_true hb]
  by_cases hn : n ≤ 65536
  case neg =>
    have h2 : 65536 < (n : Int) := by omega
    go_wp2_with fail
    go_ret
    exact ⟨rfl, World.grownBy.refl _ _⟩
  have h2 : ¬ 65536 < (n : Int) := by omega
  have h3 : decide ((65536 : Int) < (n : Int)) = false := decide_eq_false h2
  go_wp2_with fail
  refine (hasNaN _ ao n cap X S (by omega) HR.out).mono ?_
  rintro e w2 ⟨⟨bn, rfl, hbn⟩, q, rfl⟩
  cases bn with
  | true =>
    go_wp2_with fail
    go_ret
    exact ⟨rfl, ⟨rfl, rfl, rfl, Nat.le_refl _, fun _ _ _ => rfl⟩⟩
  | false =>
  have HX := hid (hbn rfl)
  clear hbn
  have HG2 : Hid (w1.grownBy (w1.drewN q) none) := ⟨rfl, rfl, rfl, Nat.le_refl _, fun _ _ _ => rfl⟩
  generalize w1.drewN q = w2 at *
  go_wp2_with fail
  refine (qCopy _ ao n cap X S (by omega) (HR.out.kept HG2.out)).mono ?_
  rintro e w4 ⟨ai, rfl, hr4, hg4⟩
  have HR4 := hid hr4
  have HG4 := hid (grown_tr HG2.out hg4)
  clear hr4 hg4 HG2 HR h3 hb
  go_wp2_with fail
  refine (newQueue _ none none none 0 0 0 0 X S (fun j => (j : Int) + 1) (by omega) (fun j hj => by omega) (fun j hj => by omega) (fun j hj => by omega)).mono ?_
  rintro e w9 ⟨L, gq, fq, rfl, hQ, _⟩
  have H0 : Hid (Run w4 w9 L 0 X S) := ⟨gq, 0, fq, hQ, ⟨fun i hi => by omega, fun i j hi => by omega, fun t ht => by omega⟩, fun i _ hi => by omega⟩
  clear hQ
  go_wp2_with fail
  go_loopw [5] (fun i wr => ∃ (k : Nat), k ≤ n ∧ i = .int .i64 k ∧ Run w4 wr L k X S) (fun i _ => n - (intOf i).toNat)
  case atStart => exact ⟨0, Nat.zero_le _, rfl, H0.out⟩
  case round =>
    obtain ⟨k, hk, rfl, hT⟩ := hrel
    have HT := hid hT
    clear hT H0
    by_cases hlt : k < n
    · obtain ⟨b, off, rfl, c0, c1⟩ := (HR4.out.kept HT.out.hdr) k hlt
      have j1 : (k : Int) < (n : Int) := by omega
      have HC : Hid (Run w4 wr.drew L k X S) := by obtain ⟨g, cp, f, a1, a2⟩ := HT.out; exact ⟨g, cp, f, a1.draws 1, a2⟩
      have W1 : Hid (IntKind.i64.wrap ((k : Int) + 1) = (k : Int) + 1) := by show _ = _; rw [IntKind.wrap_i64]; omega
      have HX' : Hid (∀ j, j < k + 1 → okf (X j)) := fun j hj => HX.out j (by omega)
      have HB : Hid (∀ w', Run w4 w' L (k + 1) X S → w'.cell? ⟨b, off + k * 2, none⟩ = some (.float .f64 (X k)) ∧ w'.cell? ⟨b, off + k * 2 + 1, none⟩ = some (.int .u64 (S k))) := fun w' hw => by
        obtain ⟨b', o', e, h1, h2⟩ := (HR4.out.kept hw.hdr) k hlt
        simp only [Option.some.injEq, Addr.mk.injEq, and_true] at e
        obtain ⟨rfl, rfl⟩ := e
        exact ⟨h1, h2⟩
      generalize hx : X k = x at *
      generalize hs : S k = s at *
      have Hxs := hid (And.intro hx hs)
      clear hx hs
      go_wp2_with fail
      go_region_held3 (fun w' => w'.cell? ⟨b, off + k * 2, none⟩ = some (.float .f64 x) ∧ w'.cell? ⟨b, off + k * 2 + 1, none⟩ = some (.int .u64 s)) (go_keep)
        ((go_at_call 13; refine (run_push w4 _ L k X S (by omega) (by exact HC.out) HX'.out x s _ Hxs.out.1.symm Hxs.out.2.symm (by exact W1.out)).mono ?_; rintro e w5 ⟨rfl, hr5⟩; have k0 := (HB.out w5 hr5).1; have k1 := (HB.out w5 hr5).2; have HR5 := hid hr5; clear hr5))
      clear k0 k1 c0 c1
      go_wp2_with fail
      go_roundw
      case rel => exact ⟨k + 1, by omega, by go_num, HR5.out⟩
      case measure => simp [intOf]; omega
    · obtain rfl : n = k := by omega
      obtain ⟨gq, cq, F, hQ, hS, hH⟩ := HT.out
      have HQ := hid hQ
      have HS := hid (And.intro hS hH)
      clear hQ hS hH HT hk hlt
      go_wp2_with fail
      refine (queueItems w4 _ L gq n cq F (by omega) HQ.out).mono ?_
      rintro e w11 ⟨G1, G2, G3, rfl, hT3, a1, a2, a3⟩
      have HG11 : Hid (w4.grownBy w11 none) := grown_tr HQ.out.old hT3.1
      have HT3 := hid hT3
      clear hT3 HQ a1 a2 a3
      have lG1 := HT3.out.2.1.lt
      have lG2 := HT3.out.2.2.1.lt
      have lG3 := HT3.out.2.2.2.lt
      go_wp2_with (at_make; first
        | refine wpList_make_full _ rfl _ _ 39 rfl 0 4 i1 (.bool false) 1 Try.underlying39 HI.out.1.1 HI.out.1.2.1 HI.out.1.2.2.1 .i64 .i64 _ _ n rfl rfl rfl rfl (by rw [HI.out.1.2.2.2]; omega) (by unfold maxLen; omega) (Nat.zero_le _) ?_; intro w12 hown1 hgr1
        | refine wpList_make_full _ rfl _ _ 22 rfl 0 32 i2 (.agg #[.float .f64 0, .int .u64 0]) 2 Try.underlying22 HI.out.2.1 HI.out.2.2.1 HI.out.2.2.2.1 .i64 .i64 _ _ n rfl rfl rfl rfl (by rw [HI.out.2.2.2.2]; omega) (by unfold maxLen; omega) (Nat.zero_le _) ?_; intro w13 hown2 hgr2)
      have l4 : w11.heap.size < w12.heap.size := (hown1.lt _ rfl).2
      have H0 : Hid (Got w11 w13 n 0 w11.heap.size w12.heap.size F) :=
        ⟨grown_tr hgr1 hgr2, ((Part.zeros hown1).grow hgr2).congr (fun j _ _ => ⟨trivial, rfl⟩), ⟨_, hown2, fun j hj => by omega⟩⟩
      have HAI : Hid (∀ b off, ai = some ⟨b, off, none⟩ → 0 < n → b < w11.heap.size) := fun b off e h0 => by
        obtain ⟨b', o', e', h', _⟩ := HR4.out 0 h0
        rw [e] at e'; simp only [Option.some.injEq, Addr.mk.injEq, and_true] at e'
        obtain ⟨rfl, rfl⟩ := e'
        have := World.block_lt_of_cell? _ _ h'
        have h2 := HG11.out.size
        simp only at this; omega
      clear hown1 hown2 hgr1 hgr2
      obtain ⟨G4, hG4⟩ : ∃ G4, G4 = w11.heap.size := ⟨_, rfl⟩
      rw [← hG4] at H0 l4 lG1 lG2 lG3 HAI ⊢
      generalize w12.heap.size = G5 at *
      have HG := hid hG4
      clear hG4
      go_loopw [11, 12] (fun i _ wr => ∃ (k : Nat), k ≤ n ∧ i = .int .i64 k ∧ Got w11 wr n k G4 G5 F) (fun i _ _ => n - (intOf i).toNat)
      case atStart => exact ⟨0, Nat.zero_le _, rfl, H0.out⟩
      case round =>
        obtain ⟨k, hk, rfl, hT⟩ := hrel
        have HT := hid hT
        clear hT H0
        by_cases hlt : k < n
        · obtain ⟨t, ht, e1, e2, e3⟩ := HS.out.1.own k hlt
          have a1 := (HT3.out.2.1.grow HT.out.1).cell hlt hlt
          have a2 := (HT3.out.2.2.1.grow HT.out.1).cell hlt hlt
          have a3 := (HT3.out.2.2.2.grow HT.out.1).cell hlt hlt
          rw [e2] at a1
          rw [e3] at a2
          rw [e1] at a3
          obtain ⟨b, off, hai, c0, c1⟩ := ((HR4.out.kept HG11.out).kept HT.out.1) t ht
          have m0 := HAI.out b off hai (by omega)
          have s1 : sn F k t = false := sn_false (fun i hi h => by have := HS.out.1.inj i k (by omega) hlt (by rw [h, e1]); omega)
          have b1 := HT.out.2.1.cell ht trivial
          rw [s1] at b1
          have z1 := HT.out.2.1.frozen
          have o1 : (FloatKind.f64.format.order (X t) (X t) != some .eq) = false := by have := HX.out t ht; simpa [okf, ford] using this
          have n1 : G1 ≠ G4 := by omega
          have n2 : G2 ≠ G4 := by omega
          have n3 : G3 ≠ G4 := by omega
          have n4 : G1 ≠ G5 := by omega
          have n5 : G2 ≠ G5 := by omega
          have n6 : b ≠ G4 := by omega
          have n7 : b ≠ G5 := by omega
          have n8 : G4 ≠ G5 := by omega
          have j1 : (k : Int) < (n : Int) := by omega
          have j2 : ¬ ((t : Int) + 1 < 1) := by omega
          have j3 : ¬ ((n : Int) < (t : Int) + 1) := by omega
          have j4 : (t : Int) < (n : Int) := by omega
          have j5 : decide ((t : Int) + 1 < 1) = false := decide_eq_false j2
          have j6 : decide ((n : Int) < (t : Int) + 1) = false := decide_eq_false j3
          have Htt := hid (And.intro e1 (And.intro e2 e3))
          clear e1 e2 e3 s1
          subst hai
          generalize hx : X t = x at *
          generalize hs : S t = s at *
          have Hxs := hid (And.intro hx hs)
          clear hx hs
          go_wp2_with fail
          obtain ⟨w14, hw14⟩ : ∃ w14, w14 = wr.setCell ⟨G4, t, none⟩ (.bool true) := ⟨_, rfl⟩
          rw [← hw14]
          have HT2 : Hid (w11.grownBy w14 none ∧ Part w14 4 G4 n (fun _ => True) (fun t => .bool (sn F (k + 1) t)) ∧ PartQ w14 G5 n k (fun j => (F j).tm) (fun j => (F j).seq)) := by
            rw [hw14]
            refine ⟨grown_set HT.out.1 (by rw [HG.out]; exact Nat.le_refl _) _, HT.out.2.1.set t _ (fun _ => ?_) (fun j _ hne _ => ⟨trivial, ?_⟩), partQ_other HT.out.2.2 (by exact Ne.symm n8) _⟩
            · rw [sn_succ, Htt.out.1]; simp
            · rw [sn_succ, Htt.out.1]
              have : ((t : Int) + 1 == (j : Int) + 1) = false := by simp; omega
              rw [this, Bool.or_false]
          clear a1 a2 a3 b1 c0 c1 z1 HT hw14
          have a1 := (HT3.out.2.1.grow HT2.out.1).cell hlt hlt
          have a2 := (HT3.out.2.2.1.grow HT2.out.1).cell hlt hlt
          rw [Htt.out.2.1] at a1
          rw [Htt.out.2.2] at a2
          obtain ⟨b', off', hai, c0, c1⟩ := ((HR4.out.kept HG11.out).kept HT2.out.1) t ht
          simp only [Option.some.injEq, Addr.mk.injEq, and_true] at hai
          obtain ⟨rfl, rfl⟩ := hai
          rw [Hxs.out.1] at c0
          rw [Hxs.out.2] at c1
          have W1 : IntKind.i64.wrap ((t : Int) + 1 - 1) = (t : Int) := by rw [IntKind.wrap_i64]; omega
          have W2 : (t : Int) + 1 - 1 = (t : Int) := by omega
          go_quiet (fail)
          go_wp2_with fail
          have HT4 : Hid (w11.grownBy (w14.drewN nq) none ∧ Part (w14.drewN nq) 4 G4 n (fun _ => True) (fun t => .bool (sn F (k + 1) t)) ∧ PartQ (w14.drewN nq) G5 n k (fun j => (F j).tm) (fun j => (F j).seq)) :=
            ⟨grown_tr HT2.out.1 (drewN_grown _ _), HT2.out.2.1.grow (drewN_grown _ _), partQ_grow HT2.out.2.2 (drewN_grown _ _)⟩
          have d1 : (w14.drewN nq).cell? ⟨G1, k, none⟩ = some (.float .f64 x) := (drewN_grown w14 nq).cell a1 (by simp)
          have d2 : (w14.drewN nq).cell? ⟨G2, k, none⟩ = some (.int .u64 s) := (drewN_grown w14 nq).cell a2 (by simp)
          clear a1 a2 c0 c1 HT2
          generalize w14.drewN nq = w15 at *
          obtain ⟨⟨v1, v2, f1, f2⟩, f3, f4, R1, R2⟩ := partQ_step HT4.out.2.2 hlt (w := w11) (by rw [← HG.out]; omega) HT4.out.1
          rw [Htt.out.2.1, Htt.out.2.2] at R1 R2
          have HN : Hid (Got w11 (((w15.setCell ⟨G5, k * 2, none⟩ (.float .f64 x)).setCell ⟨G5, k * 2 + 1, none⟩ (.int .u64 s)).drew) n (k + 1) G4 G5 F) :=
            ⟨grown_tr R2 (drew_grown _), ((HT4.out.2.1.other (by exact n8) _).other (by exact n8) _).grow (drew_grown _), partQ_grow R1 (drew_grown _)⟩
          clear R1 R2
          go_wp2_with fail
          go_region_held3 (fun w' => w'.cell? ⟨G1, k, none⟩ = some (.float .f64 x) ∧ w'.cell? ⟨G2, k, none⟩ = some (.int .u64 s)) (first | with_reducible exact ⟨keep2 d1 n4, keep2 d2 n5⟩ | go_keep) (fail)
          go_wp2_with fail
          go_roundw
          case rel => exact ⟨k + 1, by omega, by go_num, HN.out⟩
          case measure => simp [intOf]; omega
        · obtain rfl : n = k := by omega
          have HRG := hid (partQ_rd HT.out.2.2 (Nat.le_refl _))
          have HGw := hid (grown_tr HG11.out HT.out.1)
          clear HT HT3 HAI HG HI lG1 lG2 lG3 l4 hk hlt
          go_wp2_with fail
          refine (isHeap _ (some ⟨G5, 0, none⟩) n n (fun j => (F j).tm) (fun j => (F j).seq) (by omega) HRG.out).mono ?_
          rintro e w17 ⟨⟨bn, rfl, hbn⟩, hg17⟩
          have hbt : bn = true := hbn.2 (fun i h1 h2 => HS.out.2 i h1 h2)
          subst hbt
          have HR17 := hid (HR4.out.kept (grown_tr HGw.out hg17))
          have HRG17 := hid (HRG.out.kept hg17)
          have HG17 := hid (grown_tr HG4.out (grown_tr HGw.out hg17))
          clear hbn hg17 HRG HGw HG11 HR4
          by_cases h0 : n = 0
          · subst h0
            go_wp2_with fail
            go_ret
            exact ⟨rfl, HG17.out⟩
          · have hn0 : (0 : Int) < (n : Int) := by omega
            have hn0' : decide ((0 : Int) < (n : Int)) = true := decide_eq_true hn0
            have hn1 : decide (0 < n) = true := decide_eq_true (by omega)
            obtain ⟨b, off, hai, c0, c1⟩ := HR17.out 0 (by omega)
            rw [Nat.zero_mul, Nat.add_zero] at c0
            rw [Nat.zero_mul, Nat.add_zero] at c1
            subst hai
            go_wp2_with fail
            have H0 : Hid (Least w17 (w17.alloc (.cells #[.float .f64 (X 0), .int .u64 (S 0)] 32 (0, 0))) w17.heap.size 1 n X S 0) :=
              ⟨World.grownBy_alloc _ _ none, heap_alloc_new w17 _, by omega, fun j hj => by obtain rfl : j = 0 := by omega
                                                                                            exact less_irrefl (HX.out 0 (by omega))⟩
            obtain ⟨px, hpx⟩ : ∃ px, px = w17.heap.size := ⟨_, rfl⟩
            rw [← hpx] at H0 ⊢
            have Hpx := hid hpx
            clear hpx c0 c1
            go_loopw [14] (fun i wr => ∃ (k a : Nat), 1 ≤ k ∧ k ≤ n ∧ i = .int .i64 k ∧ Least w17 wr px k n X S a) (fun i _ => n - (intOf i).toNat)
            case atStart => exact ⟨1, 0, Nat.le_refl _, by omega, rfl, H0.out⟩
            case round =>
              obtain ⟨k, a, hk1, hk, rfl, hT⟩ := hrel
              have HT := hid hT
              clear hT H0
              by_cases hlt : k < n
              · obtain ⟨b', off', hai, c0, c1⟩ := (HR17.out.kept HT.out.1) k hlt
                simp only [Option.some.injEq, Addr.mk.injEq, and_true] at hai
                obtain ⟨rfl, rfl⟩ := hai
                have hbl : b ≠ px := by
                  obtain ⟨b', off', hai, h1, _⟩ := HR17.out k hlt
                  simp only [Option.some.injEq, Addr.mk.injEq, and_true] at hai
                  obtain ⟨rfl, rfl⟩ := hai
                  have := World.block_lt_of_cell? _ _ h1
                  have h2 := Hpx.out
                  simp only at this; omega
                obtain ⟨p0, p1, pf⟩ := HT.out.c0
                have j1 : (k : Int) < (n : Int) := by omega
                have HK : Hid (∀ w', wr.grownBy w' none → less (X k) (S k) (X a) (S a) = false → Least w17 w' px (k + 1) n X S a) := fun w' h1 h2 => HT.out.keep h1 h2
                have HM : Hid (∀ w', wr.grownBy w' none → less (X k) (S k) (X a) (S a) = true → Least w17 ((w'.setCell ⟨px, 0, none⟩ (.float .f64 (X k))).setCell ⟨px, 1, none⟩ (.int .u64 (S k))) px (k + 1) n X S k) :=
                  fun w' h1 h2 => HT.out.take h1 HX.out hlt (by rw [← Hpx.out]; exact Nat.le_refl _) h2
                generalize X k = x at *
                generalize S k = s at *
                generalize X a = y at *
                generalize S a = t at *
                go_wp2_with fail
                go_region_held3 (fun w' => w'.cell? ⟨b, off + k * 2, none⟩ = some (.float .f64 x) ∧ w'.cell? ⟨b, off + k * 2 + 1, none⟩ = some (.int .u64 s) ∧ w'.cell? ⟨px, 0, none⟩ = some (.float .f64 y) ∧ w'.cell? ⟨px, 1, none⟩ = some (.int .u64 t)) (go_keep)
                  ((go_at_call 15; refine (keyLess _ x y s t).mono ?_; rintro e w5 ⟨rfl, hg5⟩; have k0 := hg5.cell (a := ⟨b, off + k * 2, none⟩) (by simpa using c0) (by simp); have k1 := hg5.cell (a := ⟨b, off + k * 2 + 1, none⟩) (by simpa using c1) (by simp); have k2 := hg5.cell (a := ⟨px, 0, none⟩) (by simpa using p0) (by simp); have k3 := hg5.cell (a := ⟨px, 1, none⟩) (by simpa using p1) (by simp); have kf := fun i => (hg5.frozen_far ⟨px, i, none⟩ (World.block_lt_of_cell? _ ⟨px, 0, none⟩ (by simpa using p0)) (by simp)).trans (by simpa using pf i); have HG5 := hid (grown_tr (drew_grown _) hg5); clear hg5))
                cases hl : less x s y t with
                | true =>
                  have HM' := hid (HM.out w5 HG5.out hl)
                  go_wp2_with fail
                  go_roundw
                  case rel => exact ⟨k + 1, k, by omega, by omega, by go_num, HM'.out⟩
                  case measure => simp [intOf]; omega
                | false =>
                  have HK' := hid (HK.out w5 HG5.out hl)
                  go_wp2_with fail
                  go_roundw
                  case rel => exact ⟨k + 1, a, by omega, by omega, by go_num, HK'.out⟩
                  case measure => simp [intOf]; omega
              · obtain rfl : n = k := by omega
                have hnn : decide ((n : Int) < (n : Int)) = false := decide_eq_false (by omega)
                have hFa : less (X a) (S a) (F 0).tm (F 0).seq = false := by
                  obtain ⟨i, hi, e1⟩ := HS.out.1.sur a HT.out.2.2.1
                  obtain ⟨t, ht, e2, e3, e4⟩ := HS.out.1.own i hi
                  obtain rfl : t = a := by omega
                  have := root_le (HS.out.1.ok HX.out) HS.out.2 i hi
                  unfold eless at this
                  rw [e3, e4] at this; exact this
                have hFb : less (F 0).tm (F 0).seq (X a) (S a) = false := by
                  obtain ⟨t, ht, e2, e3, e4⟩ := HS.out.1.own 0 (by omega)
                  rw [e3, e4]; exact HT.out.2.2.2 t ht
                obtain ⟨g', o', hgg, c0, c1⟩ := (HRG17.out.kept HT.out.1) 0 (by omega)
                simp only [Option.some.injEq, Addr.mk.injEq, and_true] at hgg
                obtain ⟨rfl, rfl⟩ := hgg
                simp only [Nat.zero_mul, Nat.add_zero, Nat.zero_add] at c0 c1
                obtain ⟨p0, p1, pf⟩ := HT.out.c0
                have HGe := hid (grown_tr HG17.out HT.out.1)
                clear HT HS HX HR17 HRG17 HG17 HG4 pf hk hk1 hlt Hpx
                generalize X a = y at *
                generalize S a = t at *
                generalize (F 0).tm = x at *
                generalize (F 0).seq = s at *
                have hn2 : (0 : Int) < (n : Int) := by omega
                have hn3 : 0 < n := by omega
                have Hab := hid (And.intro hFa hFb)
                clear hFa hFb
                go_wp2_with fail
                go_region_held3 (fun w' => w'.cell? ⟨px, 0, none⟩ = some (.float .f64 y) ∧ w'.cell? ⟨px, 1, none⟩ = some (.int .u64 t) ∧ w'.cell? ⟨G5, 0, none⟩ = some (.float .f64 x) ∧ w'.cell? ⟨G5, 1, none⟩ = some (.int .u64 s)) (go_keep)
                  ((go_at_call 15; refine (keyLess _ _ _ _ _).mono ?_; rintro e w5 ⟨rfl, hg5⟩; (first | rw [Hab.out.1] | rw [Hab.out.2]); have k0 : w5.cell? ⟨px, 0, none⟩ = some (.float .f64 y) := hg5.cell (by first | assumption | simpa using p0) (by simp); have k1 : w5.cell? ⟨px, 1, none⟩ = some (.int .u64 t) := hg5.cell (by first | assumption | simpa using p1) (by simp); have k2 : w5.cell? ⟨G5, 0, none⟩ = some (.float .f64 x) := hg5.cell (by first | assumption | simpa using c0) (by simp); have k3 : w5.cell? ⟨G5, 1, none⟩ = some (.int .u64 s) := hg5.cell (by first | assumption | simpa using c1) (by simp); have HG5 : Hid (wr.grownBy w5 none) := (by first | exact grown_tr HG5.out hg5 | exact grown_tr (drew_grown _) hg5); clear hg5))
                go_wp2_with fail
                go_ret
                exact ⟨rfl, grown_tr HGe.out HG5.out⟩
end Go.Proofs.Qxb6606005a.Hp
