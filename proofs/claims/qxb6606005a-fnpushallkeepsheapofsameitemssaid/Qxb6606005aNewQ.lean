import Derived.Test.Qxb6606005aItems
namespace Go.Proofs.Qxb6606005a.Hp
open Go.RowKit
set_option maxRecDepth 100000
attribute [local go_sem] run_store_float

/-- the slice at ao reads f 0 .. f (n-1), one cell each -/
def Rd1 (w : World) (ao : Option Addr) (n : Nat) (f : Nat → Value) : Prop :=
  ∀ j, j < n → ∃ b off, ao = some ⟨b, off, none⟩ ∧ w.cell? ⟨b, off + j, none⟩ = some (f j)
theorem Rd1.kept {w w' : World} {ao : Option Addr} {n : Nat} {f : Nat → Value} (h : Rd1 w ao n f) (hg : w.grownBy w' none) : Rd1 w' ao n f := fun j hj => by
  obtain ⟨b, off, h1, h2⟩ := h j hj; exact ⟨b, off, h1, hg.cell h2 (by simp)⟩

/-- a queue in the making: the first k entries are in -/
structure QuP (w0 w : World) (L g n k : Nat) (f : Nat → Ent) : Prop where
  hdr : w.heap[L]? = some (.cells #[.slice (some ⟨g, 0, none⟩) n n] 51 (0, 0))
  row : ∃ cs : List Value, w.ownsRow 0 64 3 (.slice (some ⟨g, 0, none⟩) n n) n cs ∧
    ∀ i, i < k → cs[i * 3]? = some (.float .f64 (f i).tm) ∧ cs[i * 3 + 1]? = some (.int .u64 (f i).seq) ∧ cs[i * 3 + 2]? = some (.pointer (some ⟨(f i).b, 0, none⟩))
  ev : ∀ i, i < k → Ev w (f i).b (f i).tag
  old : w0.grownBy w none
  hL : w0.heap.size ≤ L
  hg : w0.heap.size ≤ g
  gL : g ≠ L

theorem QuP.done {w0 w : World} {L g n : Nat} {f : Nat → Ent} (h : QuP w0 w L g n n f) (hn : n ≤ maxLen) : Qu w0 w L g n n f :=
  ⟨h.hdr, h.row, h.ev, h.old, h.hL, h.hg, hn⟩
theorem QuP.ltL {w0 w : World} {L g n k : Nat} {f : Nat → Ent} (h : QuP w0 w L g n k f) : L < w.heap.size := (Array.getElem?_eq_some_iff.1 h.hdr).1
theorem QuP.ltg {w0 w : World} {L g n k : Nat} {f : Nat → Ent} (h : QuP w0 w L g n k f) : g < w.heap.size := by
  obtain ⟨cs, hcs, _⟩ := h.row
  exact (hcs.lt g rfl).2
theorem QuP.c0 {w0 w : World} {L g n k : Nat} {f : Nat → Ent} (h : QuP w0 w L g n k f) : w.cell? ⟨L, 0, none⟩ = some (.slice (some ⟨g, 0, none⟩) n n) := by simp [World.cell?, h.hdr]
theorem QuP.cur {w0 w : World} {L g n k : Nat} {f : Nat → Ent} (h : QuP w0 w L g n k f) (hk : k < n) : ∃ u v t, w.cell? ⟨g, k * 3, none⟩ = some u ∧ w.cell? ⟨g, k * 3 + 1, none⟩ = some v ∧ w.cell? ⟨g, k * 3 + 2, none⟩ = some t := by
  obtain ⟨cs, hcs, _⟩ := h.row
  have hcl : cs.length = n * 3 := hcs.1
  exact ⟨cs[k * 3], cs[k * 3 + 1], cs[k * 3 + 2], by rw [hcs.cellAt _ (by omega), List.getElem?_eq_getElem (by omega)], by rw [hcs.cellAt _ (by omega), List.getElem?_eq_getElem (by omega)], by rw [hcs.cellAt _ (by omega), List.getElem?_eq_getElem (by omega)]⟩
theorem QuP.frozen {w0 w : World} {L g n k : Nat} {f : Nat → Ent} (h : QuP w0 w L g n k f) (j : Nat) : w.frozen? ⟨g, j, none⟩ = false := by
  obtain ⟨cs, hcs, _⟩ := h.row; exact hcs.frozenAt j
theorem QuP.grow {w0 w w' : World} {L g n k : Nat} {f : Nat → Ent} (h : QuP w0 w L g n k f) (hg : w.grownBy w' none) : QuP w0 w' L g n k f := by
  obtain ⟨cs, hcs, hf⟩ := h.row
  exact ⟨by rw [hg.block L h.ltL (by simp)]; exact h.hdr, ⟨cs, hcs.kept hg (by right; simp [Value.ownBlock]), hf⟩, fun i hi => (h.ev i hi).grow hg, World.grownBy.trans h.old hg, h.hL, h.hg, h.gL⟩

theorem Ev.apart {w : World} {b g n cap : Nat} {tag : Int} {cs : List Value} (h : Ev w b tag) (hcs : w.ownsRow 0 64 3 (.slice (some ⟨g, 0, none⟩) n cap) n cs) : b ≠ g := by
  obtain ⟨arr, h1, _⟩ := h
  intro e
  rcases hcs.2 with ⟨h', _⟩ | ⟨g', cap', cur, h', _, hg, _⟩
  · simp at h'
  · simp only [Value.slice.injEq, Option.some.injEq, Addr.mk.injEq, and_true, true_and] at h'
    obtain ⟨rfl, rfl⟩ := h'
    rw [← e, h1] at hg
    simp at hg

theorem QuP.put {w0 w : World} {L g n k : Nat} {f : Nat → Ent} (h : QuP w0 w L g n k f) (hk : k < n) (x : Ent) (hx : Ev w x.b x.tag) :
    QuP w0 (((w.setCell ⟨g, k * 3, none⟩ (.float .f64 x.tm)).setCell ⟨g, k * 3 + 1, none⟩ (.int .u64 x.seq)).setCell ⟨g, k * 3 + 2, none⟩ (.pointer (some ⟨x.b, 0, none⟩))) L g n (k + 1) (fun i => if i = k then x else f i) := by
  obtain ⟨cs, hcs, hf⟩ := h.row
  have hcl : cs.length = n * 3 := hcs.1
  have hst := (((hcs.stored (k * 3) (.float .f64 x.tm)).1.stored (k * 3 + 1) (.int .u64 x.seq)).1.stored (k * 3 + 2) (.pointer (some ⟨x.b, 0, none⟩))).1
  have hh := fun j (hj : j ≠ g) => heap_set3 w g (k * 3) (k * 3 + 1) (k * 3 + 2) j (.float .f64 x.tm) (.int .u64 x.seq) (.pointer (some ⟨x.b, 0, none⟩)) hj
  have ev : ∀ (b : Nat) (tag : Int), Ev w b tag → Ev (((w.setCell ⟨g, k * 3, none⟩ (.float .f64 x.tm)).setCell ⟨g, k * 3 + 1, none⟩ (.int .u64 x.seq)).setCell ⟨g, k * 3 + 2, none⟩ (.pointer (some ⟨x.b, 0, none⟩))) b tag := fun b tag hb => by
    have h1 := hb.apart hcs
    obtain ⟨arr, h3, h4⟩ := hb
    exact ⟨arr, by rw [hh b h1]; exact h3, h4⟩
  refine ⟨by rw [hh L (Ne.symm h.gL)]; exact h.hdr, ⟨_, hst, fun i hi => ?_⟩, fun i hi => ?_, ?_, h.hL, h.hg, h.gL⟩
  · have g0 := set3_get (cs := cs) (i := k) (m := i) (.float .f64 x.tm) (.int .u64 x.seq) (.pointer (some ⟨x.b, 0, none⟩)) (by omega) 0 (by omega)
    have g1 := set3_get (cs := cs) (i := k) (m := i) (.float .f64 x.tm) (.int .u64 x.seq) (.pointer (some ⟨x.b, 0, none⟩)) (by omega) 1 (by omega)
    have g2 := set3_get (cs := cs) (i := k) (m := i) (.float .f64 x.tm) (.int .u64 x.seq) (.pointer (some ⟨x.b, 0, none⟩)) (by omega) 2 (by omega)
    rw [Nat.add_zero (i * 3)] at g0
    rw [g0, g1, g2]
    by_cases hik : i = k
    · rw [if_pos hik, if_pos hik, if_pos hik, if_pos hik]; exact ⟨rfl, rfl, rfl⟩
    · rw [if_neg hik, if_neg hik, if_neg hik, if_neg hik]; exact hf i (by omega)
  · by_cases hik : i = k
    · rw [if_pos hik]; exact ev _ _ hx
    · rw [if_neg hik]; exact ev _ _ (h.ev i (by omega))
  · exact grown_set (grown_set (grown_set h.old (by exact h.hg) _) (by exact h.hg) _) (by exact h.hg) _

theorem info51 : (Try.prog.info? 51).map (fun i => (i.zero, i.size, i.bytes)) = some (some (.slice none 0 0), 1, 24) := by kernel_rfl

theorem QuP.put' {w0 w : World} {L g n k : Nat} {f : Nat → Ent} (h : QuP w0 w L g n k f) (hk : k < n) (x : Nat) (s q : Int) (arr : Array Value) (ha : arr[10]? = some (.int .i64 q)) :
    QuP w0 ((((w.setCell ⟨g, k * 3, none⟩ (.float .f64 x)).setCell ⟨g, k * 3 + 1, none⟩ (.int .u64 s)).setCell ⟨g, k * 3 + 2, none⟩ (.pointer (some ⟨w.heap.size, 0, none⟩))).alloc (.cells arr 62 (0, 0))).drew L g n (k + 1) (fun i => if i = k then ⟨x, s, w.heap.size, q⟩ else f i) := by
  have hg := h.ltg
  have h1 := (h.grow (World.grownBy_alloc w (.cells arr 62 (0, 0)) none)).put hk ⟨x, s, w.heap.size, q⟩ ⟨arr, heap_alloc_new w _, ha⟩
  rw [World.setCell_alloc_past _ _ _ _ hg, World.setCell_alloc_past _ _ _ _ (by simpa using hg), World.setCell_alloc_past _ _ _ _ (by simpa using hg)] at h1
  exact h1.grow ⟨rfl, rfl, rfl, Nat.le_refl _, fun _ _ _ => rfl⟩

theorem keep4 {w : World} {g i j l b o : Nat} {u v t : Value} {ob : Obj} {z : Value} (h : w.cell? ⟨b, o, none⟩ = some z) (hb : b ≠ g) : ((((w.setCell ⟨g, i, none⟩ u).setCell ⟨g, j, none⟩ v).setCell ⟨g, l, none⟩ t).alloc ob).drew.cell? ⟨b, o, none⟩ = some z := by
  have hlt : b < w.heap.size := World.block_lt_of_cell? _ _ h
  rw [← h]
  refine World.cell?_of_block (w := w) (a := ⟨b, o, none⟩) ?_
  show ((((w.setCell ⟨g, i, none⟩ u).setCell ⟨g, j, none⟩ v).setCell ⟨g, l, none⟩ t).alloc ob).heap[b]? = _
  rw [Below.heap_alloc _ _ _ (by simpa using hlt)]
  exact heap_set3 w g i j l b u v t hb

set_option maxHeartbeats 1600000 in
theorem newQueue (w : World) (a b c : Option Addr) (n ca cb cc : Nat) (X : Nat → Nat) (S T : Nat → Int) (hn : n ≤ 65536)
    (hX : Rd1 w a n (fun j => .float .f64 (X j))) (hS : Rd1 w b n (fun j => .int .u64 (S j))) (hT : Rd1 w c n (fun j => .int .i64 (T j))) :
    Calls Try.prog 12 #[.slice a n ca, .slice b n cb, .slice c n cc] w fun e w' => ∃ L g f, e = .returned (.pointer (some ⟨L, 0, none⟩)) ∧ Qu w w' L g n n f ∧ ∀ i, i < n → (f i).tm = X i ∧ (f i).seq = S i ∧ (f i).tag = T i := by
  obtain ⟨i0, hi, hz0, hz1, hz2⟩ := info_parts info64
  have HR := hid (And.intro hX (And.intro hS hT))
  clear hX hS hT
  go_enter Try.func12, Try.ntmps12
  generalize hg : w.heap.size = g
  have Hg := hid hg
  clear hg
  go_wp2_with (at_make; refine wpList_make_full _ rfl _ _ 51 rfl 0 64 i0 (.agg #[.float .f64 0, .int .u64 0, .pointer none]) 3 Try.underlying51 hi hz0 hz1 .i64 .i64 _ _ n rfl rfl rfl rfl (by rw [hz2]; omega) (by unfold maxLen; omega) (Nat.zero_le _) ?_; intro w1 hown hgr; rw [Hg.out] at hown ⊢)
  clear hi hz0 hz1 hz2
  obtain ⟨L, hL⟩ : ∃ L, L = w1.heap.size := ⟨_, rfl⟩
  rw [← hL]
  have hgl : g < w1.heap.size := (hown.lt g rfl).2
  generalize hW : w1.alloc (.cells #[.slice (some ⟨g, 0, none⟩) n n] 51 (0, 0)) = W
  have H0 : Hid (QuP w W L g n 0 (fun _ => ⟨0, 0, 0, 0⟩)) := by
    subst hW hL
    exact ⟨heap_alloc_new w1 _, ⟨_, hown.alloc _, fun i hi => by omega⟩, fun i hi => by omega, grown_tr hgr (World.grownBy_alloc _ _ none), hgr.size, by rw [Hg.out]; exact Nat.le_refl _, by omega⟩
  clear hW hL hown hgr hgl
  go_loopw [14, 8] (fun i _ wr => ∃ (k : Nat) (f : Nat → Ent), k ≤ n ∧ i = .int .i64 k ∧ QuP w wr L g n k f ∧ ∀ i, i < k → (f i).tm = X i ∧ (f i).seq = S i ∧ (f i).tag = T i) (fun i _ _ => n - (intOf i).toNat)
  case atStart => exact ⟨0, _, Nat.zero_le _, rfl, H0.out, fun i hi => by omega⟩
  case round =>
    obtain ⟨k, f, hk, rfl, hQ, hf⟩ := hrel
    have HQ := hid (And.intro hQ hf)
    clear hQ hf H0
    by_cases hlt : k < n
    · obtain ⟨b1, o1, rfl, hc1⟩ := (HR.out.1.kept HQ.out.1.old) k hlt
      obtain ⟨b2, o2, rfl, hc2⟩ := (HR.out.2.1.kept HQ.out.1.old) k hlt
      obtain ⟨b3, o3, rfl, hc3⟩ := (HR.out.2.2.kept HQ.out.1.old) k hlt
      have hb := HQ.out.1.hg
      have m1 : b1 ≠ g := by
        obtain ⟨b', o', e, h0⟩ := HR.out.1 k hlt
        simp only [Option.some.injEq, Addr.mk.injEq, and_true] at e
        obtain ⟨rfl, rfl⟩ := e
        have := World.block_lt_of_cell? _ _ h0; simp only at this; omega
      have m2 : b2 ≠ g := by
        obtain ⟨b', o', e, h0⟩ := HR.out.2.1 k hlt
        simp only [Option.some.injEq, Addr.mk.injEq, and_true] at e
        obtain ⟨rfl, rfl⟩ := e
        have := World.block_lt_of_cell? _ _ h0; simp only at this; omega
      have m3 : b3 ≠ g := by
        obtain ⟨b', o', e, h0⟩ := HR.out.2.2 k hlt
        simp only [Option.some.injEq, Addr.mk.injEq, and_true] at e
        obtain ⟨rfl, rfl⟩ := e
        have := World.block_lt_of_cell? _ _ h0; simp only at this; omega
      have x1 : wr.heap.size ≠ b1 := World.new_ne _ _ hc1
      have x2 : wr.heap.size ≠ b2 := World.new_ne _ _ hc2
      have x3 : wr.heap.size ≠ b3 := World.new_ne _ _ hc3
      have y1 : b1 < wr.heap.size := World.block_lt_of_cell? _ _ hc1
      have y2 : b2 < wr.heap.size := World.block_lt_of_cell? _ _ hc2
      have y3 : b3 < wr.heap.size := World.block_lt_of_cell? _ _ hc3
      have m0 : L ≠ g := Ne.symm HQ.out.1.gL
      clear hb
      have hc0 := HQ.out.1.c0
      have hgw := HQ.out.1.ltg
      have hLw := HQ.out.1.ltL
      have x0 : wr.heap.size ≠ L := by omega
      obtain ⟨u, v, t, hu, hv, ht⟩ := HQ.out.1.cur hlt
      have fz := HQ.out.1.frozen
      have i1 : (k : Int) < (n : Int) := by omega
      dsimp only at hc1 hc2 hc3
      generalize hX : X k = x at hc1
      generalize hS : S k = s at hc2
      generalize hT : T k = q at hc3
      have HX := hid (And.intro hX (And.intro hS hT))
      clear hX hS hT
      go_wp2_with fail
      go_region_held3 (fun w' => w'.cell? ⟨L, 0, none⟩ = some (.slice (some ⟨g, 0, none⟩) n n) ∧ w'.cell? ⟨b1, o1 + k, none⟩ = some (.float .f64 x) ∧ w'.cell? ⟨b2, o2 + k, none⟩ = some (.int .u64 s) ∧ w'.cell? ⟨b3, o3 + k, none⟩ = some (.int .i64 q)) (first | with_reducible exact ⟨keep4 hc0 m0, keep4 hc1 m1, keep4 hc2 m2, keep4 hc3 m3⟩ | go_keep) (fail)
      go_wp2_with fail
      go_roundw
      case rel => exact ⟨k + 1, _, by omega, by go_num, HQ.out.1.put' hlt x s q _ rfl, fun i hi => by
        by_cases hik : i = k
        · subst hik; rw [if_pos rfl]; exact ⟨HX.out.1.symm, HX.out.2.1.symm, HX.out.2.2.symm⟩
        · rw [if_neg hik]; exact HQ.out.2 i (by omega)⟩
      case measure => simp [intOf]; omega
    · obtain rfl : n = k := by omega
      go_wp2_with fail
      go_ret
      exact ⟨L, g, f, rfl, HQ.out.1.done (by unfold maxLen; omega), HQ.out.2⟩
end Go.Proofs.Qxb6606005a.Hp
