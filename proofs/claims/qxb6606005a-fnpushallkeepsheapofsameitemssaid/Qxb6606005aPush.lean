import Derived.Test.Qxb6606005aQueue
import Derived.Deep.RegionLaw
namespace Go.Proofs.Qxb6606005a.Hp
open Go.RowKit
set_option maxRecDepth 100000
attribute [local go_sem] run_store_float

theorem info64 : (Try.prog.info? 64).map (fun i => (i.zero, i.size, i.bytes)) = some (some (.agg #[.float .f64 0, .int .u64 0, .pointer none]), 3, 24) := by kernel_rfl

theorem far {w w2 : World} {o : Obj} {row : Option Nat} (hg : (w.alloc o).drew.grownBy w2 row) {k : Nat} (i : Nat) (hk : k < w.heap.size) (hne : some k ≠ row) :
    w2.cell? ⟨k, i, none⟩ = w.cell? ⟨k, i, none⟩ ∧ w2.frozen? ⟨k, i, none⟩ = w.frozen? ⟨k, i, none⟩ ∧ w2.heap[k]? = w.heap[k]? := by
  have h : w2.heap[k]? = w.heap[k]? := (hg.block k (by show k < (w.alloc o).heap.size; simp; omega) hne).trans (Below.heap_alloc w o k hk)
  exact ⟨World.cell?_of_block (w := w) (a := ⟨k, i, none⟩) h, World.frozen?_of_block (w := w) (a := ⟨k, i, none⟩) h, h⟩

theorem qu_append {w0 W1 w2 : World} {L g n cap g2 cap2 : Nat} {f : Nat → Ent} {x : Ent} {o : Obj} {cs : List Value} (h : Qu w0 W1 L g n cap f) (hx : Ev W1 x.b x.tag)
    (hcs : W1.ownsRow 0 64 3 (.slice (some ⟨g, 0, none⟩) n cap) n cs) (hf : ∀ i, i < n → cs[i * 3]? = some (.float .f64 (f i).tm) ∧ cs[i * 3 + 1]? = some (.int .u64 (f i).seq) ∧ cs[i * 3 + 2]? = some (.pointer (some ⟨(f i).b, 0, none⟩)))
    (hg : (W1.alloc o).drew.grownBy w2 (some g)) (hO : w2.ownsRow 0 64 3 (.slice (some ⟨g2, 0, none⟩) (n + 1) cap2) (n + 1) (cs ++ [.float .f64 x.tm, .int .u64 x.seq, .pointer (some ⟨x.b, 0, none⟩)]))
    (hat : some g = some g2 ∨ g2 = W1.heap.size + 1) :
    Qu w0 (w2.setCell ⟨L, 0, none⟩ (.slice (some ⟨g2, 0, none⟩) (n + 1) cap2)) L g2 (n + 1) cap2 (upf f n x 0) := by
  have hgL := h.gL
  have hltL := h.ltL
  have hhL : w2.heap[L]? = some (.cells #[.slice (some ⟨g, 0, none⟩) n cap] 51 (0, 0)) := by rw [(far hg 0 hltL (by simp; omega)).2.2]; exact h.hdr
  have hg2L : g2 ≠ L := by
    rcases hat with e | e
    · simp at e; omega
    · omega
  have hcl : cs.length = n * 3 := hcs.1
  have ev : ∀ (b : Nat) (tag : Int), Ev W1 b tag → Ev (w2.setCell ⟨L, 0, none⟩ (.slice (some ⟨g2, 0, none⟩) (n + 1) cap2)) b tag := by
    intro b tag hb
    have h1 := hb.ne_row h.row
    have h2 := hb.ne_hdr h.hdr
    obtain ⟨arr, h3, h4⟩ := hb
    refine ⟨arr, ?_, h4⟩
    rw [Below.heap_setCell _ _ _ _ h2, (far hg 0 (Array.getElem?_eq_some_iff.1 h3).1 (by simp; omega)).2.2]
    exact h3
  refine ⟨?_, ⟨_, ownsRow_setCell_other hO (by simp [Value.ownBlock]; exact hg2L) _, fun i hi => ?_⟩, fun i hi => ?_, ⟨hg.os.trans h.old.os, hg.tape.trans h.old.tape, hg.output.trans h.old.output, ?_, fun k hk hne => ?_⟩, h.hL, ?_, ?_⟩
  · rw [heap_setCell_same w2 L 0 _ 51 _ hhL]; rfl
  · rcases Nat.lt_or_ge i n with hin | hin
    · have e : upf f n x 0 i = f i := by simp only [upf]; rw [if_neg (by omega)]
      rw [e, List.getElem?_append_left (by omega), List.getElem?_append_left (by omega), List.getElem?_append_left (by omega)]
      exact hf i hin
    · obtain rfl : i = n := by omega
      have e : upf f i x 0 i = x := by simp [upf]
      rw [e, List.getElem?_append_right (by omega), List.getElem?_append_right (by omega), List.getElem?_append_right (by omega), hcl]
      simp
  · rcases Nat.lt_or_ge i n with hin | hin
    · have e : upf f n x 0 i = f i := by simp only [upf]; rw [if_neg (by omega)]
      rw [e]; exact ev _ _ (h.ev i hin)
    · obtain rfl : i = n := by omega
      have e : upf f i x 0 i = x := by simp [upf]
      rw [e]; exact ev _ _ hx
  · have := hg.size
    have h2 := h.old.size
    have h3 : (W1.alloc o).drew.heap.size = W1.heap.size + 1 := by show (W1.alloc o).heap.size = _; simp
    simp; omega
  · rw [Below.heap_setCell _ _ _ _ (by have := h.hL; show k ≠ L; omega), (far hg 0 (Nat.lt_of_lt_of_le hk h.old.size) (by have := h.hg; simp; omega)).2.2]
    exact h.old.block k hk hne
  · have := h.old.size
    have := h.hg
    rcases hat with e | e
    · simp at e; omega
    · omega
  · rcases hO.2 with ⟨h', _⟩ | ⟨_, _, _, h', _, _, _, hm, _⟩
    · simp at h'
    · simp at h'; omega

theorem set3_get {cs : List Value} {i m : Nat} (u0 u1 u2 : Value) (h : i * 3 + 2 < cs.length) (c : Nat) (hc : c < 3) :
    (((cs.set (i * 3) u0).set (i * 3 + 1) u1).set (i * 3 + 2) u2)[m * 3 + c]? = if m = i then some (if c = 0 then u0 else if c = 1 then u1 else u2) else cs[m * 3 + c]? := by
  by_cases hm : m = i
  · subst hm
    rw [if_pos rfl]
    match c, hc with
    | 0, _ => rw [List.getElem?_set_ne (by omega), List.getElem?_set_ne (by omega), Nat.add_zero, List.getElem?_set_self (by omega)]; rfl
    | 1, _ => rw [List.getElem?_set_ne (by omega), List.getElem?_set_self (by rw [List.length_set]; omega)]; rfl
    | 2, _ => rw [List.getElem?_set_self (by rw [List.length_set, List.length_set]; omega)]; rfl
  · rw [if_neg hm, List.getElem?_set_ne (by omega), List.getElem?_set_ne (by omega), List.getElem?_set_ne (by omega)]

theorem heap_set3 (w : World) (g a b c k : Nat) (u v t : Value) (h : k ≠ g) : (((w.setCell ⟨g, a, none⟩ u).setCell ⟨g, b, none⟩ v).setCell ⟨g, c, none⟩ t).heap[k]? = w.heap[k]? := by
  rw [Below.heap_setCell _ _ _ _ h, Below.heap_setCell _ _ _ _ h, Below.heap_setCell _ _ _ _ h]

/-- the cells behind an exchange of the entries at i and p -/
def swapL (cs : List Value) (i p : Nat) (x y : Ent) : List Value :=
  (((((cs.set (i * 3) (.float .f64 y.tm)).set (i * 3 + 1) (.int .u64 y.seq)).set (i * 3 + 2) (.pointer (some ⟨y.b, 0, none⟩))).set (p * 3) (.float .f64 x.tm)).set (p * 3 + 1) (.int .u64 x.seq)).set (p * 3 + 2) (.pointer (some ⟨x.b, 0, none⟩))

theorem swapL_get {cs : List Value} {n i p m : Nat} (x y : Ent) (hcl : cs.length = n * 3) (hi : i < n) (hp : p < n) (c : Nat) (hc : c < 3) :
    (swapL cs i p x y)[m * 3 + c]? = if m = p then some (if c = 0 then .float .f64 x.tm else if c = 1 then .int .u64 x.seq else .pointer (some ⟨x.b, 0, none⟩))
      else if m = i then some (if c = 0 then .float .f64 y.tm else if c = 1 then .int .u64 y.seq else .pointer (some ⟨y.b, 0, none⟩)) else cs[m * 3 + c]? := by
  unfold swapL
  rw [set3_get _ _ _ (by simp only [List.length_set]; omega) c hc, set3_get _ _ _ (by omega) c hc]

theorem swap_own {w : World} {g n cap i p : Nat} {cs : List Value} (x y : Ent) (h : w.ownsRow 0 64 3 (.slice (some ⟨g, 0, none⟩) n cap) n cs) :
    (swapW w g i p x y).ownsRow 0 64 3 (.slice (some ⟨g, 0, none⟩) n cap) n (swapL cs i p x y) := by
  unfold swapW swapL
  have e1 := (((h.stored (i * 3) (.float .f64 y.tm)).1.stored (i * 3 + 1) (.int .u64 y.seq)).1.stored (i * 3 + 2) (.pointer (some ⟨y.b, 0, none⟩))).1
  exact (((e1.stored (p * 3) (.float .f64 x.tm)).1.stored (p * 3 + 1) (.int .u64 x.seq)).1.stored (p * 3 + 2) (.pointer (some ⟨x.b, 0, none⟩))).1

theorem swap_heap (w : World) (g i p : Nat) (x y : Ent) (k : Nat) (hk : k ≠ g) : (swapW w g i p x y).heap[k]? = w.heap[k]? := by
  unfold swapW; rw [heap_set3 _ _ _ _ _ _ _ _ _ hk, heap_set3 _ _ _ _ _ _ _ _ _ hk]
theorem swap_size (w : World) (g i p : Nat) (x y : Ent) : (swapW w g i p x y).heap.size = w.heap.size := by
  unfold swapW; simp only [World.setCell, Array.size_modify]
theorem os_set (w : World) (a : Addr) (u : Value) : (w.setCell a u).os = w.os := rfl
theorem tape_set (w : World) (a : Addr) (u : Value) : (w.setCell a u).tape = w.tape := rfl
theorem output_set (w : World) (a : Addr) (u : Value) : (w.setCell a u).output = w.output := rfl
theorem swap_os (w : World) (g i p : Nat) (x y : Ent) : (swapW w g i p x y).os = w.os ∧ (swapW w g i p x y).tape = w.tape ∧ (swapW w g i p x y).output = w.output := by
  unfold swapW
  refine ⟨?_, ?_, ?_⟩
  · rw [os_set, os_set, os_set, os_set, os_set, os_set]
  · rw [tape_set, tape_set, tape_set, tape_set, tape_set, tape_set]
  · rw [output_set, output_set, output_set, output_set, output_set, output_set]

theorem row_swap {w : World} {g n cap i p : Nat} {F : Nat → Ent} (h : RowE w g n cap F) (hi : i < n) (hp : p < n) : RowE (swapW w g i p (F i) (F p)) g n cap (swp F i p) := by
  obtain ⟨cs, hcs, hf⟩ := h
  have hcl : cs.length = n * 3 := hcs.1
  refine ⟨swapL cs i p (F i) (F p), swap_own _ _ hcs, fun m hm => ?_⟩
  have g0 := swapL_get (m := m) (F i) (F p) hcl hi hp 0 (by omega)
  have g1 := swapL_get (m := m) (F i) (F p) hcl hi hp 1 (by omega)
  have g2 := swapL_get (m := m) (F i) (F p) hcl hi hp 2 (by omega)
  rw [Nat.add_zero] at g0
  rw [g0, g1, g2]
  have hm' := hf m hm
  by_cases h1 : m = p
  · have e : swp F i p m = F i := by simp only [swp]; rw [if_pos h1]
    rw [e, if_pos h1, if_pos h1, if_pos h1]
    exact ⟨rfl, rfl, rfl⟩
  · by_cases h2 : m = i
    · have e : swp F i p m = F p := by simp only [swp]; rw [if_neg h1, if_pos h2]
      rw [e, if_neg h1, if_neg h1, if_neg h1, if_pos h2, if_pos h2, if_pos h2]
      exact ⟨rfl, rfl, rfl⟩
    · have e : swp F i p m = F m := by simp only [swp]; rw [if_neg h1, if_neg h2]
      rw [e, if_neg h1, if_neg h1, if_neg h1, if_neg h2, if_neg h2, if_neg h2]
      exact hm'

theorem qu_swap {w0 w : World} {L g n cap i p : Nat} {F : Nat → Ent} (h : Qu w0 w L g n cap F) (hi : i < n) (hp : p < n) :
    Qu w0 (swapW w g i p (F i) (F p)) L g n cap (swp F i p) := by
  have hR := row_swap h.row hi hp
  have hh := fun k (hk : k ≠ g) => swap_heap w g i p (F i) (F p) k hk
  have hs := swap_size w g i p (F i) (F p)
  obtain ⟨o1, o2, o3⟩ := swap_os w g i p (F i) (F p)
  generalize swapW w g i p (F i) (F p) = w' at *
  have hev : ∀ (b : Nat) (tag : Int), Ev w b tag → Ev w' b tag := fun b tag hb => by
    have h1 := hb.ne_row h.row
    obtain ⟨arr, h3, h4⟩ := hb
    exact ⟨arr, by rw [hh b h1]; exact h3, h4⟩
  refine ⟨by rw [hh L (Ne.symm h.gL)]; exact h.hdr, hR, fun m hm => ?_, ⟨o1.trans h.old.os, o2.trans h.old.tape, o3.trans h.old.output, by rw [hs]; exact h.old.size, fun k hk hne => ?_⟩, h.hL, h.hg, h.cm⟩
  · simp only [swp]
    by_cases h1 : m = p
    · rw [if_pos h1]; exact hev _ _ (h.ev i hi)
    · rw [if_neg h1]
      by_cases h2 : m = i
      · rw [if_pos h2]; exact hev _ _ (h.ev p hp)
      · rw [if_neg h2]; exact hev _ _ (h.ev m hm)
  · rw [hh k (by have := h.hg; omega)]; exact h.old.block k hk hne

set_option maxHeartbeats 1600000 in
theorem push (w0 w : World) (L g n cap : Nat) (f : Nat → Ent) (x : Ent) (hn : n ≤ 65536) (h : Qu w0 w L g n cap f) (hx : Ev w x.b x.tag) :
    Calls Try.prog 25 #[.pointer (some ⟨L, 0, none⟩), .agg #[.float .f64 x.tm, .int .u64 x.seq, .pointer (some ⟨x.b, 0, none⟩)]] w fun e w' => e = .returned (.tuple #[]) ∧
      ∃ g' cap' r, Qu w0 w' L g' (n + 1) cap' (upf f n x r) ∧ (∀ j, 1 ≤ j → j ≤ r → eless x (f (anc n j)) = true ∧ 0 < anc n (j - 1)) ∧ (anc n r = 0 ∨ eless x (f (anc n (r + 1))) = false) := by
  obtain ⟨i0, hi, hz0, hz1, hz2⟩ := info_parts info64
  have Hi := hid (And.intro hi (And.intro hz0 (And.intro hz1 hz2)))
  clear hi hz0 hz1 hz2
  have h0 : w.cell? ⟨L, 0, none⟩ = some (.slice (some ⟨g, 0, none⟩) n cap) := by simp [World.cell?, h.hdr]
  have H := hid h
  have HX := hid hx
  clear h hx
  go_enter Try.func25, Try.ntmps25
  go_wp2_with fail
  obtain ⟨W1, hW1⟩ : ∃ W1, W1 = w.alloc (.cells #[.float .f64 x.tm, .int .u64 x.seq, .pointer (some ⟨x.b, 0, none⟩)] 64) := ⟨_, rfl⟩
  rw [← hW1]
  have H1 : Hid (Qu w0 W1 L g n cap f ∧ Ev W1 x.b x.tag) := by rw [hW1]; exact ⟨H.out.grow (World.grownBy_alloc _ _ none), HX.out.grow (World.grownBy_alloc _ _ none)⟩
  have c0 : W1.cell? ⟨L, 0, none⟩ = some (.slice (some ⟨g, 0, none⟩) n cap) := H1.out.1.c0
  have p0 : W1.cell? ⟨w.heap.size, 0, none⟩ = some (.float .f64 x.tm) := by rw [hW1]; simp
  have p1 : W1.cell? ⟨w.heap.size, 1, none⟩ = some (.int .u64 x.seq) := by rw [hW1]; simp
  have p2 : W1.cell? ⟨w.heap.size, 2, none⟩ = some (.pointer (some ⟨x.b, 0, none⟩)) := by rw [hW1]; simp
  have hPL : w.heap.size ≠ L := by have := H.out.ltL; omega
  have hLlt : L < W1.heap.size := H1.out.1.ltL
  have hPlt : w.heap.size < W1.heap.size := by rw [hW1]; simp
  have hgL : some L ≠ (Value.slice (some ⟨g, 0, none⟩) n cap).ownBlock := by have := H1.out.1.gL; simp [Value.ownBlock]; omega
  have hPg : some w.heap.size ≠ (Value.slice (some ⟨g, 0, none⟩) n cap).ownBlock := by have := H.out.ltg; simp [Value.ownBlock]; omega
  have hLf : W1.frozen? ⟨L, 0, none⟩ = false := H1.out.1.f0
  generalize w.heap.size = P at *
  clear hW1 h0 H HX
  obtain ⟨cs, hcs, hf⟩ := H1.out.1.row
  have Hcs := hid (And.intro hcs hf)
  clear hcs hf
  generalize hxt : x.tm = xt at *
  generalize hxs : x.seq = xs at *
  have Hxt := hid (And.intro hxt hxs)
  clear hxt hxs
  go_cut [] (fun wx => ∃ g2 cap2, Qu w0 wx L g2 (n + 1) cap2 (upf f n x 0))
  case first =>
    go_region_law ((refine step_append_lies _ (by rfl) (.tmp 10) (.tmp 12) 51 (by rfl) 0 64 i0 (.agg #[.float .f64 0, .int .u64 0, .pointer none]) 3 24 Try.underlying51 Hi.out.1 Hi.out.2.1 Hi.out.2.2.1 Hi.out.2.2.2 (by rfl) (by omega) (.slice (some ⟨g, 0, none⟩) n cap) n cs (by rfl) (by exact Hcs.out.1.alloc _) ⟨W1.heap.size, 0, none⟩ 1 1 [.float .f64 xt, .int .u64 xs, .pointer (some ⟨x.b, 0, none⟩)] (by rfl) (by rfl) (World.news_of_block (cs := #[.float .f64 xt, .int .u64 xs, .pointer (some ⟨x.b, 0, none⟩)]) (by exact heap_alloc_new W1 _)) (by intro u hu; simp at hu; rcases hu with rfl | rfl | rfl <;> rfl) (by omega) (by unfold maxLen; omega) (by omega) (Nat.zero_le _) _ (by rfl) ?_; intro g2 cap2 w2 hown2 hgrow hat hlt2; have k0 := (far hgrow 0 hLlt hgL).1.trans c0; have k1 := (far hgrow 0 hPlt hPg).1.trans p0; have k2 := (far hgrow 1 hPlt hPg).1.trans p1; have k3 := (far hgrow 2 hPlt hPg).1.trans p2; have k4 := (far hgrow 0 hLlt hgL).2.1.trans hLf))
    all_goals
      have HQ := hid (qu_append H1.out.1 H1.out.2 Hcs.out.1 Hcs.out.2 hgrow (by rw [Hxt.out.1, Hxt.out.2]; exact hown2) (by simpa [Value.ownBlock] using hat))
      clear hown2 hgrow hat
      go_wp2_with fail
      go_meet
      case rel => exact ⟨g2, cap2, HQ.out⟩
  case rest =>
    obtain ⟨g2, cap2, hQ⟩ := hcut
    have d0 := hQ.c0
    have HQ := hid hQ
    clear hQ Hcs H1 Hi c0 p0 p1 p2 hLlt hPlt hgL hPg hPL hLf
    go_wp2_with fail
    go_loopw [5] (fun i wr => ∃ r : Nat, i = .int .i64 (anc n r) ∧ Qu w0 wr L g2 (n + 1) cap2 (upf f n x r) ∧ (∀ j, 1 ≤ j → j ≤ r → eless x (f (anc n j)) = true ∧ 0 < anc n (j - 1))) (fun i _ => (intOf i).toNat)
    case atStart => exact ⟨0, by go_num, HQ.out, fun j h1 h2 => by omega⟩
    case round =>
      obtain ⟨r, rfl, hQr, hr⟩ := hrel
      have HQr := hid (And.intro hQr hr)
      clear hQr hr
      have hle := anc_le n r
      by_cases h0 : anc n r = 0
      · have HF : Hid (∃ g' cap' r, Qu w0 wr L g' (n + 1) cap' (upf f n x r) ∧ (∀ j, 1 ≤ j → j ≤ r → eless x (f (anc n j)) = true ∧ 0 < anc n (j - 1)) ∧ (anc n r = 0 ∨ eless x (f (anc n (r + 1))) = false)) := ⟨g2, cap2, r, HQr.out.1, HQr.out.2, .inl h0⟩
        generalize anc n r = i at *
        subst h0
        go_wp2_with fail
        go_end0
        exact ⟨rfl, HF.out⟩
      · have hlt := anc_lt (n := n) (r := r) (by omega)
        have hself := upf_self f n x r
        have habove := upf_above f n x r (anc n (r + 1)) hlt
        have hp : anc n (r + 1) = (anc n r - 1) / 2 := rfl
        have Hless : Hid (Calls Try.prog 29 #[.slice (some ⟨g2, 0, none⟩) (n + 1) cap2, .int .i64 (anc n r), .int .i64 (anc n (r + 1))] wr fun e w' => e = .returned (.bool (eless x (f (anc n (r + 1))))) ∧ ∃ q, w' = wr.drewN q) := by
          have h29 := qless wr g2 (n + 1) cap2 (anc n r) (anc n (r + 1)) (upf f n x r) HQr.out.1.row (by omega) (by omega)
          rw [hself, habove] at h29
          exact h29
        generalize hi : anc n r = i at *
        generalize hpp : anc n (r + 1) = p at *
        have hpi : ((i : Int) - 1).tdiv 2 = (p : Int) := by rw [Int.tdiv_eq_ediv_of_nonneg (by omega)]; omega
        have hpi' : ((i : Int) - 1) / 2 = (p : Int) := by omega
        have hipos : 0 < i := by omega
        have Hip := hid (And.intro hi (And.intro hpp hp))
        clear hi hpp hp h0
        go_wp2_with fail
        refine Hless.out.mono ?_
        rintro e w3 ⟨rfl, q, rfl⟩
        have HQ3 := hid (HQr.out.1.draws q)
        generalize wr.drewN q = w3 at HQ3 ⊢
        cases hl : eless x (f p) with
        | false =>
          have HF : Hid (∃ g' cap' r, Qu w0 w3 L g' (n + 1) cap' (upf f n x r) ∧ (∀ j, 1 ≤ j → j ≤ r → eless x (f (anc n j)) = true ∧ 0 < anc n (j - 1)) ∧ (anc n r = 0 ∨ eless x (f (anc n (r + 1))) = false)) := ⟨g2, cap2, r, HQ3.out, HQr.out.2, .inr (by rw [Hip.out.2.1]; exact hl)⟩
          go_wp2_with fail
          go_end0
          exact ⟨rfl, HF.out⟩
        | true =>
          obtain ⟨a0, a1, a2⟩ := HQ3.out.row.cells (i := i) (by omega)
          obtain ⟨b0, b1, b2⟩ := HQ3.out.row.cells (i := p) (by omega)
          rw [hself] at a0 a1 a2
          rw [habove] at b0 b1 b2
          have fz := HQ3.out.row.frozen
          have i1 : (i : Int) < (n : Int) + 1 := by omega
          have i2 : (p : Int) < (n : Int) + 1 := by omega
          have HS : Hid (Qu w0 (swapW w3 g2 i p x (f p)).drew L g2 (n + 1) cap2 (upf f n x (r + 1))) := by
            have h1 := qu_swap HQ3.out (i := i) (p := p) (by omega) (by omega)
            rw [hself, habove] at h1
            have h2 := upf_swap f n x r (by rw [Hip.out.1]; exact hipos)
            rw [Hip.out.1, Hip.out.2.1] at h2
            rw [h2] at h1
            exact h1.draws 1
          have Hnx : Hid (∀ j, 1 ≤ j → j ≤ r + 1 → eless x (f (anc n j)) = true ∧ 0 < anc n (j - 1)) := fun j h1 h2 => by
            rcases Nat.lt_or_ge r j with h' | h'
            · obtain rfl : j = r + 1 := by omega
              rw [Nat.add_sub_cancel, Hip.out.2.1, Hip.out.1]
              exact ⟨hl, hipos⟩
            · exact HQr.out.2 j h1 h'
          go_wp2_with fail
          go_region
          go_wp2_with fail
          go_roundw
          case rel => exact ⟨r + 1, by rw [Hip.out.2.1], HS.out, Hnx.out⟩
          case measure => simp [intOf]; omega
end Go.Proofs.Qxb6606005a.Hp
