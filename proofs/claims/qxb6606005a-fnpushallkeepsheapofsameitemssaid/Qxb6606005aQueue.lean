import Derived.Test.Qxb6606005aRead
namespace Go.Proofs.Qxb6606005a.Hp
open Go.RowKit
set_option maxRecDepth 100000
attribute [local go_sem] run_store_float

/-- an entry of the queue: its time, its number, its event's block, its event's tag -/
structure Ent where
  tm : Nat
  seq : Int
  b : Nat
  tag : Int

def eless (x y : Ent) : Bool := less x.tm x.seq y.tm y.seq

/-- the row g holds the entries f 0 .. f (n-1) -/
def RowE (w : World) (g n cap : Nat) (f : Nat → Ent) : Prop :=
  ∃ cs : List Value, w.ownsRow 0 64 3 (.slice (some ⟨g, 0, none⟩) n cap) n cs ∧
    ∀ i, i < n → cs[i * 3]? = some (.float .f64 (f i).tm) ∧ cs[i * 3 + 1]? = some (.int .u64 (f i).seq) ∧ cs[i * 3 + 2]? = some (.pointer (some ⟨(f i).b, 0, none⟩))

theorem RowE.cells {w : World} {g n cap : Nat} {f : Nat → Ent} (h : RowE w g n cap f) {i : Nat} (hi : i < n) :
    w.cell? ⟨g, i * 3, none⟩ = some (.float .f64 (f i).tm) ∧ w.cell? ⟨g, i * 3 + 1, none⟩ = some (.int .u64 (f i).seq) ∧ w.cell? ⟨g, i * 3 + 2, none⟩ = some (.pointer (some ⟨(f i).b, 0, none⟩)) := by
  obtain ⟨cs, hcs, hf⟩ := h
  obtain ⟨h1, h2, h3⟩ := hf i hi
  exact ⟨by rw [hcs.cellAt _ (by omega)]; exact h1, by rw [hcs.cellAt _ (by omega)]; exact h2, by rw [hcs.cellAt _ (by omega)]; exact h3⟩
theorem RowE.frozen {w : World} {g n cap : Nat} {f : Nat → Ent} (h : RowE w g n cap f) (j : Nat) : w.frozen? ⟨g, j, none⟩ = false := by
  obtain ⟨cs, hcs, _⟩ := h
  exact hcs.frozenAt j

set_option maxHeartbeats 800000 in
theorem qless (w : World) (g n cap i j : Nat) (f : Nat → Ent) (h : RowE w g n cap f) (hi : i < n) (hj : j < n) :
    Calls Try.prog 29 #[.slice (some ⟨g, 0, none⟩) n cap, .int .i64 i, .int .i64 j] w fun e w' => e = .returned (.bool (eless (f i) (f j))) ∧ ∃ q, w' = w.drewN q := by
  obtain ⟨a0, a1, _⟩ := h.cells hi
  obtain ⟨b0, b1, _⟩ := h.cells hj
  have i1 : (i : Int) < (n : Int) := by omega
  have i2 : (j : Int) < (n : Int) := by omega
  clear h
  unfold eless less ford
  generalize (f i).tm = x at *
  generalize (f i).seq = s at *
  generalize (f j).tm = y at *
  generalize (f j).seq = t at *
  cases hne : (FloatKind.f64.format.order x y != some .eq) with
  | true =>
    simp only [if_true]
    go_enter Try.func29, Try.ntmps29
    go_wp2
    go_quiet (fail)
    go_wp2
    go_quiet (fail)
    go_wp2
    go_ret
    exact ⟨rfl, _, by rw [World.drewN_drewN]⟩
  | false =>
    simp only [Bool.false_eq_true, if_false]
    go_enter Try.func29, Try.ntmps29
    go_wp2
    go_quiet (fail)
    go_wp2
    go_quiet (fail)
    go_wp2
    go_ret
    exact ⟨rfl, _, by rw [World.drewN_drewN]⟩

/-- the event in block b bears the tag -/
def Ev (w : World) (b : Nat) (tag : Int) : Prop := ∃ arr : Array Value, w.heap[b]? = some (.cells arr 62 (0, 0)) ∧ arr[10]? = some (.int .i64 tag)

/-- THE QUEUE at L: its row is g, it holds f 0 .. f (n-1); all that was there in w0 is as it was -/
structure Qu (w0 w : World) (L g n cap : Nat) (f : Nat → Ent) : Prop where
  hdr : w.heap[L]? = some (.cells #[.slice (some ⟨g, 0, none⟩) n cap] 51 (0, 0))
  row : RowE w g n cap f
  ev : ∀ i, i < n → Ev w (f i).b (f i).tag
  old : w0.grownBy w none
  hL : w0.heap.size ≤ L
  hg : w0.heap.size ≤ g
  cm : cap ≤ maxLen

theorem Ev.grow {w w' : World} {b : Nat} {tag : Int} (h : Ev w b tag) (hg : w.grownBy w' none) : Ev w' b tag := by
  obtain ⟨arr, h1, h2⟩ := h
  exact ⟨arr, by rw [hg.block b (Array.getElem?_eq_some_iff.1 h1).1 (by simp)]; exact h1, h2⟩
theorem RowE.grow {w w' : World} {g n cap : Nat} {f : Nat → Ent} (h : RowE w g n cap f) (hg : w.grownBy w' none) : RowE w' g n cap f := by
  obtain ⟨cs, hcs, hf⟩ := h
  exact ⟨cs, hcs.kept hg (by right; simp [Value.ownBlock]), hf⟩
theorem Qu.ltL {w0 w : World} {L g n cap : Nat} {f : Nat → Ent} (h : Qu w0 w L g n cap f) : L < w.heap.size := (Array.getElem?_eq_some_iff.1 h.hdr).1
theorem Qu.ltg {w0 w : World} {L g n cap : Nat} {f : Nat → Ent} (h : Qu w0 w L g n cap f) : g < w.heap.size := by
  obtain ⟨cs, hcs, _⟩ := h.row
  exact (hcs.lt g rfl).2
theorem Qu.c0 {w0 w : World} {L g n cap : Nat} {f : Nat → Ent} (h : Qu w0 w L g n cap f) : w.cell? ⟨L, 0, none⟩ = some (.slice (some ⟨g, 0, none⟩) n cap) := by simp [World.cell?, h.hdr]
theorem Qu.f0 {w0 w : World} {L g n cap : Nat} {f : Nat → Ent} (h : Qu w0 w L g n cap f) : w.frozen? ⟨L, 0, none⟩ = false := by simp [World.frozen?, h.hdr]
theorem Qu.grow {w0 w w' : World} {L g n cap : Nat} {f : Nat → Ent} (h : Qu w0 w L g n cap f) (hg : w.grownBy w' none) : Qu w0 w' L g n cap f :=
  ⟨by rw [hg.block L h.ltL (by simp)]; exact h.hdr, h.row.grow hg, fun i hi => (h.ev i hi).grow hg, World.grownBy.trans h.old hg, h.hL, h.hg, h.cm⟩
theorem Qu.draws {w0 w : World} {L g n cap : Nat} {f : Nat → Ent} (h : Qu w0 w L g n cap f) (q : Nat) : Qu w0 (w.drewN q) L g n cap f :=
  h.grow ⟨rfl, rfl, rfl, Nat.le_refl _, fun _ _ _ => rfl⟩
/-- the row, the header and the events lie apart -/
theorem Qu.gL {w0 w : World} {L g n cap : Nat} {f : Nat → Ent} (h : Qu w0 w L g n cap f) : g ≠ L := by
  obtain ⟨cs, hcs, _⟩ := h.row
  intro e
  rcases hcs.2 with ⟨h', _⟩ | ⟨g', cap', cur, h', _, hg, _⟩
  · simp at h'
  · simp only [Value.slice.injEq, Option.some.injEq, Addr.mk.injEq, and_true, true_and] at h'
    obtain ⟨rfl, rfl⟩ := h'
    rw [e, h.hdr] at hg
    simp at hg
theorem Ev.ne_row {w : World} {b g n cap : Nat} {tag : Int} {f : Nat → Ent} (h : Ev w b tag) (hR : RowE w g n cap f) : b ≠ g := by
  obtain ⟨arr, h1, _⟩ := h
  obtain ⟨cs, hcs, _⟩ := hR
  intro e
  rcases hcs.2 with ⟨h', _⟩ | ⟨g', cap', cur, h', _, hg, _⟩
  · simp at h'
  · simp only [Value.slice.injEq, Option.some.injEq, Addr.mk.injEq, and_true, true_and] at h'
    obtain ⟨rfl, rfl⟩ := h'
    rw [← e, h1] at hg
    simp at hg
theorem Ev.ne_hdr {w : World} {b L : Nat} {tag : Int} {v : Value} (h : Ev w b tag) (hh : w.heap[L]? = some (.cells #[v] 51 (0, 0))) : b ≠ L := by
  obtain ⟨arr, h1, _⟩ := h
  intro e
  rw [e, hh] at h1
  simp at h1

/-- the r-th ancestor of place n -/
def anc (n : Nat) : Nat → Nat
  | 0 => n
  | r + 1 => (anc n r - 1) / 2

/-- the entries with x put in at the r-th place of the path from n, the r entries ahead of it moved down -/
def upf (f : Nat → Ent) (n : Nat) (x : Ent) : Nat → Nat → Ent
  | 0 => fun m => if m = n then x else f m
  | r + 1 => fun m => if m = anc n (r + 1) then x else if m = anc n r then f (anc n (r + 1)) else upf f n x r m

theorem anc_lt {n r : Nat} (h : 0 < anc n r) : anc n (r + 1) < anc n r := by simp only [anc]; omega
theorem anc_le (n : Nat) : ∀ r, anc n r ≤ n
  | 0 => Nat.le_refl _
  | r + 1 => by have := anc_le n r; simp only [anc]; omega

theorem upf_self (f : Nat → Ent) (n : Nat) (x : Ent) (r : Nat) : upf f n x r (anc n r) = x := by
  cases r with
  | zero => simp [upf, anc]
  | succ r => simp [upf]

/-- off the path, and above it, nothing has moved -/
theorem upf_above (f : Nat → Ent) (n : Nat) (x : Ent) : ∀ (r m : Nat), m < anc n r → upf f n x r m = f m
  | 0, m, h => by simp only [upf, anc] at h ⊢; rw [if_neg (by omega)]
  | r + 1, m, h => by
    have h2 : anc n (r + 1) ≤ anc n r := by simp only [anc]; omega
    simp only [upf]
    rw [if_neg (by omega), if_neg (by omega)]
    exact upf_above f n x r m (by omega)

def swp (f : Nat → Ent) (i j : Nat) : Nat → Ent := fun m => if m = j then f i else if m = i then f j else f m

theorem upf_swap (f : Nat → Ent) (n : Nat) (x : Ent) (r : Nat) (h : 0 < anc n r) : swp (upf f n x r) (anc n r) (anc n (r + 1)) = upf f n x (r + 1) := by
  funext m
  have h1 := upf_self f n x r
  have h2 := upf_above f n x r (anc n (r + 1)) (anc_lt h)
  simp only [swp, upf]
  rw [h1, h2]

/-- the row behind an exchange -/
def swapW (w : World) (g i j : Nat) (x y : Ent) : World :=
  (((((w.setCell ⟨g, i * 3, none⟩ (.float .f64 y.tm)).setCell ⟨g, i * 3 + 1, none⟩ (.int .u64 y.seq)).setCell ⟨g, i * 3 + 2, none⟩ (.pointer (some ⟨y.b, 0, none⟩))).setCell ⟨g, j * 3, none⟩ (.float .f64 x.tm)).setCell ⟨g, j * 3 + 1, none⟩ (.int .u64 x.seq)).setCell ⟨g, j * 3 + 2, none⟩ (.pointer (some ⟨x.b, 0, none⟩))
end Go.Proofs.Qxb6606005a.Hp
