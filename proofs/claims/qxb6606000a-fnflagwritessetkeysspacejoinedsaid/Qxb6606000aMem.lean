import Derived.Test.Qxb6606000aRows
import Derived.WalkKit
import Derived.Maps.AppendAt
import Derived.Deep.QuietTactic
import Derived.BigQuiet
import Derived.Lib.LazyBuf
import Derived.Lib.AppendStr
import Derived.Deep.AppendLies
import Derived.Laws.CopyOwn
namespace Go.Proofs.Qxb6606000a
open Go.RowKit

theorem hid {p : Prop} (h : p) : Hid p := h

/-! ### The element types' rows: 5 (byte), 9 (string), 4 (bool) -/
theorem info5 : (Try.prog.info? 5).map (fun i => (i.zero, i.size, i.bytes)) = some (some (.int .u8 0), 1, 1) := by kernel_rfl
theorem info9 : (Try.prog.info? 9).map (fun i => (i.zero, i.size, i.bytes)) = some (some (.string ⟨#[]⟩), 1, 16) := by kernel_rfl
theorem info4 : (Try.prog.info? 4).map (fun i => (i.zero, i.size, i.bytes)) = some (some (.bool false), 1, 1) := by kernel_rfl

/-- the slice at ao holds f 0 .. f (n-1) -/
def Rd (w : World) (ao : Option Addr) (n : Nat) (f : Nat → Value) : Prop :=
  ∀ j, j < n → ∃ b off, ao = some ⟨b, off, none⟩ ∧ w.cell? ⟨b, off + j, none⟩ = some (f j)
theorem Rd.kept {w w' : World} {ao : Option Addr} {n : Nat} {f : Nat → Value} (h : Rd w ao n f) (hg : w.grownBy w' none) : Rd w' ao n f := fun j hj => by
  obtain ⟨b, off, h1, h2⟩ := h j hj; exact ⟨b, off, h1, hg.cell h2 (by simp)⟩

theorem own_rd {w : World} {e : TypeId} {ao : Option Addr} {n c : Nat} {cs : List Value} (h : w.ownsRow 0 e 1 (.slice ao n c) n cs) : Rd w ao n (fun j => cs.getD j undef) := by
  intro j hj
  have hl : cs.length = n := by have := h.1; omega
  rcases h.2 with ⟨h', h0⟩ | ⟨g, cap, cur, h', _, _⟩
  · omega
  · simp only [Value.slice.injEq] at h'
    obtain ⟨rfl, _, rfl⟩ := h'
    refine ⟨g, 0, rfl, ?_⟩
    show _ = some (cs.getD j undef)
    rw [Nat.zero_add, World.ownsRow.cellAt h j (by omega), List.getD_eq_getElem?_getD, List.getElem?_eq_getElem (by omega)]
    rfl

theorem Rd.congr {w : World} {ao : Option Addr} {n : Nat} {f f' : Nat → Value} (h : Rd w ao n f) (he : ∀ j, j < n → f j = f' j) : Rd w ao n f' := fun j hj => by
  obtain ⟨b, off, h1, h2⟩ := h j hj; exact ⟨b, off, h1, by rw [h2, he j hj]⟩

/-- from w to w' only the row r was written; the row lies now in r', the old one or a new block -/
def Step (w w' : World) (r r' : Option Nat) : Prop := w.grownBy w' r ∧ (r' = r ∨ ∃ k, r' = some k ∧ w.heap.size ≤ k)
theorem Step.trans {a b c : World} {r r1 r2 : Option Nat} (h : Step a b r r1) (k : Step b c r1 r2) : Step a c r r2 := by
  refine ⟨⟨k.1.os.trans h.1.os, k.1.tape.trans h.1.tape, k.1.output.trans h.1.output, Nat.le_trans h.1.size k.1.size, fun i hi hne => ?_⟩, ?_⟩
  · rw [k.1.block i (Nat.lt_of_lt_of_le hi h.1.size) ?_]
    · exact h.1.block i hi hne
    · rcases h.2 with h2 | ⟨j, h2, h3⟩
      · rw [h2]; exact hne
      · rw [h2]; intro e; simp at e; omega
  · have hs := h.1.size
    rcases k.2 with k2 | ⟨j, k2, k3⟩
    · rw [k2]; exact h.2
    · exact .inr ⟨j, k2, by omega⟩
theorem Step.alloc (w : World) (o : Obj) (r : Option Nat) : Step w (w.alloc o) r r := ⟨World.grownBy_alloc w o r, .inl rfl⟩

/-- append(v, s...) of a string that is not empty: the new value written out -/
theorem run_append_str {P : Program} (w : World) (base : Nat) (t u ty e : TypeId) (i : TypeInfo) (ht : P.underlying t = some (.slice e)) (hu : P.underlying u = some .string) (hi : P.info? e = some i) (hz : i.zero = some (.int .u8 0))
    (hsize : i.size = 1) (hby : i.bytes = 1) (v : Value) (n : Nat) (xs : List Value) (hown : w.ownsRow base e 1 v n xs) (s : ByteArray) (h0 : 0 < s.size)
    (hbytes : n + s.size ≤ 140737488355328) (hbase : base ≤ w.heap.size) :
    ∃ g cap w', (Builtin.append_ #[t, u] ty #[v, .string s]).run P w = .ok (.slice (some ⟨g, 0, none⟩) (n + s.size) cap) w' ∧
      w'.ownsRow base e 1 (.slice (some ⟨g, 0, none⟩) (n + s.size) cap) (n + s.size) (xs ++ Lib.strCells s) ∧ Step w w' v.ownBlock (some g) := by
  have h63 : n + s.size ≤ maxLen := by unfold maxLen; omega
  obtain ⟨v', w', hr, h2, h3, _⟩ := Lib.run_append_own_string (P := P) w base t u ty e i ht hu hi hz hsize hby v n xs hown s h63 hbytes hbase
  obtain ⟨g, cap, rfl, _, hlt⟩ := h2.form (by omega)
  refine ⟨g, cap, w', hr, h2, h3, ?_⟩
  have hxl : xs.length = n := by simpa using hown.1
  rcases hown.2 with ⟨rfl, rfl⟩ | ⟨g0, cap0, cur, rfl, hbg, hg, hnc, hcm, hcs, htake⟩
  · have hr' := run_append_nil_string (P := P) w t u ty e i (.int .u8 0) ht hu hi hz s (by omega) (by omega) (by rw [hby]; omega)
    rw [hr] at hr'
    simp only [Result.ok.injEq, Value.slice.injEq, Option.some.injEq, Addr.mk.injEq] at hr'
    exact .inr ⟨g, rfl, by omega⟩
  · by_cases hroom : n + s.size ≤ cap0
    · have hcs' : cur.size = cap0 := by simpa using hcs
      have hr' := Lib.run_append_room_string (P := P) w t u ty e i ht hu hi hsize g0 n cap0 cur hg s hroom (by omega)
      rw [hr] at hr'
      simp only [Result.ok.injEq, Value.slice.injEq, Option.some.injEq, Addr.mk.injEq] at hr'
      exact .inl (by simp [Value.ownBlock]; omega)
    · have holds : ∀ j u, xs[j]? = some u → w.cell? ((⟨g0, 0, none⟩ : Addr).add j) = some u := hown.cells (g := g0) rfl
      have hr' := Lib.run_append_grow_string (P := P) w t u ty e i (.int .u8 0) ht hu hi hz ⟨g0, 0, none⟩ n cap0 xs (by rw [hsize]; simpa using hxl) holds s (by omega) (by omega) (by rw [hby]; exact growslice_fits (by omega) (by omega))
      rw [hr] at hr'
      simp only [Result.ok.injEq, Value.slice.injEq, Option.some.injEq, Addr.mk.injEq] at hr'
      exact .inr ⟨g, rfl, by omega⟩

theorem wpList_append_str {P : Program} {w : World} {ops : Array Oper} {rest : List Oper} {o : Oper} {a : Act} {Q : Exit → Act → World → Prop} (hgd : o.guard = none) (sl x : Operand) (t u : TypeId)
    (ho : o.op = .call { callee := .builtin .append, args := #[sl, x], argTypes := #[t, u] })
    (base : Nat) (e : TypeId) (i : TypeInfo) (ht : P.underlying t = some (.slice e)) (hu : P.underlying u = some .string) (hi : P.info? e = some i) (hz : i.zero = some (.int .u8 0))
    (hsize : i.size = 1) (hby : i.bytes = 1) (v : Value) (n : Nat) (xs : List Value) (hs : a.eval sl = v) (hown : w.ownsRow base e 1 v n xs) (s : ByteArray) (hx : a.eval x = .string s) (h0 : 0 < s.size)
    (hbytes : n + s.size ≤ 140737488355328) (hbase : base ≤ w.heap.size)
    (h : ∀ g cap w', w'.ownsRow base e 1 (.slice (some ⟨g, 0, none⟩) (n + s.size) cap) (n + s.size) (xs ++ Lib.strCells s) → Step w w' v.ownBlock (some g) →
      wpList P ops Q rest (a.put o.dst (.slice (some ⟨g, 0, none⟩) (n + s.size) cap)) w') : wpList P ops Q (o :: rest) a w := by
  refine wpList_plain hgd fun K hK => ?_
  obtain ⟨g, cap, w', hr, h2, h3⟩ := run_append_str (P := P) w base t u o.type e i ht hu hi hz hsize hby v n xs hown s h0 hbytes hbase
  unfold Oper.wp execOp
  simp only [ho, resolve, invoke, builtin, Sem.run_bind, Sem.run_pure, Result.andThen_ok, List.map_toArray, List.map_cons, List.map_nil, hs, hx, hr]
  exact hK _ _ (h g cap w' h2 h3)

/-- append(v, news...) from another slice, something being appended -/
theorem run_append_from {P : Program} (w : World) (base : Nat) (t ty e : TypeId) (i : TypeInfo) (z : Value) (bytes : Nat) (ht : P.underlying t = some (.slice e)) (hi : P.info? e = some i) (hz : i.zero = some z)
    (hsize : i.size = 1) (hby : i.bytes = bytes) (hzs : z.cells.size = 1) (v : Value) (n : Nat) (xs : List Value) (hown : w.ownsRow base e 1 v n xs) (ad : Addr) (m c : Nat) (news : List Value) (hm : news.length = m) (h0 : 0 < m) (hx1 : ∀ u ∈ news, u.oneCell' = true)
    (hb : ∀ j u, news[j]? = some u → w.cell? (ad.add j) = some u)
    (h63 : n + m ≤ maxLen) (hbytes : (n + m) * bytes ≤ 140737488355328) (hbase : base ≤ w.heap.size) :
    ∃ g cap w', (Builtin.append_ #[t, t] ty #[v, .slice (some ad) m c]).run P w = .ok (.slice (some ⟨g, 0, none⟩) (n + m) cap) w' ∧
      w'.ownsRow base e 1 (.slice (some ⟨g, 0, none⟩) (n + m) cap) (n + m) (xs ++ news) ∧ Step w w' v.ownBlock (some g) := by
  obtain ⟨g, cap, w', h1, h2, h3, h4, _⟩ := run_append_lies (P := P) w t ty base e i z 1 bytes ht hi hz hsize hby hzs (by omega) v n xs hown ad m c news (by omega) hb hx1 h0 h63 hbytes hbase w.heap.size rfl
  refine ⟨g, cap, w', h1, h2, h3, ?_⟩
  rcases h4 with h4 | h4
  · exact .inl h4.symm
  · exact .inr ⟨g, rfl, by omega⟩

theorem wpList_append_from {P : Program} {w : World} {ops : Array Oper} {rest : List Oper} {o : Oper} {a : Act} {Q : Exit → Act → World → Prop} (hgd : o.guard = none) (sl x : Operand) (t : TypeId)
    (ho : o.op = .call { callee := .builtin .append, args := #[sl, x], argTypes := #[t, t] })
    (base : Nat) (e : TypeId) (i : TypeInfo) (z : Value) (bytes : Nat) (ht : P.underlying t = some (.slice e)) (hi : P.info? e = some i) (hz : i.zero = some z)
    (hsize : i.size = 1) (hby : i.bytes = bytes) (hzs : z.cells.size = 1) (v : Value) (n : Nat) (xs : List Value) (hs : a.eval sl = v) (hown : w.ownsRow base e 1 v n xs) (ad : Addr) (m c : Nat) (news : List Value) (hm : news.length = m) (h0 : 0 < m) (hx1 : ∀ u ∈ news, u.oneCell' = true)
    (hx : a.eval x = .slice (some ad) m c) (hb : ∀ j u, news[j]? = some u → w.cell? (ad.add j) = some u)
    (h63 : n + m ≤ maxLen) (hbytes : (n + m) * bytes ≤ 140737488355328) (hbase : base ≤ w.heap.size)
    (h : ∀ g cap w', w'.ownsRow base e 1 (.slice (some ⟨g, 0, none⟩) (n + m) cap) (n + m) (xs ++ news) → Step w w' v.ownBlock (some g) →
      wpList P ops Q rest (a.put o.dst (.slice (some ⟨g, 0, none⟩) (n + m) cap)) w') : wpList P ops Q (o :: rest) a w := by
  refine wpList_plain hgd fun K hK => ?_
  obtain ⟨g, cap, w', hr, h2, h3⟩ := run_append_from (P := P) w base t o.type e i z bytes ht hi hz hsize hby hzs v n xs hown ad m c news hm h0 hx1 hb h63 hbytes hbase
  unfold Oper.wp execOp
  simp only [ho, resolve, invoke, builtin, Sem.run_bind, Sem.run_pure, Result.andThen_ok, List.map_toArray, List.map_cons, List.map_nil, hs, hx, hr]
  exact hK _ _ (h g cap w' h2 h3)

/-- of one element, laid in a block of its own first -/
theorem one_news {w : World} {b : Nat} {x : Value} (hb : w.cell? ⟨b, 0, none⟩ = some x) : ∀ j u, [x][j]? = some u → w.cell? ((⟨b, 0, none⟩ : Addr).add j) = some u := fun j u hj => by
  match j, hj with
  | 0, hj => simp at hj; subst hj; simpa [Addr.add] using hb
end Go.Proofs.Qxb6606000a
