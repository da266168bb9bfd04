import Derived.Test.Qxb6605914aApp
import Derived.Lib.AppendStr
import Derived.Deep.AppendLies
namespace Go.Proofs.Qxb6605914a
open Go.RowKit

/-- from w to w' only the row r was written; the row lies now in r', the old one or a new block -/
def Step (w w' : World) (r r' : Option Nat) : Prop := w.grownBy w' r ∧ (r' = r ∨ ∃ k, r' = some k ∧ w.heap.size ≤ k)
/-- the slice at ao lies in an old block other than r -/
def Apart (w : World) (ao : Option Addr) (r : Option Nat) : Prop := ∀ b off, ao = some ⟨b, off, none⟩ → r ≠ some b ∧ b < w.heap.size

theorem Step.trans {a b c : World} {r r1 r2 : Option Nat} (h : Step a b r r1) (k : Step b c r1 r2) : Step a c r r2 := by
  refine ⟨⟨k.1.os.trans h.1.os, k.1.tape.trans h.1.tape, k.1.output.trans h.1.output, Nat.le_trans h.1.size k.1.size, fun i hi hne => ?_⟩, ?_⟩
  · rw [k.1.block i (Nat.lt_of_lt_of_le hi h.1.size) ?_]
    · exact h.1.block i hi hne
    · rcases h.2 with h2 | ⟨j, h2, h3⟩
      · rw [h2]; exact hne
      · rw [h2]; intro e; simp at e; omega
  · have hs := h.1.size
    rcases k.2 with k2 | ⟨j, k2, k3⟩
    · rw [k2]; exact h.2
    · exact .inr ⟨j, k2, by omega⟩

theorem Step.rd {w w' : World} {r r' : Option Nat} {ao : Option Addr} {xs : List Int} (h : Step w w' r r') (hR : Rd w ao xs) (hA : Apart w ao r) : Rd w' ao xs ∧ Apart w' ao r' := by
  refine ⟨fun j hj => ?_, fun b off e => ?_⟩
  · obtain ⟨b, off, h1, h2⟩ := hR j hj
    exact ⟨b, off, h1, h.1.cell h2 (fun e => (hA b off h1).1 e.symm)⟩
  · obtain ⟨h1, h2⟩ := hA b off e
    refine ⟨?_, Nat.lt_of_lt_of_le h2 h.1.size⟩
    rcases h.2 with h3 | ⟨k, h3, h4⟩
    · rw [h3]; exact h1
    · rw [h3]; intro e; simp at e; omega

theorem Step.alloc (w : World) (o : Obj) (r : Option Nat) : Step w (w.alloc o) r r := ⟨World.grownBy_alloc w o r, .inl rfl⟩

/-- the slice value has no spare room -/
def Full (v : Value) : Prop := ∀ a n c, v = .slice a n c → c ≤ n
/-- r is v's own row, or none where v has no spare room -/
def RowOf (v : Value) (r : Option Nat) : Prop := r = v.ownBlock ∨ (r = none ∧ Full v)

/-- append(v, s...) of a string that is not empty: the new value written out -/
theorem run_append_str {P : Program} (w : World) (base : Nat) (t u ty e : TypeId) (i : TypeInfo) (ht : P.underlying t = some (.slice e)) (hu : P.underlying u = some .string) (hi : P.info? e = some i) (hz : i.zero = some (.int .u8 0))
    (hsize : i.size = 1) (hby : i.bytes = 1) (v : Value) (n : Nat) (xs : List Value) (hown : w.ownsRow base e 1 v n xs) (s : ByteArray) (h0 : 0 < s.size) (r : Option Nat) (hrow : RowOf v r)
    (hbytes : n + s.size ≤ 140737488355328) (hbase : base ≤ w.heap.size) :
    ∃ g cap w', (Builtin.append_ #[t, u] ty #[v, .string s]).run P w = .ok (.slice (some ⟨g, 0, none⟩) (n + s.size) cap) w' ∧
      w'.ownsRow base e 1 (.slice (some ⟨g, 0, none⟩) (n + s.size) cap) (n + s.size) (xs ++ Lib.strCells s) ∧ Step w w' r (some g) := by
  have h63 : n + s.size ≤ maxLen := by unfold maxLen; omega
  obtain ⟨v', w', hr, h2, h3, _⟩ := Lib.run_append_own_string (P := P) w base t u ty e i ht hu hi hz hsize hby v n xs hown s h63 hbytes hbase
  obtain ⟨g, cap, rfl, _, hlt⟩ := h2.form (by omega)
  refine ⟨g, cap, w', hr, h2, ?_⟩
  have fresh : ∀ o, w' = w.drew.alloc o → g = w.heap.size → Step w w' r (some g) := fun o e eg =>
    ⟨by subst e; exact ⟨rfl, rfl, rfl, by simp, fun k hk _ => Below.heap_alloc w.drew o k hk⟩, .inr ⟨g, rfl, by omega⟩⟩
  have hxl : xs.length = n := by simpa using hown.1
  rcases hown.2 with ⟨rfl, rfl⟩ | ⟨g0, cap0, cur, rfl, hbg, hg, hnc, hcm, hcs, htake⟩
  · have hr' := run_append_nil_string (P := P) w t u ty e i (.int .u8 0) ht hu hi hz s (by omega) (by omega) (by rw [hby]; omega)
    rw [hr] at hr'
    simp only [Result.ok.injEq, Value.slice.injEq, Option.some.injEq, Addr.mk.injEq] at hr'
    exact fresh _ hr'.2 hr'.1.1.1
  · by_cases hroom : n + s.size ≤ cap0
    · have hcs' : cur.size = cap0 := by simpa using hcs
      have hr' := Lib.run_append_room_string (P := P) w t u ty e i ht hu hi hsize g0 n cap0 cur hg s hroom (by omega)
      rw [hr] at hr'
      simp only [Result.ok.injEq, Value.slice.injEq, Option.some.injEq, Addr.mk.injEq] at hr'
      rcases hrow with rfl | ⟨_, hfull⟩
      · exact ⟨h3, .inl (by simp [Value.ownBlock]; omega)⟩
      · have := hfull _ _ _ rfl
        omega
    · have holds : ∀ j u, xs[j]? = some u → w.cell? ((⟨g0, 0, none⟩ : Addr).add j) = some u := hown.cells (g := g0) rfl
      have hr' := Lib.run_append_grow_string (P := P) w t u ty e i (.int .u8 0) ht hu hi hz ⟨g0, 0, none⟩ n cap0 xs (by rw [hsize]; simpa using hxl) holds s (by omega) (by omega) (by rw [hby]; exact growslice_fits (by omega) (by omega))
      rw [hr] at hr'
      simp only [Result.ok.injEq, Value.slice.injEq, Option.some.injEq, Addr.mk.injEq] at hr'
      exact fresh _ hr'.2 hr'.1.1.1

theorem wpList_append_str {P : Program} {w : World} {ops : Array Oper} {rest : List Oper} {o : Oper} {a : Act} {Q : Exit → Act → World → Prop} (hgd : o.guard = none) (sl x : Operand) (t u : TypeId)
    (ho : o.op = .call { callee := .builtin .append, args := #[sl, x], argTypes := #[t, u] })
    (base : Nat) (e : TypeId) (i : TypeInfo) (ht : P.underlying t = some (.slice e)) (hu : P.underlying u = some .string) (hi : P.info? e = some i) (hz : i.zero = some (.int .u8 0))
    (hsize : i.size = 1) (hby : i.bytes = 1) (v : Value) (n : Nat) (xs : List Value) (hs : a.eval sl = v) (hown : w.ownsRow base e 1 v n xs) (s : ByteArray) (hx : a.eval x = .string s) (h0 : 0 < s.size) (r : Option Nat) (hrow : RowOf v r)
    (hbytes : n + s.size ≤ 140737488355328) (hbase : base ≤ w.heap.size)
    (h : ∀ g cap w', w'.ownsRow base e 1 (.slice (some ⟨g, 0, none⟩) (n + s.size) cap) (n + s.size) (xs ++ Lib.strCells s) → Step w w' r (some g) →
      wpList P ops Q rest (a.put o.dst (.slice (some ⟨g, 0, none⟩) (n + s.size) cap)) w') : wpList P ops Q (o :: rest) a w := by
  refine wpList_plain hgd fun K hK => ?_
  obtain ⟨g, cap, w', hr, h2, h3⟩ := run_append_str (P := P) w base t u o.type e i ht hu hi hz hsize hby v n xs hown s h0 r hrow hbytes hbase
  unfold Oper.wp execOp
  simp only [ho, resolve, invoke, builtin, Sem.run_bind, Sem.run_pure, Result.andThen_ok, List.map_toArray, List.map_cons, List.map_nil, hs, hx, hr]
  exact hK _ _ (h g cap w' h2 h3)

/-- append(v, x) of one byte x, laid in a block of its own first -/
theorem run_append_one {P : Program} (w : World) (base : Nat) (t ty e : TypeId) (i : TypeInfo) (z : Value) (bytes : Nat) (ht : P.underlying t = some (.slice e)) (hi : P.info? e = some i) (hz : i.zero = some z)
    (hsize : i.size = 1) (hby : i.bytes = bytes) (hzs : z.cells.size = 1) (v : Value) (n : Nat) (xs : List Value) (hown : w.ownsRow base e 1 v n xs) (x : Value) (hx1 : x.oneCell' = true) (b : Nat) (hb : w.cell? ⟨b, 0, none⟩ = some x)
    (h63 : n + 1 ≤ maxLen) (hbytes : (n + 1) * bytes ≤ 140737488355328) (hbase : base ≤ w.heap.size) :
    ∃ g cap w', (Builtin.append_ #[t, t] ty #[v, .slice (some ⟨b, 0, none⟩) 1 1]).run P w = .ok (.slice (some ⟨g, 0, none⟩) (n + 1) cap) w' ∧
      w'.ownsRow base e 1 (.slice (some ⟨g, 0, none⟩) (n + 1) cap) (n + 1) (xs ++ [x]) ∧ Step w w' v.ownBlock (some g) := by
  obtain ⟨g, cap, w', h1, h2, h3, h4, _⟩ := run_append_lies (P := P) w t ty base e i z 1 bytes ht hi hz hsize hby hzs (by omega) v n xs hown ⟨b, 0, none⟩ 1 1 [x] rfl
    (fun j u hj => by
      match j, hj with
      | 0, hj => simp at hj; subst hj; simpa [Addr.add] using hb)
    (fun u hu => by simp at hu; subst hu; exact hx1) (by omega) h63 hbytes hbase w.heap.size rfl
  refine ⟨g, cap, w', h1, h2, h3, ?_⟩
  rcases h4 with h4 | h4
  · exact .inl h4.symm
  · exact .inr ⟨g, rfl, by omega⟩

theorem wpList_append_one {P : Program} {w : World} {ops : Array Oper} {rest : List Oper} {o : Oper} {a : Act} {Q : Exit → Act → World → Prop} (hgd : o.guard = none) (sl x : Operand) (t : TypeId)
    (ho : o.op = .call { callee := .builtin .append, args := #[sl, x], argTypes := #[t, t] })
    (base : Nat) (e : TypeId) (i : TypeInfo) (z : Value) (bytes : Nat) (ht : P.underlying t = some (.slice e)) (hi : P.info? e = some i) (hz : i.zero = some z)
    (hsize : i.size = 1) (hby : i.bytes = bytes) (hzs : z.cells.size = 1) (v : Value) (n : Nat) (xs : List Value) (hs : a.eval sl = v) (hown : w.ownsRow base e 1 v n xs) (y : Value) (hy1 : y.oneCell' = true) (b : Nat) (hx : a.eval x = .slice (some ⟨b, 0, none⟩) 1 1) (hb : w.cell? ⟨b, 0, none⟩ = some y)
    (h63 : n + 1 ≤ maxLen) (hbytes : (n + 1) * bytes ≤ 140737488355328) (hbase : base ≤ w.heap.size)
    (h : ∀ g cap w', w'.ownsRow base e 1 (.slice (some ⟨g, 0, none⟩) (n + 1) cap) (n + 1) (xs ++ [y]) → Step w w' v.ownBlock (some g) →
      wpList P ops Q rest (a.put o.dst (.slice (some ⟨g, 0, none⟩) (n + 1) cap)) w') : wpList P ops Q (o :: rest) a w := by
  refine wpList_plain hgd fun K hK => ?_
  obtain ⟨g, cap, w', hr, h2, h3⟩ := run_append_one (P := P) w base t o.type e i z bytes ht hi hz hsize hby hzs v n xs hown y hy1 b hb h63 hbytes hbase
  unfold Oper.wp execOp
  simp only [ho, resolve, invoke, builtin, Sem.run_bind, Sem.run_pure, Result.andThen_ok, List.map_toArray, List.map_cons, List.map_nil, hs, hx, hr]
  exact hK _ _ (h g cap w' h2 h3)
end Go.Proofs.Qxb6605914a
