import Derived.Test.Qxb6606000aPlain
namespace Go.Proofs.Qxb6606000a
open Go.RowKit

theorem run_append_zero {P : Program} (w : World) (t ty e : TypeId) (i : TypeInfo) (ht : P.underlying t = some (.slice e)) (hi : P.info? e = some i)
    (v : Value) (n : Nat) (xs : List Value) (hown : w.ownsRow 0 e 1 v n xs) (xo : Option Addr) (c : Nat) :
    (Builtin.append_ #[t, t] ty #[v, .slice xo 0 c]).run P w = .ok v w := by
  rcases hown.2 with ⟨rfl, rfl⟩ | ⟨g, cap, cur, rfl, _, _, hnc, _⟩
  · cases xo <;> simp [Builtin.append_, run_underlying ht, sizeOf, typeInfo, hi, Builtin.lenOf, Builtin.firstCells, loadCells, loadCellsFrom]
  · cases xo <;> simp [Builtin.append_, run_underlying ht, sizeOf, typeInfo, hi, Builtin.lenOf, Builtin.firstCells, hnc, storeCells, loadCells, loadCellsFrom]

/-- append(v, x...) onto a row of the call's own, x whatever slice (nil and empty too) -/
theorem wpList_append_any {P : Program} {w : World} {ops : Array Oper} {rest : List Oper} {o : Oper} {a : Act} {Q : Exit → Act → World → Prop} (hgd : o.guard = none) (sl x : Operand) (t : TypeId)
    (ho : o.op = .call { callee := .builtin .append, args := #[sl, x], argTypes := #[t, t] })
    (e : TypeId) (i : TypeInfo) (z : Value) (bytes : Nat) (ht : P.underlying t = some (.slice e)) (hi : P.info? e = some i) (hz : i.zero = some z)
    (hsize : i.size = 1) (hby : i.bytes = bytes) (hzs : z.cells.size = 1) (g0 n cap0 : Nat) (xs : List Value) (hs : a.eval sl = .slice (some ⟨g0, 0, none⟩) n cap0) (hown : w.ownsRow 0 e 1 (.slice (some ⟨g0, 0, none⟩) n cap0) n xs)
    (xo : Option Addr) (m c : Nat) (news : List Value) (hm : news.length = m) (hx1 : ∀ u ∈ news, u.oneCell' = true)
    (hx : a.eval x = .slice xo m c) (hnil : xo = none → m = 0) (hb : ∀ ad, xo = some ad → ∀ j u, news[j]? = some u → w.cell? (ad.add j) = some u)
    (h63 : n + m ≤ maxLen) (hbytes : (n + m) * bytes ≤ 140737488355328)
    (h : ∀ g cap w', w'.ownsRow 0 e 1 (.slice (some ⟨g, 0, none⟩) (n + m) cap) (n + m) (xs ++ news) → Step w w' (some g0) (some g) →
      wpList P ops Q rest (a.put o.dst (.slice (some ⟨g, 0, none⟩) (n + m) cap)) w') : wpList P ops Q (o :: rest) a w := by
  by_cases h0 : m = 0
  · subst h0
    have hn : news = [] := List.length_eq_zero_iff.1 hm
    subst hn
    refine wpList_plain hgd fun K hK => ?_
    have hr := run_append_zero (P := P) w t o.type e i ht hi _ n xs hown xo c
    unfold Oper.wp execOp
    simp only [ho, resolve, invoke, builtin, Sem.run_bind, Sem.run_pure, Result.andThen_ok, List.map_toArray, List.map_cons, List.map_nil, hs, hx, hr]
    exact hK _ _ (h g0 cap0 w (by simpa using hown) ⟨World.grownBy.refl _ _, .inl rfl⟩)
  · cases xo with
    | none => exact absurd (hnil rfl) h0
    | some ad => exact wpList_append_from hgd sl x t ho 0 e i z bytes ht hi hz hsize hby hzs _ n xs hs hown ad m c news hm (by omega) hx1 hx (hb ad rfl) h63 hbytes (Nat.zero_le _) h

theorem own_news {w : World} {ao : Option Addr} {n c : Nat} {B : List Int} (h : w.ownsRow 0 5 1 (.slice ao n c) n (cb B)) : (ao = none → n = 0) ∧ ∀ ad, ao = some ad → ∀ j u, (cb B)[j]? = some u → w.cell? (ad.add j) = some u := by
  refine ⟨fun e => ?_, fun ad e j u hj => ?_⟩
  · subst e
    rcases h.2 with ⟨_, h0⟩ | ⟨g, cap, cur, h', _⟩
    · exact h0
    · simp at h'
  · subst e
    rcases h.2 with ⟨h', _⟩ | ⟨g, cap, cur, h', _⟩
    · simp at h'
    · simp only [Value.slice.injEq, Option.some.injEq] at h'
      obtain ⟨rfl, _, rfl⟩ := h'
      exact h.cells (g := g) rfl j u hj
end Go.Proofs.Qxb6606000a
