import Derived.Test.Qxb6605914aHex
namespace Go.Proofs.Qxb6605914a
open Go.RowKit
set_option maxRecDepth 100000

def hexOf (bs : List Int) : List Int := bs.flatMap fun x => [dg (x / 16), dg (x % 16)]

def tabS : ByteArray := { data := #[48, 49, 50, 51, 52, 53, 54, 55, 56, 57, 97, 98, 99, 100, 101, 102] }

theorem tab_fin : ∀ d : Fin 16, (({ data := #[48, 49, 50, 51, 52, 53, 54, 55, 56, 57, 97, 98, 99, 100, 101, 102] } : ByteArray)[d.val]'(by exact d.isLt)).toNat = (dg (d.val : Int)).toNat := by decide
theorem tab_dg (d : Int) (h0 : 0 ≤ d) (h1 : d < 16) (h : d.toNat < ({ data := #[48, 49, 50, 51, 52, 53, 54, 55, 56, 57, 97, 98, 99, 100, 101, 102] } : ByteArray).size) :
    (((({ data := #[48, 49, 50, 51, 52, 53, 54, 55, 56, 57, 97, 98, 99, 100, 101, 102] } : ByteArray)[d.toNat]'h).toNat : Nat) : Int) = dg d := by
  have := tab_fin ⟨d.toNat, by omega⟩
  simp only [] at this
  rw [this, show ((d.toNat : Nat) : Int) = d by omega]
  unfold dg
  split <;> omega

theorem hexOf_length (bs : List Int) : (hexOf bs).length = 2 * bs.length := by
  induction bs with
  | nil => rfl
  | cons x t ih => simp only [hexOf, List.flatMap_cons, List.length_append, List.length_cons, List.length_nil] at ih ⊢; omega

theorem hexOf_append (a b : List Int) : hexOf (a ++ b) = hexOf a ++ hexOf b := by simp [hexOf]

theorem hexOf_take_succ {bs : List Int} {k : Nat} (h : k < bs.length) : hexOf (bs.take (k + 1)) = hexOf (bs.take k) ++ [dg (bs.getD k 0 / 16), dg (bs.getD k 0 % 16)] := by
  rw [List.take_succ_eq_append_getElem h, hexOf_append]
  simp [hexOf, h, List.getD]

theorem take_set_next' {α : Type} {cs : List α} {k : Nat} (u : α) (h : k < cs.length) : (cs.set k u).take (k + 1) = cs.take k ++ [u] := by
  rw [List.take_succ_eq_append_getElem (by simpa using h)]
  simp [List.take_set_of_le]

theorem grownBy_set {w w' : World} {g j : Nat} (h : w.grownBy w' (some g)) (u : Value) : w.grownBy (w'.setCell ⟨g, j, none⟩ u) (some g) :=
  ⟨h.os, h.tape, h.output, by simpa using h.size, fun k hk hne => by
    rw [heap_setCell_other w' ⟨g, j, none⟩ k u (fun e => hne (by simp [e]))]; exact h.block k hk hne⟩

theorem enc_step {w wr : World} {g n k cap : Nat} {cs' : List Value} {L : List Value} (u1 u2 : Value)
    (hcs : wr.ownsRow 0 5 1 (.slice (some ⟨g, 0, none⟩) cap cap) cap cs') (htk : cs'.take (n + 2 * k) = L) (hgw : w.grownBy wr (some g)) (hlt : n + 2 * k + 1 < cap) :
    (∃ cs2, ((wr.setCell ⟨g, n + 2 * k, none⟩ u1).setCell ⟨g, n + (2 * k + 1), none⟩ u2).ownsRow 0 5 1 (.slice (some ⟨g, 0, none⟩) cap cap) cap cs2 ∧ cs2.take (n + 2 * (k + 1)) = L ++ [u1, u2]) ∧
      w.grownBy ((wr.setCell ⟨g, n + 2 * k, none⟩ u1).setCell ⟨g, n + (2 * k + 1), none⟩ u2) (some g) := by
  have hl : cs'.length = cap := by have := hcs.1; omega
  refine ⟨⟨_, (((hcs.stored (n + 2 * k) u1).1).stored (n + (2 * k + 1)) u2).1, ?_⟩, grownBy_set (grownBy_set hgw u1) u2⟩
  rw [show n + 2 * (k + 1) = (n + (2 * k + 1)) + 1 by omega, take_set_next' _ (by simp; omega), show n + (2 * k + 1) = n + 2 * k + 1 by omega, take_set_next' _ (by omega), htk]
  simp

set_option maxHeartbeats 400000 in
theorem enc (w : World) (g n m cap c1 c2 : Nat) (so : Option Addr) (bs : List Int) (cs : List Value) (hm : bs.length = m) (hS : Rd w so bs) (hb : ∀ k, k < m → 0 ≤ bs.getD k 0 ∧ bs.getD k 0 ≤ 255)
    (hO : w.ownsRow 0 5 1 (.slice (some ⟨g, 0, none⟩) cap cap) cap cs) (hcap : n + 2 * m ≤ cap) (hs : n + 2 * m ≤ 16777216) (hne : ∀ b off, so = some ⟨b, off, none⟩ → b ≠ g) :
    Calls Try.prog 49 #[.slice (some ⟨g, n, none⟩) (2 * m) c1, .slice so m c2] w fun e w' => e = .returned (.int .i64 (m * 2)) ∧
      (∃ cs', w'.ownsRow 0 5 1 (.slice (some ⟨g, 0, none⟩) cap cap) cap cs' ∧ cs'.take (n + 2 * m) = cs.take n ++ cb (hexOf bs)) ∧ w.grownBy w' (some g) := by
  go_enter Try.func49, Try.ntmps49
  go_wp2
  go_loopw [5, 10] (fun j i wr => ∃ k : Nat, k ≤ m ∧ i = .int .i64 k ∧ j = .int .i64 (2 * k) ∧ (∃ cs', wr.ownsRow 0 5 1 (.slice (some ⟨g, 0, none⟩) cap cap) cap cs' ∧ cs'.take (n + 2 * k) = cs.take n ++ cb (hexOf (bs.take k))) ∧ w.grownBy wr (some g)) (fun _ i _ => m - (intOf i).toNat)
  case atStart => exact ⟨0, Nat.zero_le _, rfl, rfl, ⟨cs, hO, by simp [hexOf, cb]⟩, World.grownBy.refl _ _⟩
  case round =>
    obtain ⟨k, hk, rfl, rfl, ⟨cs', hcs, htk⟩, hgw⟩ := hrel
    have Htk := hid htk
    clear htk
    by_cases hlt : k < m
    · obtain ⟨b, off, rfl, hc⟩ := hS k (by omega)
      have hbg := hne b off rfl
      have hc' := hgw.cell hc (by simpa using hbg)
      obtain ⟨y0, y1⟩ := hb k hlt
      have hcl : cs'.length = cap := by have := hcs.1; omega
      have hcg := hcs.cellAt (n + 2 * k) (by omega)
      have hfz := hcs.frozenAt (n + 2 * k)
      rw [List.getElem?_eq_getElem (by omega)] at hcg
      have hcg1 := hcs.cellAt (n + (2 * k + 1)) (by omega)
      have hfz1 := hcs.frozenAt (n + (2 * k + 1))
      rw [List.getElem?_eq_getElem (by omega)] at hcg1
      have hx : cs.take n ++ cb (hexOf (bs.take (k + 1))) = cs.take n ++ cb (hexOf (bs.take k)) ++ [Value.int .u8 (dg (bs.getD k 0 / 16)), Value.int .u8 (dg (bs.getD k 0 % 16))] := by
        rw [hexOf_take_succ (by omega), cb_append]; simp [cb]
      generalize bs.getD k 0 = y at hc' y0 y1 hx
      have Hx := hid hx
      clear hx
      clear hc hS hb hne hO
      have R := enc_step (Value.int .u8 (dg (y / 16))) (Value.int .u8 (dg (y % 16))) hcs Htk.out hgw (by omega)
      have R := hid R
      go_wp2_with fail
      rw [tab_dg (y / 16) (by omega) (by omega), tab_dg (y % 16) (by omega) (by omega)]
      go_roundw
      case rel => exact ⟨k + 1, by omega, by go_num, by go_num, by rw [Hx.out]; exact R.out⟩
      case measure => simp [intOf]; omega
    · obtain rfl : m = k := by omega
      go_wp2_with fail
      go_ret
      refine ⟨rfl, ⟨cs', hcs, ?_⟩, hgw⟩
      have e2 : bs.take m = bs := List.take_of_length_le (by omega)
      rw [Htk.out, e2]
end Go.Proofs.Qxb6605914a
