import Derived.Test.Qxb6605914aRange
import Derived.Test.Qxb6605914aHex
namespace Go.Proofs.Qxb6605914a
open Go.RowKit
set_option maxRecDepth 100000

def setS : ByteArray := { data := #[115, 101, 116, 32] }

/-- what stands in xs: from pos on one line 'set <hex ks> <hex vs>' and a newline -/
structure LineAt (xs ks vs : List Int) (pos : Nat) : Prop where
  c0 : xs.getD pos 0 = 115
  c1 : xs.getD (pos + 1) 0 = 101
  c2 : xs.getD (pos + 2) 0 = 116
  c3 : xs.getD (pos + 3) 0 = 32
  key : ∀ k, k < ks.length → xs.getD (pos + 4 + 2 * k) 0 = dg (ks.getD k 0 / 16) ∧ xs.getD (pos + 4 + 2 * k + 1) 0 = dg (ks.getD k 0 % 16)
  sp : xs.getD (pos + 4 + 2 * ks.length) 0 = 32
  val : ∀ k, k < vs.length → xs.getD (pos + 4 + 2 * ks.length + 1 + 2 * k) 0 = dg (vs.getD k 0 / 16) ∧ xs.getD (pos + 4 + 2 * ks.length + 1 + 2 * k + 1) 0 = dg (vs.getD k 0 % 16)
  nl : xs.getD (pos + 4 + 2 * ks.length + 1 + 2 * vs.length) 0 = 10
  len : pos + 4 + 2 * ks.length + 1 + 2 * vs.length < xs.length

theorem dg_ge {d : Int} (h : 0 ≤ d) : 48 ≤ dg d := by unfold dg; split <;> omega

theorem hex_ge {xs ks : List Int} {p : Nat} (hk : ∀ k, k < ks.length → 0 ≤ ks.getD k 0 ∧ ks.getD k 0 ≤ 255)
    (h : ∀ k, k < ks.length → xs.getD (p + 2 * k) 0 = dg (ks.getD k 0 / 16) ∧ xs.getD (p + 2 * k + 1) 0 = dg (ks.getD k 0 % 16)) (j : Nat) (h1 : p ≤ j) (h2 : j < p + 2 * ks.length) : 48 ≤ xs.getD j 0 := by
  obtain ⟨k, rfl | rfl⟩ : ∃ k, j = p + 2 * k ∨ j = p + 2 * k + 1 := ⟨(j - p) / 2, by omega⟩
  · have := hk k (by omega); rw [(h k (by omega)).1]; exact dg_ge (by omega)
  · have := hk k (by omega); rw [(h k (by omega)).2]; exact dg_ge (by omega)

set_option maxHeartbeats 800000 in
theorem parse_true (w : World) (ao ko vo : Option Addr) (ca ck cv pos lx lk lv : Nat) (xs ks vs : List Int) (hlx : xs.length = lx) (hlk : ks.length = lk) (hlv : vs.length = lv) (hx : lx ≤ 16777216)
    (hA : Rd w ao xs) (hK : Rd w ko ks) (hV : Rd w vo vs) (hk : ∀ k, k < lk → 0 ≤ ks.getD k 0 ∧ ks.getD k 0 ≤ 255) (hv : ∀ k, k < lv → 0 ≤ vs.getD k 0 ∧ vs.getD k 0 ≤ 255) (hL : LineAt xs ks vs pos)
    (out : Int) (hout : out = ((pos + 4 + 2 * lk + 1 + 2 * lv + 1 : Nat) : Int)) :
    Calls Try.prog 22 #[.slice ao lx ca, .int .i64 pos, .slice ko lk ck, .slice vo lv cv] w fun e w' => e = .returned (.tuple #[.int .i64 out, .bool true]) ∧ ∃ q, w' = w.drewN q := by
  subst hlk hlv
  have hlen := hL.len
  rw [hlx] at hlen
  have hset : ∀ k (h : k < setS.size), xs.getD (pos + k) 0 = ((setS[k]'h).toNat : Int) := by
    intro k h
    have h4 : k < 4 := h
    match k, h4 with
    | 0, _ => exact hL.c0
    | 1, _ => exact hL.c1
    | 2, _ => exact hL.c2
    | 3, _ => exact hL.c3
  have Gk := hid (hex_ge hk hL.key)
  have Gv := hid (hex_ge hv hL.val)
  have Cs := hid hL.sp
  have Cn := hid hL.nl
  have Hkey := hid hL.key
  have Hval := hid hL.val
  clear hL
  generalize hs : pos + 4 + 2 * ks.length = s at *
  generalize hn : s + 1 + 2 * vs.length = nl at *
  have hs1 : pos + 4 ≤ s := by omega
  have hs2 : s + 1 ≤ nl := by omega
  have Hs := hid hs
  have Hn := hid hn
  have Hset := hid hset
  have Hout : Hid (out = ((nl + 1 : Nat) : Int)) := hout
  have Hlx := hid hlx
  have HA := hid hA
  have HK := hid hK
  have HV := hid hV
  have Hk := hid hk
  have Hv := hid hv
  clear hs hn hset hout hlx hA hK hV hk hv
  go_enter Try.func22, Try.ntmps22
  go_wp2_with fail
  refine (hasAt_true w ao ca pos lx xs Hlx.out setS (by show pos + 4 ≤ lx; omega) hx HA.out Hset.out).mono ?_
  rintro e w' ⟨rfl, q, rfl⟩
  go_wp2_with fail
  go_loop [10] (fun i => ∃ j : Nat, pos + 4 ≤ j ∧ j ≤ s ∧ i = .int .i64 j) (fun i => s - (intOf i).toNat)
  case atStart => exact ⟨pos + 4, by omega, by omega, by go_num⟩
  case round =>
    obtain ⟨j, hj1, hj2, rfl⟩ := hrel
    obtain ⟨b, off, rfl, hc⟩ := HA.out j (by have := Hlx.out; omega)
    by_cases hlt : j < s
    · have hge := Gk.out j hj1 hlt
      generalize xs.getD j 0 = c at hc hge
      have n1 : (c != 32) = true := by simp; omega
      have n2 : (c == 10) = false := by simp; omega
      go_wp2_with fail
      go_round
      case rel => exact ⟨j + 1, by omega, by omega, by go_num⟩
      case measure => simp [intOf]; omega
    · obtain rfl : s = j := by omega
      rw [Cs.out] at hc
      go_wp2_with fail
      go_loop [11] (fun i => ∃ j : Nat, s + 1 ≤ j ∧ j ≤ nl ∧ i = .int .i64 j) (fun i => nl - (intOf i).toNat)
      case atStart => exact ⟨s + 1, by omega, by omega, by go_num⟩
      case round =>
        obtain ⟨j, hj1, hj2, rfl⟩ := hrel
        obtain ⟨b', off', hbb, hd⟩ := HA.out j (by have := Hlx.out; omega)
        simp only [Option.some.injEq, Addr.mk.injEq, and_true] at hbb
        obtain ⟨rfl, rfl⟩ := hbb
        clear hc
        by_cases hlt : j < nl
        · have hge := Gv.out j hj1 hlt
          generalize xs.getD j 0 = c at hd hge
          have n1 : (c != 10) = true := by simp; omega
          have n2 : (c == 32) = false := by simp; omega
          go_wp2_with fail
          go_round
          case rel => exact ⟨j + 1, by omega, by omega, by go_num⟩
          case measure => simp [intOf]; omega
        · obtain rfl : nl = j := by omega
          rw [Cn.out] at hd
          go_wp2_with fail
          refine (hexField_true _ (some ⟨b, off, none⟩) ko ca ck (pos + 4) lx ks.length xs ks Hlx.out rfl _ _ (by omega) (by have := Hs.out; omega) (by have := Hs.out; omega) hx (by exact HA.out) (by exact HK.out) Hk.out Hkey.out).mono ?_
          rintro e w' ⟨rfl, q1, rfl⟩
          go_wp2_with fail
          refine (hexField_true _ (some ⟨b, off, none⟩) vo ca cv (s + 1) lx vs.length xs vs Hlx.out rfl _ _ (by omega) (by have := Hn.out; omega) (by have := Hn.out; omega) hx (by exact HA.out) (by exact HV.out) Hv.out Hval.out).mono ?_
          rintro e w' ⟨rfl, q2, rfl⟩
          go_wp2_with fail
          go_ret2
          exact ⟨ret_nb (by have := Hout.out; omega), _, rfl⟩
end Go.Proofs.Qxb6605914a
