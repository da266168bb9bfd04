import Derived.Test.Qxb6605914aStep
namespace Go.Proofs.Qxb6605914a
open Go.RowKit
set_option maxRecDepth 100000

/-- one line of the text: 'set <hex ks> <hex vs>' and a newline -/
def line (ks vs : List Int) : List Int := [115, 101, 116, 32] ++ hexOf ks ++ [32] ++ hexOf vs ++ [10]
theorem line_length (ks vs : List Int) : (line ks vs).length = 4 + 2 * ks.length + 1 + 2 * vs.length + 1 := by
  simp [line, hexOf_length]; omega

theorem set_cells : Lib.strCells ⟨#[115, 101, 116, 32]⟩ = cb [115, 101, 116, 32] := by simp [Lib.strCells, cb]

theorem appEnc' (w : World) (g n cap m c2 : Nat) (so : Option Addr) (T bs : List Int) (hT : T.length = n) (hm : bs.length = m) (hO : w.ownsRow 0 5 1 (.slice (some ⟨g, 0, none⟩) n cap) n (cb T))
    (hS : Rd w so bs) (hb : ∀ k, k < m → 0 ≤ bs.getD k 0 ∧ bs.getD k 0 ≤ 255) (hs : n + 2 * m ≤ 16777216) (hne : Apart w so (some g)) :
    Calls Try.prog 41 #[.slice (some ⟨g, 0, none⟩) n cap, .slice so m c2] w fun e w' => ∃ g' cap', e = .returned (.slice (some ⟨g', 0, none⟩) (n + 2 * m) cap') ∧
      w'.ownsRow 0 5 1 (.slice (some ⟨g', 0, none⟩) (n + 2 * m) cap') (n + 2 * m) (cb (T ++ hexOf bs)) ∧ Step w w' (some g) (some g') := by
  refine (appEnc w g n cap m c2 so T bs hT hm hO hS hb hs (fun b off e => ⟨fun h => (hne b off e).1 (by rw [h]), (hne b off e).2⟩)).mono ?_
  rintro e w' ⟨g', cap', rfl, h1, h2, h3⟩
  refine ⟨g', cap', rfl, h1, h2, ?_⟩
  rcases h3 with h3 | h3
  · exact .inl (by rw [h3])
  · exact .inr ⟨g', rfl, h3⟩

set_option maxHeartbeats 800000 in
theorem appSet (w : World) (v : Value) (n lk lv ck cv : Nat) (ko vo : Option Addr) (T ks vs : List Int) (hT : T.length = n) (hlk : ks.length = lk) (hlv : vs.length = lv)
    (hO : w.ownsRow 0 5 1 v n (cb T)) (hK : Rd w ko ks) (hV : Rd w vo vs) (hk : ∀ k, k < lk → 0 ≤ ks.getD k 0 ∧ ks.getD k 0 ≤ 255) (hv : ∀ k, k < lv → 0 ≤ vs.getD k 0 ∧ vs.getD k 0 ≤ 255)
    (hs : n + 2 * lk + 2 * lv + 6 ≤ 16777216) (r : Option Nat) (hrow : RowOf v r) (hKa : Apart w ko r) (hVa : Apart w vo r) :
    Calls Try.prog 35 #[v, .slice ko lk ck, .slice vo lv cv] w fun e w' => ∃ g cap N, e = .returned (.slice (some ⟨g, 0, none⟩) N cap) ∧ N = n + (line ks vs).length ∧
      w'.ownsRow 0 5 1 (.slice (some ⟨g, 0, none⟩) N cap) N (cb (T ++ line ks vs)) ∧ Step w w' r (some g) := by
  obtain ⟨i0, hi, hz0, hz1, hz2⟩ := info_parts info5
  have HKV := hid (And.intro hK (And.intro hV (And.intro hKa hVa)))
  have HO := hid hO
  have Hi := hid (And.intro hi (And.intro hz0 (And.intro hz1 hz2)))
  have Hk := hid hk
  have Hv := hid hv
  clear hK hV hKa hVa hO hi hz0 hz1 hz2 hk hv
  go_enter Try.func35, Try.ntmps35
  go_wp2_with (at_builtin; refine wpList_append_str (by rfl) (.tmp 7) _ 23 9 (by rfl) 0 5 i0 Try.underlying23 Try.underlying9 Hi.out.1 Hi.out.2.1 Hi.out.2.2.1 Hi.out.2.2.2 v n (cb T) (by rfl) HO.out ⟨#[115, 101, 116, 32]⟩ (by rfl) (by decide) r hrow (by show n + 4 ≤ _; omega) (Nat.zero_le _) ?_; intro g1 c1 w1 hO1 hS1; have HO1 := hid hO1; have HS1 := hid hS1; clear hO1 hS1)
  have HO1 : Hid (w1.ownsRow 0 5 1 (.slice (some ⟨g1, 0, none⟩) (n + 4) c1) (n + 4) (cb (T ++ [115, 101, 116, 32]))) := by
    have := HO1.out
    rw [set_cells, ← cb_append] at this
    exact this
  obtain ⟨hK1, hKa1⟩ := HS1.out.rd HKV.out.1 HKV.out.2.2.1
  obtain ⟨hV1, hVa1⟩ := HS1.out.rd HKV.out.2.1 HKV.out.2.2.2
  refine (appEnc' w1 g1 (n + 4) c1 lk ck ko (T ++ [115, 101, 116, 32]) ks (by simp; omega) hlk HO1.out hK1 Hk.out (by omega) hKa1).mono ?_
  rintro e w2 ⟨g2, c2, rfl, hO2, hS2⟩
  have hV2 := hS2.rd hV1 hVa1
  have HV2 := hid hV2
  have HO2 := hid (hO2.alloc (.cells #[.int .u8 32] 5))
  have HS2 := hid ((HS1.out.trans hS2).trans (Step.alloc w2 (.cells #[.int .u8 32] 5) _))
  clear hO2 hS2 hV2 hK1 hKa1 hV1 hVa1
  go_wp2_with (at_builtin; refine wpList_append_one (by rfl) (.tmp 12) _ 23 (by rfl) 0 5 i0 (.int .u8 0) 1 Try.underlying23 Hi.out.1 Hi.out.2.1 Hi.out.2.2.1 Hi.out.2.2.2 (by rfl) (.slice (some ⟨g2, 0, none⟩) (n + 4 + 2 * lk) c2) (n + 4 + 2 * lk) _ (by rfl) HO2.out (.int .u8 32) (by rfl) w2.heap.size (by rfl) (by simp) (by unfold maxLen; omega) (by omega) (Nat.zero_le _) ?_; intro g3 c3 w3 hO3 hS3; have HO3 := hid hO3; have HS3 := hid hS3; clear hO3 hS3)
  have HO3 : Hid (w3.ownsRow 0 5 1 (.slice (some ⟨g3, 0, none⟩) (n + 4 + 2 * lk + 1) c3) (n + 4 + 2 * lk + 1) (cb (T ++ [115, 101, 116, 32] ++ hexOf ks ++ [32]))) := by
    have := HO3.out
    rw [show ([Value.int .u8 32] : List Value) = cb [32] from rfl, ← cb_append] at this
    exact this
  have HS3' : Hid (Step w w3 r (some g3)) := HS2.out.trans HS3.out
  obtain ⟨hV3, hVa3⟩ := HS3.out.rd ((Step.alloc w2 (.cells #[.int .u8 32] 5) (some g2)).rd HV2.out.1 HV2.out.2).1 ((Step.alloc w2 (.cells #[.int .u8 32] 5) (some g2)).rd HV2.out.1 HV2.out.2).2
  refine (appEnc' w3 g3 (n + 4 + 2 * lk + 1) c3 lv cv vo (T ++ [115, 101, 116, 32] ++ hexOf ks ++ [32]) vs (by simp [hexOf_length]; omega) hlv HO3.out hV3 Hv.out (by omega) hVa3).mono ?_
  rintro e w4 ⟨g4, c4, rfl, hO4, hS4⟩
  have HO4 := hid (hO4.alloc (.cells #[.int .u8 10] 5))
  have HS4 := hid ((HS3'.out.trans hS4).trans (Step.alloc w4 (.cells #[.int .u8 10] 5) _))
  clear hO4 hS4 hV3 hVa3
  go_wp2_with (at_builtin; refine wpList_append_one (by rfl) (.tmp 18) _ 23 (by rfl) 0 5 i0 (.int .u8 0) 1 Try.underlying23 Hi.out.1 Hi.out.2.1 Hi.out.2.2.1 Hi.out.2.2.2 (by rfl) (.slice (some ⟨g4, 0, none⟩) (n + 4 + 2 * lk + 1 + 2 * lv) c4) (n + 4 + 2 * lk + 1 + 2 * lv) _ (by rfl) HO4.out (.int .u8 10) (by rfl) w4.heap.size (by rfl) (by simp) (by unfold maxLen; omega) (by omega) (Nat.zero_le _) ?_; intro g5 c5 w5 hO5 hS5; have HO5 := hid hO5; have HS5 := hid hS5; clear hO5 hS5)
  go_ret
  refine ⟨g5, c5, _, rfl, ?_, ?_, HS4.out.trans HS5.out⟩
  · rw [line_length, hlk, hlv]; omega
  · have := HO5.out
    rw [show ([Value.int .u8 10] : List Value) = cb [10] from rfl, ← cb_append] at this
    rw [show T ++ line ks vs = T ++ [115, 101, 116, 32] ++ hexOf ks ++ [32] ++ hexOf vs ++ [10] by simp [line]]
    exact this

set_option maxHeartbeats 400000 in
theorem zzSet (w : World) (v : Value) (n lk lv ck cv : Nat) (ko vo : Option Addr) (T ks vs : List Int) (hT : T.length = n) (hlk : ks.length = lk) (hlv : vs.length = lv)
    (hO : w.ownsRow 0 5 1 v n (cb T)) (hK : Rd w ko ks) (hV : Rd w vo vs) (hk : ∀ k, k < lk → 0 ≤ ks.getD k 0 ∧ ks.getD k 0 ≤ 255) (hv : ∀ k, k < lv → 0 ≤ vs.getD k 0 ∧ vs.getD k 0 ≤ 255)
    (hs : n + 2 * lk + 2 * lv + 6 ≤ 16777216) (r : Option Nat) (hrow : RowOf v r) (hKa : Apart w ko r) (hVa : Apart w vo r) :
    Calls Try.prog 21 #[v, .slice ko lk ck, .slice vo lv cv] w fun e w' => ∃ g cap N, e = .returned (.slice (some ⟨g, 0, none⟩) N cap) ∧ N = n + (line ks vs).length ∧
      w'.ownsRow 0 5 1 (.slice (some ⟨g, 0, none⟩) N cap) N (cb (T ++ line ks vs)) ∧ Step w w' r (some g) := by
  have H := hid (appSet w v n lk lv ck cv ko vo T ks vs hT hlk hlv hO hK hV hk hv hs r hrow hKa hVa)
  clear hO hK hV hk hv hrow hKa hVa hT hlk hlv
  go_enter Try.func21, Try.ntmps21
  go_wp2_with fail
  refine H.out.mono ?_
  rintro e w' ⟨g, cap, N, rfl, h1, h2, h3⟩
  have H2 := hid (And.intro h1 (And.intro h2 h3))
  clear h1 h2 h3
  go_wp2_with fail
  go_ret
  exact ⟨g, cap, N, rfl, H2.out.1, H2.out.2.1, H2.out.2.2⟩
end Go.Proofs.Qxb6605914a
