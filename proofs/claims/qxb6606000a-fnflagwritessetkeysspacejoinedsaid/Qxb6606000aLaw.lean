import Derived.Test.Qxb6606000aAny
import Derived.Deep.DeepCutAuto
namespace Go.Proofs.Qxb6606000a
open Go.RowKit
set_option maxRecDepth 100000

theorem key_some {s : ByteArray} (h : s.toList.isEmpty = false) : 0 < s.size := by
  rcases Nat.eq_zero_or_pos s.size with h0 | h0
  · exfalso
    rw [ByteArray.toList, ByteArray.toList.loop] at h
    simp [h0] at h
  · exact h0

theorem old_step {w6 wr w7 : World} {u : Option Nat} {g : Nat} (h1 : w6.grownBy wr none) (h2 : ∀ g, u = some g → w6.heap.size ≤ g) (h3 : Step wr w7 u (some g)) :
    w6.grownBy w7 none ∧ w6.heap.size ≤ g := by
  refine ⟨grown_trans h1 h3.1 h2, ?_⟩
  rcases h3.2 with h | ⟨k, h, hk⟩
  · exact h2 g h.symm
  · have := h1.size
    simp at h; omega

theorem own9_form {w : World} {v : Value} {n : Nat} {ws : List ByteArray} (hn : ws.length = n) (h : w.ownsRow 0 9 1 v n (ws.map Value.string)) : ∃ ao c, v = .slice ao n c ∧ Rd w ao n (fK ws) := by
  have h0 := h
  obtain ⟨ao, c, rfl⟩ : ∃ ao c, v = .slice ao n c := by
    rcases h.2 with ⟨rfl, hz⟩ | ⟨g, cap, cur, rfl, _⟩
    · exact ⟨none, 0, by rw [hz]⟩
    · exact ⟨_, _, rfl⟩
  refine ⟨ao, c, rfl, (own_rd h0).congr (fun j hj => ?_)⟩
  show (ws.map Value.string).getD j undef = fK ws j
  unfold fK
  simp [List.getD, hn, hj]

/-- the wanted text: a row of the call's own that holds C, made behind w7 -/
structure WS (w7 wx : World) (g cap N : Nat) (C : List Int) : Prop where
  len : C.length = N
  own : wx.ownsRow 0 5 1 (.slice (some ⟨g, 0, none⟩) N cap) N (cb C)
  old : w7.grownBy wx none
  ge : w7.heap.size ≤ g

theorem ws_step {w7 wr w8 : World} {g0 g N cap : Nat} {C : List Int} (h1 : w7.grownBy wr none) (h2 : w7.heap.size ≤ g0) (hS : Step wr w8 (some g0) (some g)) (hN : C.length = N) (hO : w8.ownsRow 0 5 1 (.slice (some ⟨g, 0, none⟩) N cap) N (cb C)) :
    WS w7 w8 g cap N C := by
  obtain ⟨h3, h4⟩ := old_step h1 (fun k e => by simp at e; omega) hS
  exact ⟨hN, hO, h3, h4⟩

set_option maxHeartbeats 1600000 in
theorem law_walk (w : World) (a0 a2 a3 : Option Addr) (n0 nk ns c0 c2 c3 : Nat) (st : Int) (B : List Int) (K : List ByteArray) (S : List Bool) (hB : B.length = n0)
    (m0 : n0 ≤ maxLen) (m2 : nk ≤ maxLen) (m3 : ns ≤ maxLen) (hm : ∀ r, r < nk → (K.getD r ByteArray.empty).size ≤ maxLen) (rB : Rd w a0 n0 (fB B)) (rK : Rd w a2 nk (fK K)) (rS : Rd w a3 ns (fS S)) :
    Calls Try.prog 3 #[.slice a0 n0 c0, .int .i64 st, .slice a2 nk c2, .slice a3 ns c3] w fun e w' => e = .returned (.bool true) ∧ Below w.heap.size w w' := by
  obtain ⟨i9, hi9, hz0, hz1, hz2⟩ := info_parts info9
  have Hi9 := hid (And.intro hi9 (And.intro hz0 (And.intro hz1 hz2)))
  clear hi9 hz0 hz1 hz2
  obtain ⟨i5, hi5, hz0, hz1, hz2⟩ := info_parts info5
  have Hi5 := hid (And.intro hi5 (And.intro hz0 (And.intro hz1 hz2)))
  clear hi5 hz0 hz1 hz2
  have HB := hid rB
  have HK := hid rK
  have HS := hid rS
  have Hm := hid (And.intro m0 (And.intro m2 (And.intro m3 hm)))
  clear rB rK rS m0 m2 m3 hm
  go_enter Try.func3, Try.ntmps3
  go_wp2_with fail
  refine (bytes4 _ a0 a2 a3 n0 nk ns c0 c2 c3 st K Hm.out.1 Hm.out.2.1 Hm.out.2.2.1 HK.out Hm.out.2.2.2).mono ?_
  rintro e w' ⟨⟨b, rfl, hb⟩, rfl⟩
  cases b with
  | false =>
    clear hb
    go_wp2_with fail
    go_ret
    exact ⟨rfl, Below.refl _ _⟩
  | true =>
    replace hb := hb rfl
    have s0 : n0 ≤ 1048576 := by omega
    have s2 : nk ≤ 1048576 := by omega
    have s3 : ns ≤ 1048576 := by omega
    have Hb := hid hb
    have Hk : Hid (∀ r, r < nk → (K.getD r ByteArray.empty).size ≤ 1048576) := fun r hr => by have := sl_each K nk r hr; omega
    clear hb Hm
    go_wp2_with fail
    refine (strBytes _ a2 nk c2 K s2 HK.out Hk.out).mono ?_
    rintro e w2 ⟨⟨t, rfl, ht, htt⟩, rfl⟩
    clear htt
    rcases Nat.lt_or_ge 1048576 (n0 + ns + t) with hbig | hsm
    · go_wp2_with fail
      go_ret
      exact ⟨rfl, Below.refl _ _⟩
    go_wp2_with fail
    refine (startFits _ a0 n0 c0 st B s0 HB.out).mono ?_
    rintro e w3 ⟨⟨b, rfl, hb⟩, rfl⟩
    cases b with
    | false =>
      clear hb
      go_wp2_with fail
      go_ret
      exact ⟨rfl, Below.refl _ _⟩
    | true =>
      obtain ⟨st0, st1⟩ := hb rfl
      clear hb
      go_wp2_with fail
      go_loop [9] (fun i => ∃ k : Nat, k ≤ nk ∧ i = .int .i64 k ∧ ∀ r, r < k → on S ns r = true → 0 < (K.getD r ByteArray.empty).size) (fun i => nk - (intOf i).toNat)
      case atStart => exact ⟨0, Nat.zero_le _, rfl, fun r hr => by omega⟩
      case round =>
        obtain ⟨k, hk, rfl, hne⟩ := hrel
        have Hne := hid hne
        clear hne
        by_cases hlt : k < nk
        · obtain ⟨kb, ko, rfl, hck⟩ := HK.out k hlt
          unfold fK at hck
          by_cases hks : k < ns
          · obtain ⟨sb, so, rfl, hcs⟩ := HS.out k hks
            unfold fS at hcs
            have hon : Hid (on S ns k = S.getD k false) := by show _ = _; simp [on, hks]
            have Hnext : Hid ((S.getD k false = true → 0 < (K.getD k ByteArray.empty).size) → ∀ r, r < k + 1 → on S ns r = true → 0 < (K.getD r ByteArray.empty).size) := fun h r hr ho => by
              rcases Nat.lt_or_ge r k with h' | h'
              · exact Hne.out r h' ho
              · obtain rfl : r = k := by omega
                rw [hon.out] at ho; exact h ho
            generalize S.getD k false = on1 at hcs Hnext
            generalize K.getD k ByteArray.empty = key at hck Hnext
            clear hon
            cases on1
            · go_wp2_with fail
              go_round
              case rel => exact ⟨k + 1, by omega, by go_num, Hnext.out (by simp)⟩
              case measure => simp [intOf]; omega
            · go_wp2_with fail
              · go_ret
                exact ⟨rfl, Below.refl _ _⟩
              · have hkey : key.toList.isEmpty = false := by assumption
                go_round
                case rel => exact ⟨k + 1, by omega, by go_num, Hnext.out (fun _ => key_some hkey)⟩
                case measure => simp [intOf]; omega
          · have Hnext : Hid (∀ r, r < k + 1 → on S ns r = true → 0 < (K.getD r ByteArray.empty).size) := fun r hr ho => by
              rcases Nat.lt_or_ge r k with h' | h'
              · exact Hne.out r h' ho
              · obtain rfl : r = k := by omega
                simp [on, hks] at ho
            have hdk : decide (k < ns) = false := by simp; omega
            go_wp2_with fail
            go_round
            case rel => exact ⟨k + 1, by omega, by go_num, Hnext.out⟩
            case measure => simp [intOf]; omega
        · obtain rfl : nk = k := by omega
          go_wp2_with fail
          refine (cloneBytes _ a0 n0 c0 B hB (by omega) (by exact HB.out)).mono ?_
          rintro e w4 ⟨b0, rfl, hO4, hg4, hb4⟩
          have D4 := hid (And.intro hO4 hg4)
          have HK4 := hid (HK.out.kept hg4)
          have HS4 := hid (HS.out.kept hg4)
          clear hO4 hg4 hb4
          go_wp2_with fail
          refine (cloneStr _ a2 nk c2 K (by omega) (by exact HK4.out)).mono ?_
          rintro e w5 ⟨b2, rfl, hK5, hg5⟩
          have D5 := hid (And.intro hK5 hg5)
          have HS5 := hid (HS4.out.kept hg5)
          clear hK5 hg5
          go_wp2_with fail
          refine (cloneBools _ a3 ns c3 S (by omega) (by exact HS5.out)).mono ?_
          rintro e w6 ⟨b3, rfl, hS6, hg6⟩
          have any : ∀ v : Value, v.ownBlock = none ∨ v.ownBlock ≠ none := fun v => by cases v.ownBlock <;> simp
          have E6 : Hid (w6.ownsRow 0 5 1 (.slice b0 n0 n0) n0 (cb B) ∧ Rd w6 b2 nk (fK K) ∧ Rd w6 b3 ns (fS S) ∧ Below w3.heap.size w3 w6) := by
            refine ⟨(D4.out.1.kept D5.out.2 (any _)).kept hg6 (any _), D5.out.1.kept hg6, hS6, ?_⟩
            have h1 := grown_below rfl D4.out.2
            have h2 := grown_below rfl D5.out.2
            have h3 := grown_below rfl hg6
            exact (h1.trans (h2.mono h1.size)).trans (h3.mono (Nat.le_trans h1.size h2.size))
          clear D4 HK4 HS4 D5 HS5 hS6 hg6 any HB HK HS
          go_wp2_with fail
          go_loopw [10, 11] (fun tv i wr => ∃ k : Nat, k ≤ nk ∧ i = .int .i64 k ∧ wr.ownsRow 0 9 1 tv (wds K S ns k).length ((wds K S ns k).map Value.string) ∧ w6.grownBy wr none ∧ (∀ g, tv.ownBlock = some g → w6.heap.size ≤ g)) (fun _ i _ => nk - (intOf i).toNat)
          case atStart => exact ⟨0, Nat.zero_le _, rfl, World.ownsRow_nil _ _ _ _, World.grownBy.refl _ _, by simp [Value.ownBlock]⟩
          case round =>
            obtain ⟨k, hk, rfl, hO, hgw, hgb⟩ := hrel
            have HO := hid (And.intro hO (And.intro hgw hgb))
            clear hO hgw hgb
            by_cases hlt : k < nk
            · obtain ⟨kb, ko, rfl, hck⟩ := (E6.out.2.1.kept HO.out.2.1) k hlt
              unfold fK at hck
              by_cases hks : k < ns
              · obtain ⟨sb, so, rfl, hcs⟩ := (E6.out.2.2.1.kept HO.out.2.1) k hks
                unfold fS at hcs
                have Hy : Hid (S.getD k false = true → wds K S ns (k + 1) = wds K S ns k ++ [K.getD k ByteArray.empty]) := fun h => by simp only [wds]; rw [if_pos (by simp only [on, hks, decide_true, Bool.true_and]; exact h)]
                have Hn : Hid (S.getD k false = false → wds K S ns (k + 1) = wds K S ns k) := fun h => by simp only [wds]; rw [if_neg (by simp only [on, hks, decide_true, Bool.true_and]; rw [h]; simp)]
                have hwl := wds_len K S ns k
                generalize S.getD k false = on1 at hcs Hy Hn
                generalize K.getD k ByteArray.empty = key at hck Hy
                cases on1
                · have Hn' := hid (Hn.out rfl)
                  go_wp2_with fail
                  go_roundw
                  case rel => exact ⟨k + 1, by omega, by go_num, by rw [Hn'.out]; exact HO.out.1, HO.out.2.1, HO.out.2.2⟩
                  case measure => simp [intOf]; omega
                · have Hy' := hid (Hy.out rfl)
                  clear Hy Hn
                  have HO1 := hid (HO.out.1.alloc (.cells #[.string key] 9))
                  generalize hwk : wds K S ns k = wk at *
                  have Hwk := hid hwk
                  clear hwk
                  go_wp2_with (at_builtin; refine wpList_append_from (by rfl) (.tmp 94) (.tmp 99) 23 (by rfl) 0 9 i9 (.string ⟨#[]⟩) 16 Try.underlying23 Hi9.out.1 Hi9.out.2.1 Hi9.out.2.2.1 Hi9.out.2.2.2 (by rfl) u10 wk.length (wk.map Value.string) (by rfl) HO1.out ⟨wr.heap.size, 0, none⟩ 1 1 [.string key] rfl (by omega) (by simp; rfl) (by rfl) (one_news (by simp)) (by unfold maxLen; omega) (by omega) (Nat.zero_le _) ?_; intro g cap w7 hO7 hS7; have HO7 := hid hO7; have HS7 := hid ((Step.alloc wr (.cells #[.string key] 9) _).trans hS7); clear hO7 hS7)
                  have R := hid (old_step HO.out.2.1 HO.out.2.2 HS7.out)
                  go_roundw
                  case rel =>
                    refine ⟨k + 1, by omega, by go_num, ?_, R.out.1, fun g1 e => ?_⟩
                    · rw [Hy'.out, List.map_append, List.length_append]; exact HO7.out
                    · simp [Value.ownBlock] at e; rw [← e]; exact R.out.2
                  case measure => simp [intOf]; omega
              · have hdk : decide (k < ns) = false := by simp; omega
                have Hn' : Hid (wds K S ns (k + 1) = wds K S ns k) := by simp only [wds]; show _ = _; rw [if_neg (by simp [on, hdk])]
                go_wp2_with fail
                go_roundw
                case rel => exact ⟨k + 1, by omega, by go_num, by rw [Hn'.out]; exact HO.out.1, HO.out.2.1, HO.out.2.2⟩
                case measure => simp [intOf]; omega
            · obtain rfl : nk = k := by omega
              have Hws := hid (wds_from K S ns nk)
              have Hwl := hid (wds_sl K S ns nk)
              have hwl := wds_len K S ns nk
              have Hcur := hid (cur_eq st B K S ns nk (by rw [hB]; exact st1) Hne.out nk (Nat.le_refl _))
              generalize wds K S ns nk = ws at *
              obtain ⟨wo, wcap, rfl, hRw⟩ := own9_form rfl HO.out.1
              have F : Hid (Rd wr wo ws.length (fK ws) ∧ wr.ownsRow 0 5 1 (.slice b0 n0 n0) n0 (cb B) ∧ Rd wr b2 nk (fK K) ∧ Rd wr b3 ns (fS S) ∧ Below w3.heap.size w3 wr) :=
                ⟨hRw, E6.out.1.kept HO.out.2.1 (by cases (Value.slice b0 n0 n0).ownBlock <;> simp), E6.out.2.1.kept HO.out.2.1, E6.out.2.2.1.kept HO.out.2.1, E6.out.2.2.2.trans ((grown_below rfl HO.out.2.1).mono E6.out.2.2.2.size)⟩
              clear hRw HO E6
              generalize hwn : ws.length = m at *
              have Hwn := hid hwn
              clear hwn
              go_wp2_with fail
              refine (strBytes _ wo m wcap ws (by omega) F.out.1 (fun r hr => by obtain ⟨i, h1, h2, h3⟩ := Hws.out r (by have := Hwn.out; omega); rw [h3]; exact Hk.out i h1)).mono ?_
              rintro e w7 ⟨⟨t2, rfl, ht2, htt2⟩, rfl⟩
              clear htt2
              have hst5 : (Value.int IntKind.u8 0).cells.size = 1 := rfl
              go_upto_if 112 with (first
                | (at_make; refine wpList_make_own _ (by rfl) _ _ 22 (by rfl) 0 5 i5 (.int .u8 0) 1 Try.underlying22 Hi5.out.1 Hi5.out.2.1 Hi5.out.2.2.1 .i64 .i64 _ (n0 + t2) (by rfl) (by rfl) (by omega) (by rw [Hi5.out.2.2.2]; omega) (by unfold maxLen; omega) (Nat.zero_le _) ?_; intro w8 hO8 hg8; have HO8 := hid hO8; have Hg8 := hid hg8; clear hO8 hg8)
                | (at_builtin; refine wpList_append_any (by rfl) (.tmp 107) (.tmp 108) 22 (by rfl) 5 i5 (.int .u8 0) 1 Try.underlying22 Hi5.out.1 Hi5.out.2.1 Hi5.out.2.2.1 Hi5.out.2.2.2 hst5 w7.heap.size 0 (n0 + t2) [] (by rfl) HO8.out b0 n0 n0 (cb B) (by rw [cb_length, hB]) (cb_one B) (by rfl) (own_news F.out.2.1).1 (own_news (F.out.2.1.kept Hg8.out (by cases (Value.slice b0 n0 n0).ownBlock <;> simp))).2 (by unfold maxLen; omega) (by omega) ?_; intro g9 cap9 w9 hO9 hS9; have HO9 := hid hO9; have HS9 := hid hS9; clear hO9 hS9))
              have HW9 : Hid (WS w7 w9 g9 cap9 n0 B) :=
                ws_step Hg8.out (Nat.le_refl _) HS9.out hB (by have := HO9.out; rw [Nat.zero_add, List.nil_append] at this; exact this)
              clear HO8 Hg8 HO9 HS9
              go_cut [12] (fun v wx => ∃ g cap N, v = .slice (some ⟨g, 0, none⟩) N cap ∧ WS w7 wx g cap N (wt st B ws))
              case first =>
                by_cases hm0 : m = 0
                · have hdm : decide (0 < m) = false := by simp; omega
                  go_wp2_with fail
                  go_meet
                  case rel =>
                    have hws : ws = [] := List.length_eq_zero_iff.1 (by rw [Hwn.out]; exact hm0)
                    rw [hws]
                    exact ⟨_, _, _, rfl, HW9.out⟩
                · have hdm : decide (0 < m) = true := by simp; omega
                  go_upto_if 116 with fail
                  go_cut [12] (fun v wx => ∃ g cap N, v = .slice (some ⟨g, 0, none⟩) N cap ∧ WS w7 wx g cap N (B ++ sp st B))
                  case first =>
                    by_cases hst : st < n0
                    · have hds : decide (st < n0) = true := by simp; omega
                      have HO10 := hid (HW9.out.own.alloc (.cells #[.int .u8 32] 5))
                      go_wp2_with (at_builtin; refine wpList_append_from (by rfl) (.tmp 117) (.tmp 118) 22 (by rfl) 0 5 i5 (.int .u8 0) 1 Try.underlying22 Hi5.out.1 Hi5.out.2.1 Hi5.out.2.2.1 Hi5.out.2.2.2 hst5 (.slice (some ⟨g9, 0, none⟩) n0 cap9) n0 (cb B) (by rfl) HO10.out ⟨w9.heap.size, 0, none⟩ 1 1 [.int .u8 32] rfl (by omega) (by simp; rfl) (by rfl) (one_news (by simp)) (by unfold maxLen; omega) (by omega) (Nat.zero_le _) ?_; intro g11 cap11 w11 hO11 hS11; have HO11 := hid hO11; have HS11 := hid ((Step.alloc w9 (.cells #[.int .u8 32] 5) _).trans hS11); clear hO11 hS11)
                      go_meet
                      case rel =>
                        refine ⟨_, _, _, rfl, ws_step HW9.out.old HW9.out.ge HS11.out ?_ ?_⟩
                        · simp [sp, hB, hst]
                        · rw [show sp st B = [32] by simp [sp, hB, hst], cb_append]; exact HO11.out
                    · have hds : decide (st < n0) = false := by simp; omega
                      go_wp2_with fail
                      go_meet
                      case rel =>
                        rw [show sp st B = [] by simp [sp, hB, hst], List.append_nil]
                        exact ⟨_, _, _, rfl, HW9.out⟩
                  case rest =>
                    have Hcut := hid hcut
                    clear hcut HW9
                    go_wp2_with fail
                    go_loopw [12, 13] (fun v i wx => ∃ j : Nat, j ≤ m ∧ i = .int .i64 j ∧ ∃ g cap N, v = .slice (some ⟨g, 0, none⟩) N cap ∧ WS w7 wx g cap N (wj st B ws j)) (fun _ i _ => m - (intOf i).toNat)
                    case atStart =>
                      obtain ⟨g, cap, N, hv, hW⟩ := Hcut.out
                      exact ⟨0, Nat.zero_le _, rfl, g, cap, N, hv, hW⟩
                    case round =>
                      obtain ⟨j, hj, rfl, g, cap, N, rfl, hW⟩ := hrel
                      have HW := hid hW
                      clear hW
                      by_cases hlt : j < m
                      · obtain ⟨xb, xo, rfl, hcx⟩ := (F.out.1.kept HW.out.old) j hlt
                        unfold fK at hcx
                        have hsz : 0 < (ws.getD j ByteArray.empty).size := by
                          obtain ⟨i, h1, h2, h3⟩ := Hws.out j hlt
                          rw [h3]; exact Hne.out i h1 h2
                        have hbd : N + 1 + (ws.getD j ByteArray.empty).size ≤ 4194304 := by
                          have e1 := wj_len st B ws j (by rw [Hwn.out]; omega)
                          have e2 := sl_le ws m (j + 1) hlt
                          have e3 := Hwl.out
                          have e4 := Hb.out
                          have e5 := HW.out.len
                          simp only [sl] at e2
                          omega
                        have Hfirst : Hid (j = 0 → wj st B ws (j + 1) = wj st B ws j ++ kb (ws.getD j ByteArray.empty)) := fun h => by subst h; exact wj_first st B ws (by rw [Hwn.out]; exact hlt)
                        have Hnext : Hid (0 < j → wj st B ws (j + 1) = wj st B ws j ++ [32] ++ kb (ws.getD j ByteArray.empty)) := fun h => wj_next st B ws j h (by rw [Hwn.out]; exact hlt)
                        generalize ws.getD j ByteArray.empty = key at hcx hsz hbd Hfirst Hnext
                        have hkl := kb_length key
                        have NEg : Hid (some xb ≠ some g) := by
                          obtain ⟨b', off', e, hh⟩ := F.out.1 j hlt
                          simp only [Option.some.injEq, Addr.mk.injEq, and_true] at e
                          obtain ⟨rfl, rfl⟩ := e
                          have h1 : xb < w7.heap.size := World.block_lt_of_cell? _ _ hh
                          have h2 := HW.out.ge
                          intro e; simp at e; omega
                        by_cases hj0 : j = 0
                        · have Hf := hid (Hfirst.out hj0)
                          have hdj : decide ((0 : Int) < (j : Int)) = false := by simp; omega
                          have hdj' : decide (0 < j) = false := by simp; omega
                          have Hj0 := hid hj0
                          clear hj0
                          have HO10 := hid HW.out.own
                          clear Hfirst Hnext
                          go_wp2_with (at_builtin; refine wpList_append_str (by rfl) (.tmp 131) (.tmp 135) 22 9 (by rfl) 0 5 i5 Try.underlying22 Try.underlying9 Hi5.out.1 Hi5.out.2.1 Hi5.out.2.2.1 Hi5.out.2.2.2 (.slice (some ⟨g, 0, none⟩) N cap) N (cb (wj st B ws j)) (by rfl) HO10.out key (by rfl) hsz (by omega) (Nat.zero_le _) ?_; intro g11 cap11 w11 hO11 hS11; have HO11 := hid hO11; have HS11 := hid hS11; clear hO11 hS11)
                          go_roundw
                          case rel =>
                            refine ⟨j + 1, by omega, by go_num, _, _, _, rfl, ws_step HW.out.old HW.out.ge HS11.out ?_ ?_⟩
                            · have := HW.out.len; rw [Hf.out, List.length_append]; omega
                            · rw [Hf.out, cb_append, ← kb_cells]; exact HO11.out
                          case measure => simp [intOf]; omega
                        · have hdj : decide ((0 : Int) < (j : Int)) = true := by simp; omega
                          have hdj' : decide (0 < j) = true := by simp; omega
                          have Hf := hid (Hnext.out (by omega))
                          have HO10 := hid (HW.out.own.alloc (.cells #[.int .u8 32] 5))
                          clear Hfirst Hnext
                          go_wp2_with (first
                            | (at_builtin; refine wpList_append_from (by rfl) (.tmp 128) (.tmp 129) 22 (by rfl) 0 5 i5 (.int .u8 0) 1 Try.underlying22 Hi5.out.1 Hi5.out.2.1 Hi5.out.2.2.1 Hi5.out.2.2.2 hst5 (.slice (some ⟨g, 0, none⟩) N cap) N (cb (wj st B ws j)) (by rfl) HO10.out ⟨wr.heap.size, 0, none⟩ 1 1 [.int .u8 32] rfl (by omega) (by simp; rfl) (by rfl) (one_news (by simp)) (by unfold maxLen; omega) (by omega) (Nat.zero_le _) ?_; intro g11 cap11 w11 hO11 hS11; have HO11 := hid hO11; have HS11 := hid ((Step.alloc wr (.cells #[.int .u8 32] 5) _).trans hS11); clear hO11 hS11; have hcx11 := HS11.out.1.cell hcx NEg.out)
                            | (at_builtin; refine wpList_append_str (by rfl) (.tmp 131) (.tmp 135) 22 9 (by rfl) 0 5 i5 Try.underlying22 Try.underlying9 Hi5.out.1 Hi5.out.2.1 Hi5.out.2.2.1 Hi5.out.2.2.2 (.slice (some ⟨g11, 0, none⟩) (N + 1) cap11) (N + 1) _ (by rfl) HO11.out key (by rfl) hsz (by omega) (Nat.zero_le _) ?_; intro g12 cap12 w12 hO12 hS12; have HO12 := hid hO12; have HS12 := hid (HS11.out.trans hS12); clear hO12 hS12))
                          go_roundw
                          case rel =>
                            refine ⟨j + 1, by omega, by go_num, _, _, _, rfl, ws_step HW.out.old HW.out.ge HS12.out ?_ ?_⟩
                            · have := HW.out.len; rw [Hf.out, List.length_append, List.length_append]; simp only [List.length_cons, List.length_nil]; omega
                            · rw [Hf.out, cb_append, cb_append, ← kb_cells]; exact HO12.out
                          case measure => simp [intOf]; omega
                      · obtain rfl : m = j := by omega
                        go_wp2_with fail
                        go_meet
                        case rel =>
                          refine ⟨_, _, _, rfl, ?_⟩
                          have := HW.out
                          rw [show wj st B ws m = wt st B ws by have := wj_end st B ws (by rw [Hwn.out]; omega); rw [Hwn.out] at this; exact this] at this
                          exact this
              case rest =>
                obtain ⟨g, cap, N, rfl, hW⟩ := hcut
                have HW := hid hW
                have F10 : Hid (Rd wc b0 n0 (fB B) ∧ Rd wc b2 nk (fK K) ∧ Rd wc b3 ns (fS S) ∧ Below w3.heap.size w3 wc) :=
                  ⟨own_bytes_rd (F.out.2.1.kept hW.old (by cases (Value.slice b0 n0 n0).ownBlock <;> simp)), F.out.2.2.1.kept hW.old, F.out.2.2.2.1.kept hW.old, F.out.2.2.2.2.trans ((grown_below rfl hW.old).mono F.out.2.2.2.2.size)⟩
                clear hW HW9 F Hws hst5
                go_wp2_with fail
                refine (cloneBytes _ b0 n0 n0 B hB (by omega) (by exact F10.out.1)).mono ?_
                rintro e w10 ⟨ao, rfl, hO10, hg10, hb10⟩
                have D10 := hid (And.intro hO10 (And.intro hg10 hb10))
                clear hO10 hg10 hb10
                go_wp2_with fail
                refine (newLine _ ao n0 n0 st).mono ?_
                rintro e w11 ⟨rfl, hw11⟩
                generalize hL : w10.heap.size = L at *
                have HL0 : Hid (LSt wc w11 L st B ao n0) := by
                  subst hw11
                  refine ⟨?_, ?_, ?_, ?_, ?_⟩
                  · unfold Blk; rw [hB, ← hL]; exact heap_alloc_new w10 _
                  · rw [hB]; exact World.ownsRow.alloc D10.out.1 _
                  · exact grown_trans D10.out.2.1 (World.grownBy_alloc w10 _ none) (by simp)
                  · rw [← hL]; exact D10.out.2.1.size
                  · rw [hB]; exact D10.out.2.2
                clear hw11 hL D10
                go_wp2_with fail
                go_loopw [15] (fun i wr => ∃ k : Nat, k ≤ nk ∧ i = .int .i64 k ∧ ∃ ao c, LSt wc wr L st (cur st B K S ns k) ao c) (fun i _ => nk - (intOf i).toNat)
                case atStart => exact ⟨0, Nat.zero_le _, rfl, ao, n0, HL0.out⟩
                case round =>
                  obtain ⟨k, hk, rfl, ao2, ca2, hL2⟩ := hrel
                  have HL2 := hid hL2
                  clear hL2
                  by_cases hlt : k < nk
                  · obtain ⟨xb, xo, rfl, hck⟩ := (F10.out.2.1.kept HL2.out.old) k hlt
                    unfold fK at hck
                    have hbd : (cur st B K S ns k).length + (K.getD k ByteArray.empty).size ≤ 16777216 := by
                      have e1 := cur_len st B K S ns k
                      have e2 := sl_le K nk (k + 1) hlt
                      have e3 := Hb.out
                      simp only [sl] at e2
                      omega
                    have Hsz : Hid (on S ns k = true → 0 < (K.getD k ByteArray.empty).size) := Hne.out k hlt
                    have Hy : Hid (on S ns k = true → cur st B K S ns (k + 1) = addw st (cur st B K S ns k) (K.getD k ByteArray.empty)) := fun h => by simp only [cur]; rw [if_pos h]
                    have Hn : Hid (on S ns k = false → cur st B K S ns (k + 1) = cur st B K S ns k) := fun h => by simp only [cur]; rw [if_neg (by rw [h]; simp)]
                    have Hbd := hid hbd
                    clear hbd
                    generalize K.getD k ByteArray.empty = key at hck Hbd Hsz Hy
                    by_cases hks : k < ns
                    · obtain ⟨sb, so, rfl, hcs⟩ := (F10.out.2.2.1.kept HL2.out.old) k hks
                      unfold fS at hcs
                      have hon : Hid (on S ns k = S.getD k false) := by show _ = _; simp [on, hks]
                      have hdk : decide (k < ns) = true := by simp; omega
                      rw [hon.out] at Hsz Hy Hn
                      generalize S.getD k false = on1 at hcs Hsz Hy Hn
                      clear hon
                      cases on1
                      · have Hn' := hid (Hn.out rfl)
                        go_wp2_with fail
                        refine (zzflag_no _ _ _).mono ?_
                        rintro e w12 ⟨rfl, rfl⟩
                        go_wp2_with fail
                        go_roundw
                        case rel => exact ⟨k + 1, by omega, by go_num, ao2, ca2, by rw [Hn'.out]; exact HL2.out⟩
                        case measure => simp [intOf]; omega
                      · have Hy' := hid (Hy.out rfl)
                        have Hsz' := hid (Hsz.out rfl)
                        clear Hy Hn Hsz
                        go_wp2_with fail
                        refine (zzflag_yes wc _ L st (cur st B K S ns k) ao2 ca2 key Hsz'.out Hbd.out (by exact HL2.out)).mono ?_
                        rintro e w12 ⟨rfl, ao3, c3', hL3⟩
                        have HL3 := hid hL3
                        clear hL3
                        go_wp2_with fail
                        go_roundw
                        case rel => exact ⟨k + 1, by omega, by go_num, ao3, c3', by rw [Hy'.out]; exact HL3.out⟩
                        case measure => simp [intOf]; omega
                    · have hdk : decide (k < ns) = false := by simp; omega
                      have Hn' := hid (Hn.out (by simp [on, hks]))
                      go_wp2_with fail
                      refine (zzflag_no _ _ _).mono ?_
                      rintro e w12 ⟨rfl, rfl⟩
                      go_wp2_with fail
                      go_roundw
                      case rel => exact ⟨k + 1, by omega, by go_num, ao2, ca2, by rw [Hn'.out]; exact HL2.out⟩
                      case measure => simp [intOf]; omega
                  · obtain rfl : nk = k := by omega
                    have hF := HL2.out
                    rw [Hcur.out] at hF
                    have hlen := HW.out.len
                    have hfb := hF.blk
                    rw [hlen] at hfb
                    have g0 := hfb.c0
                    have g1 := hfb.c1
                    have g2 := hfb.c2
                    have hfo := hF.own
                    rw [hlen] at hfo
                    have R1 := hid (own_bytes_rd hfo)
                    have R2 := hid (own_bytes_rd (HW.out.own.kept hF.old (by right; simp [Value.ownBlock])))
                    have BL : Hid (Below w3.heap.size w3 wr) := F10.out.2.2.2.trans ((grown_below rfl hF.old).mono F10.out.2.2.2.size)
                    have hNb : N ≤ 16777216 := by
                      have e1 := cur_len st B K S ns nk
                      have e2 := Hb.out
                      rw [Hcur.out, hlen] at e1
                      omega
                    clear hF hlen hfb hfo HL2 HW
                    go_wp2_with fail
                    refine (rdBytes _ L _ g0).mono ?_
                    rintro e w12 ⟨rfl, rfl⟩
                    go_wp2_with fail
                    refine (same_true _ ao2 (some ⟨g, 0, none⟩) ca2 cap N (wt st B ws) hNb (by exact R1.out) (by exact R2.out)).mono ?_
                    rintro e w13 ⟨rfl, q, rfl⟩
                    go_wp2_with fail
                    refine (rdStart _ L _ (by simpa using g1)).mono ?_
                    rintro e w13 ⟨rfl, rfl⟩
                    go_wp2_with fail
                    refine (rdErr _ L _ (by simpa using g2)).mono ?_
                    rintro e w13 ⟨rfl, rfl⟩
                    go_wp2_with fail
                    go_ret
                    exact ⟨rfl, BL.out.trans ⟨rfl, rfl, rfl, Nat.le_refl _, fun _ _ => rfl⟩⟩
end Go.Proofs.Qxb6606000a
