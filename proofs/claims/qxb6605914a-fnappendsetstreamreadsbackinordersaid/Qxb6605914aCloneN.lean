import Derived.Test.Qxb6605914aNest
namespace Go.Proofs.Qxb6605914a
open Go.RowKit
set_option maxRecDepth 100000

theorem info23 : (Try.prog.info? 23).map (fun i => (i.zero, i.size, i.bytes)) = some (some (.slice none 0 0), 1, 24) := by kernel_rfl

def aOf : Value → Option Addr
  | .slice a _ _ => a
  | _ => none

/-- the row g holds, at its first k places, clones of the first k slices, each above g -/
def Cloned (wr : World) (g n k : Nat) (Xs : List (List Int)) (cs : List Value) : Prop :=
  wr.ownsRow 0 23 1 (.slice (some ⟨g, 0, none⟩) n n) n cs ∧
  ∀ r, r < k → ∃ A, cs[r]? = some (.slice A (Xs.getD r []).length (Xs.getD r []).length) ∧ wr.ownsRow 0 5 1 (.slice A (Xs.getD r []).length (Xs.getD r []).length) (Xs.getD r []).length (cb (Xs.getD r [])) ∧
    ∀ b off, A = some ⟨b, off, none⟩ → g < b ∧ b < wr.heap.size

theorem own_some {w : World} {A : Option Addr} {n c : Nat} {xs : List Value} (h : w.ownsRow 0 5 1 (.slice A n c) n xs) : ∀ b off sp, A = some ⟨b, off, sp⟩ → sp = none := by
  intro b off sp e
  subst e
  rcases h.2 with ⟨h', _⟩ | ⟨_, _, _, h', _⟩
  · simp at h'
  · simp at h'; exact h'.1.2.2

theorem cloned_step {wr w2 : World} {g n k : Nat} {Xs : List (List Int)} {cs : List Value} (h : Cloned wr g n k Xs cs) (hk : k < n) (hg : wr.grownBy w2 none) (A : Option Addr)
    (hO : w2.ownsRow 0 5 1 (.slice A (Xs.getD k []).length (Xs.getD k []).length) (Xs.getD k []).length (cb (Xs.getD k []))) (hA : ∀ b off, A = some ⟨b, off, none⟩ → wr.heap.size ≤ b ∧ b < w2.heap.size) :
    Cloned (w2.setCell ⟨g, k, none⟩ (.slice A (Xs.getD k []).length (Xs.getD k []).length)) g n (k + 1) Xs (cs.set k (.slice A (Xs.getD k []).length (Xs.getD k []).length)) := by
  have any : ∀ v : Value, v.ownBlock = none ∨ v.ownBlock ≠ none := fun v => by cases v.ownBlock <;> simp
  have hgl : g < wr.heap.size := (h.1.lt g rfl).2
  have hst := (h.1.kept hg (any _)).stored k (.slice A (Xs.getD k []).length (Xs.getD k []).length)
  have hsz : (w2.setCell ⟨g, k, none⟩ (.slice A (Xs.getD k []).length (Xs.getD k []).length)).heap.size = w2.heap.size := by simp
  refine ⟨hst.1, fun r hr => ?_⟩
  have hcl : cs.length = n := by have := h.1.1; omega
  have apart : ∀ (B : Option Addr) (m : Nat) (ys : List Value), w2.ownsRow 0 5 1 (.slice B m m) m ys → (∀ b off, B = some ⟨b, off, none⟩ → g < b) →
      (w2.setCell ⟨g, k, none⟩ (.slice A (Xs.getD k []).length (Xs.getD k []).length)).ownsRow 0 5 1 (.slice B m m) m ys := by
    intro B m ys hB hb
    refine hB.kept hst.2 ?_
    cases B with
    | none => left; rfl
    | some a =>
      right
      obtain ⟨b, off, sp⟩ := a
      have := own_some hB b off sp rfl
      subst this
      have := hb b off rfl
      simp [Value.ownBlock]; omega
  by_cases hrk : r = k
  · subst hrk
    refine ⟨A, by simp [hcl, hk], apart A _ _ hO (fun b off e => by have := hA b off e; omega), fun b off e => ?_⟩
    have := hA b off e
    rw [hsz]; omega
  · obtain ⟨B, h1, h2, h3⟩ := h.2 r (by omega)
    refine ⟨B, by rw [List.getElem?_set_ne (by omega)]; exact h1, apart B _ _ (h2.kept hg (any _)) (fun b off e => (h3 b off e).1), fun b off e => ?_⟩
    have := h3 b off e
    have := hg.size
    rw [hsz]; omega

theorem cloned_nest {w wr : World} {ao : Option Addr} {g n : Nat} {Xs : List (List Int)} {A : Nat → Option Addr} {C : Nat → Nat} {cs : List Value} (h0 : Nest w ao n Xs A C) (h : Cloned wr g n n Xs cs) :
    Nest wr (some ⟨g, 0, none⟩) n Xs (fun r => aOf (cs.getD r undef)) (fun r => (Xs.getD r []).length) ∧ (∀ r, r < n → ∀ b off, aOf (cs.getD r undef) = some ⟨b, off, none⟩ → g < b ∧ b < wr.heap.size) := by
  have hv : ∀ r, r < n → ∃ B, cs.getD r undef = .slice B (Xs.getD r []).length (Xs.getD r []).length ∧ cs[r]? = some (.slice B (Xs.getD r []).length (Xs.getD r []).length) ∧
      wr.ownsRow 0 5 1 (.slice B (Xs.getD r []).length (Xs.getD r []).length) (Xs.getD r []).length (cb (Xs.getD r [])) ∧ ∀ b off, B = some ⟨b, off, none⟩ → g < b ∧ b < wr.heap.size := by
    intro r hr
    obtain ⟨B, h1, h2, h3⟩ := h.2 r hr
    exact ⟨B, by rw [List.getD_eq_getElem?_getD, h1]; rfl, h1, h2, h3⟩
  refine ⟨⟨h0.len, fun r hr => ?_, fun r hr => ?_, h0.max⟩, fun r hr b off e => ?_⟩
  · obtain ⟨B, h1, h2, h3, h4⟩ := hv r hr
    refine ⟨g, 0, rfl, ?_⟩
    rw [Nat.zero_add, h.1.cellAt r (by omega), h2, h1]; rfl
  · obtain ⟨B, h1, h2, h3, h4⟩ := hv r hr
    rw [h1]
    exact ⟨rfl, own_rd h3, (h0.row r hr).byte, (h0.row r hr).max⟩
  · obtain ⟨B, h1, h2, h3, h4⟩ := hv r hr
    rw [h1] at e
    exact h4 b off e

theorem cloneN_nil (w : World) (n cap : Nat) : Calls Try.prog 25 #[.slice none n cap] w fun e w' => e = .returned (.slice none 0 0) ∧ w' = w := by
  have heq := fun w a l c => run_eql_slice_nil (P := Try.prog) w 44 23 a l c Try.underlying44
  go_enter Try.func25, Try.ntmps25
  go_wp2
  go_ret
  exact ⟨rfl, rfl⟩

set_option maxHeartbeats 800000 in
theorem cloneN_some (w : World) (a : Addr) (n cap : Nat) (Xs : List (List Int)) (A : Nat → Option Addr) (C : Nat → Nat) (h0 : Nest w (some a) n Xs A C) (hn : n ≤ 65536) (hb : ∀ r, r < n → (Xs.getD r []).length ≤ 1048576) :
    Calls Try.prog 25 #[.slice (some a) n cap] w fun e w' => e = .returned (.slice (some ⟨w.heap.size, 0, none⟩) n n) ∧ (∃ cs, Cloned w' w.heap.size n n Xs cs) ∧ w.grownBy w' none := by
  obtain ⟨i0, hi, hz0, hz1, hz2⟩ := info_parts info23
  have heq := fun w a l c => run_eql_slice_nil (P := Try.prog) w 44 23 a l c Try.underlying44
  generalize hg : w.heap.size = g
  have Hg := hid hg
  have H0 := hid h0
  have HB := hid hb
  clear hg h0 hb
  go_enter Try.func25, Try.ntmps25
  go_wp2_with (at_make; refine wpList_make_full _ rfl _ _ 44 rfl 0 23 i0 (.slice none 0 0) 1 Try.underlying44 hi hz0 hz1 .i64 .i64 _ _ n rfl rfl rfl rfl (by rw [hz2]; omega) (by unfold maxLen; omega) (Nat.zero_le _) ?_; intro w1 hown hgr; rw [Hg.out] at hown ⊢)
  clear heq hi hz0 hz1 hz2
  go_loopw [4] (fun i wr => ∃ k : Nat, k ≤ n ∧ i = .int .i64 k ∧ (∃ cs : List Value, Cloned wr g n k Xs cs) ∧ w.grownBy wr none) (fun i _ => n - (intOf i).toNat)
  case atStart => exact ⟨0, Nat.zero_le _, rfl, ⟨_, hown, fun r hr => by omega⟩, hgr⟩
  case round =>
    obtain ⟨k, hk, rfl, ⟨cs, hcs⟩, hgw⟩ := hrel
    clear hown hgr
    by_cases hlt : k < n
    · obtain ⟨b, off, ha, hc⟩ := H0.out.top k hlt
      simp only [Option.some.injEq] at ha
      subst ha
      have hc' := hgw.cell hc (by simp)
      have hrow := hid ((H0.out.row k hlt).kept hgw)
      have hL := HB.out k hlt
      have HC := hid hcs
      have HG := hid hgw
      clear hc hcs hgw
      go_wp2_with fail
      refine (clone _ (A k) _ _ (Xs.getD k []) rfl (by omega) (by exact hrow.out.rd)).mono ?_
      rintro e w2 ⟨ao', rfl, hO2, hg2, hb2⟩
      have hcs2 := HC.out.1.kept hg2 (by right; simp [Value.ownBlock])
      have hcl : cs.length = n := by have := HC.out.1.1; omega
      have hcg := hcs2.cellAt k (by omega)
      have hfz := hcs2.frozenAt k
      rw [List.getElem?_eq_getElem (by omega)] at hcg
      have R := hid (cloned_step HC.out hlt hg2 ao' hO2 hb2)
      have R2 : Hid (w.grownBy (w2.setCell ⟨g, k, none⟩ (.slice ao' (Xs.getD k []).length (Xs.getD k []).length)) none) := by
        refine ⟨hg2.os.trans HG.out.os, hg2.tape.trans HG.out.tape, hg2.output.trans HG.out.output, by simpa using Nat.le_trans HG.out.size hg2.size, fun j hj hne => ?_⟩
        rw [Below.heap_setCell _ _ _ _ (by have := Hg.out; show j ≠ g; omega), hg2.block j (Nat.lt_of_lt_of_le hj HG.out.size) hne, HG.out.block j hj hne]
      clear hO2 hg2 hb2 hcs2
      generalize (Xs.getD k []).length = L at *
      go_wp2_with fail
      go_roundw
      case rel => exact ⟨k + 1, by omega, by go_num, ⟨_, R.out⟩, R2.out⟩
      case measure => simp [intOf]; omega
    · obtain rfl : n = k := by omega
      go_wp2_with fail
      go_ret
      exact ⟨rfl, ⟨cs, hcs⟩, hgw⟩

theorem cloneN (w : World) (ao : Option Addr) (n cap : Nat) (Xs : List (List Int)) (A : Nat → Option Addr) (C : Nat → Nat) (h0 : Nest w ao n Xs A C) (hn : n ≤ 65536) (hb : ∀ r, r < n → (Xs.getD r []).length ≤ 1048576) :
    Calls Try.prog 25 #[.slice ao n cap] w fun e w' => ∃ ao' A', e = .returned (.slice ao' n n) ∧ Nest w' ao' n Xs A' (fun r => (Xs.getD r []).length) ∧ w.grownBy w' none ∧
      (∀ r, r < n → ∀ b off, A' r = some ⟨b, off, none⟩ → b < w'.heap.size) := by
  cases ao with
  | none =>
    have hz : n = 0 := by
      rcases Nat.eq_zero_or_pos n with h | h
      · exact h
      · obtain ⟨b, off, e, _⟩ := h0.top 0 h
        simp at e
    subst hz
    refine (cloneN_nil w 0 cap).mono ?_
    rintro e w' ⟨rfl, rfl⟩
    exact ⟨none, fun _ => none, rfl, ⟨h0.len, fun r hr => by omega, fun r hr => by omega, h0.max⟩, World.grownBy.refl _ _, fun r hr => by omega⟩
  | some a =>
    refine (cloneN_some w a n cap Xs A C h0 hn hb).mono ?_
    rintro e w' ⟨rfl, ⟨cs, hcs⟩, hg⟩
    obtain ⟨h1, h2⟩ := cloned_nest h0 hcs
    exact ⟨_, _, rfl, h1, hg, fun r hr b off e => (h2 r hr b off e).2⟩
end Go.Proofs.Qxb6605914a
