import Derived.Test.Qxb6601542aModsBefE
set_option linter.unusedVariables false
namespace Go.Proofs.Qxb6601542aMods.bef
open Go.RowKit

set_option maxHeartbeats 2000000 in
theorem zz_any (ao fo : Option Addr) (l lf cf g : Nat) (T : List Txn) (o : Int) (w : World) (hl : l ≤ 32768) (hv : TView w ao l g 0 T) :
    Calls Trym.prog 12 #[.slice ao l l, .slice fo lf cf, .int .i64 o] w fun e w' => ∃ v u, e = .returned (.tuple #[v, u]) ∧ Got w.heap.size T o l w w' v u ∧ Below w.heap.size w w' := by
  have HV : Hid (TView w ao l g 0 T) := hv
  clear hv
  have HC := before_any w.heap.size ao l g T o (w.alloc (.cells #[.slice ao l l, .slice fo lf cf] 43)) hl (by simp) (HV.out.later ((Below.refl _ _).alloc (Nat.le_refl _) _))
  go_enter Trym.func12, Trym.ntmps12
  go_wp2_with fail
  refine HC.mono ?_
  rintro e w1 ⟨v, u, rfl, ⟨k, hcut, h2, h3, h4⟩, hb⟩
  have hb' : Hid (Below w.heap.size w w1) := ((Below.refl _ _).alloc (Nat.le_refl _) _).trans (hb.mono (by simp))
  have HG : Hid (Got w.heap.size T o l w w1 v u) := ⟨k, hcut, own_base h2 (by simp), own_base h3 (by simp), h4⟩
  obtain ⟨va, vc, rfl⟩ := own_slice h2
  obtain ⟨ua, uc, rfl⟩ := own_slice h3
  clear h2 h3 h4 hb HC
  go_wp2_with fail
  go_quiet (fail)
  go_wp2
  go_ret2
  refine ⟨_, _, rfl, ?_, ?_⟩
  · obtain ⟨k', a, b, c, d⟩ := HG.out
    exact ⟨k', a, b.alloc _, c.alloc _, d⟩
  · exact below_drewN (hb'.out.alloc hb'.out.size _) _

/-! ### firstFromIsSuffixMinima -/
def mx : Int := 9223372036854775807
/-- The least first offset of those from j on; the greatest number where there is none. -/
def smAt (K : List Txn) (j : Nat) : Int := if j < K.length then (sm K).getD j 0 else mx
theorem sm_get : ∀ (K : List Txn) (j : Nat), j < K.length → (sm K).getD j 0 = if j + 1 < K.length then min (K.getD j t0).f ((sm K).getD (j + 1) 0) else (K.getD j t0).f
  | [], j, h => by cases h
  | t :: ts, 0, _ => by
    cases ts with
    | nil => rfl
    | cons y ys => simp [sm]
  | t :: ts, j + 1, h => by
    have h' : j < ts.length := by simpa using h
    have := sm_get ts j h'
    simp only [sm, List.length_cons, Nat.add_lt_add_iff_right]
    exact this
theorem smAt_step (K : List Txn) (j : Nat) (h : j < K.length) (hf : (K.getD j t0).f ≤ mx) : (sm K).getD j 0 = if (K.getD j t0).f < smAt K (j + 1) then (K.getD j t0).f else smAt K (j + 1) := by
  rw [sm_get K j h]
  unfold smAt
  by_cases c : j + 1 < K.length
  · rw [if_pos c, if_pos c]
    split <;> omega
  · rw [if_neg c, if_neg c]
    split <;> omega

set_option maxHeartbeats 2000000 in
theorem suf_any (v u : Value) (k B B' : Nat) (K : List Txn) (w : World) (hK : K.length = k) (hk : k ≤ 32768) (hv : w.ownsRow B 35 3 v k (tcs K)) (hu : w.ownsRow B' 2 1 u k ((sm K).map (Value.int .i64))) (hf : ∀ j, j < k → (K.getD j t0).f ≤ mx) :
    Calls Trym.prog 15 #[v, u] w fun e w' => e = .returned (.bool true) ∧ w = w' := by
  obtain ⟨va, vc, rfl⟩ := own_slice hv
  obtain ⟨ua, uc, rfl⟩ := own_slice hu
  have HV : Hid (w.ownsRow B 35 3 (.slice va k vc) k (tcs K)) := hv
  have HU : Hid (w.ownsRow B' 2 1 (.slice ua k uc) k ((sm K).map (Value.int .i64))) := hu
  have HF : Hid (∀ j, j < k → (K.getD j t0).f ≤ mx) := hf
  have HK : Hid (K.length = k) := hK
  clear hv hu hf hK
  go_enter Trym.func15, Trym.ntmps15
  go_wp2
  go_loop [5, 6] (fun m i => ∃ j : Nat, j ≤ k ∧ i = .int .i64 ((j : Int) - 1) ∧ m = .int .i64 (smAt K j)) (fun _ i => (intOf i + 1).toNat)
  case atStart => exact ⟨k, Nat.le_refl _, by go_num, by unfold smAt; rw [if_neg (by rw [HK.out]; omega)]; rfl⟩
  case round =>
    obtain ⟨j, hj, rfl, rfl⟩ := hrel
    rcases Nat.eq_zero_or_pos j with h0 | h0
    · subst h0
      go_wp2
      go_ret
      exact ⟨rfl, rfl⟩
    · obtain ⟨gv, cv, hgv, _, _⟩ := HV.out.form (by omega)
      obtain ⟨gu, cu, hgu, _, _⟩ := HU.out.form (by omega)
      obtain ⟨rfl, rfl⟩ : va = some ⟨gv, 0, none⟩ ∧ vc = cv := by simpa using hgv
      obtain ⟨rfl, rfl⟩ : ua = some ⟨gu, 0, none⟩ ∧ uc = cu := by simpa using hgu
      have c1 : w.cell? ⟨gv, (j - 1) * 3 + 1, none⟩ = some (.int .i64 (K.getD (j - 1) t0).f) := by
        rw [HV.out.cellAt ((j - 1) * 3 + 1) (by omega), tcs_get K (j - 1) 1 (by rw [HK.out]; omega) (by omega)]
        rfl
      have c2 : w.cell? ⟨gu, j - 1, none⟩ = some (.int .i64 ((sm K).getD (j - 1) 0)) := by
        rw [HU.out.cellAt (j - 1) (by omega), List.getElem?_map]
        have := sm_len K
        have := HK.out
        simp [List.getD, show j - 1 < (sm K).length by omega]
      have hs := smAt_step K (j - 1) (by rw [HK.out]; omega) (HF.out (j - 1) (by omega))
      rw [show j - 1 + 1 = j by omega] at hs
      have HR : Hid (smAt K (j - 1) = (sm K).getD (j - 1) 0) := by show smAt K (j - 1) = _; unfold smAt; rw [if_pos (by rw [HK.out]; omega)]
      have q1 : (0 : Int) ≤ (j : Int) - 1 := by omega
      have q2 : (j : Int) - 1 < (k : Int) := by omega
      have q3 : ((j : Int) - 1).toNat = j - 1 := by omega
      generalize (K.getD (j - 1) t0).f = F at c1 hs
      generalize (sm K).getD (j - 1) 0 = s at c2 hs HR
      generalize smAt K j = m at hs ⊢
      clear hgv hgu
      by_cases hc : F < m
      · rw [if_pos hc] at hs
        subst hs
        go_wp2
        go_round
        case rel => exact ⟨j - 1, by omega, by go_num, by rw [HR.out]⟩
        case measure => simp [intOf]; omega
      · rw [if_neg hc] at hs
        subst hs
        go_wp2
        go_round
        case rel => exact ⟨j - 1, by omega, by go_num, by rw [HR.out]⟩
        case measure => simp [intOf]; omega
end Go.Proofs.Qxb6601542aMods.bef
