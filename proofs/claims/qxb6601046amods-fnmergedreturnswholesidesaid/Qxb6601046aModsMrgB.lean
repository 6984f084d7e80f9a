import Derived.Test.Qxb6601046aModsMrgP
import Derived.Deep.RegionLaw
import Derived.Deep.DrawnRows
set_option linter.unusedVariables false
namespace Go.Proofs.Qxb6601046aMods.mrg
open Go.RowKit

/-- 'append' WITHIN THE CAPACITY, at a step of a region that draws its order. -/
theorem step_append_fits {P : Program} {ops : Array Oper} {o : Oper} {a : Act} {w : World} {K : Act → World → Prop} {Q : Exit → Act → World → Prop} {E : Prop}
    (hg : o.guard = none) (s x : Operand) (t : TypeId) (hop : o.op = Op.call { callee := Callee.builtin Builtin.append, args := #[s, x], argTypes := #[t, t] })
    (base : Nat) (e : TypeId) (i : TypeInfo) (size : Nat) (h1 : P.underlying t = some (.slice e)) (h2 : P.info? e = some i) (h4 : i.size = size)
    (g k cap : Nat) (xs : List Value) (hs : a.eval s = .slice (some ⟨g, 0, none⟩) k cap) (hown : w.ownsRow base e size (.slice (some ⟨g, 0, none⟩) k cap) k xs) (ad : Addr) (m c : Nat) (news : List Value) (hx : a.eval x = .slice (some ad) m c) (hn : news.length = m * size)
    (hc : ∀ j u, news[j]? = some u → w.cell? (ad.add j) = some u) (h1c : ∀ u ∈ news, u.oneCell' = true) (b1 : k + m ≤ cap)
    (hK : ∀ w', w'.ownsRow base e size (.slice (some ⟨g, 0, none⟩) (k + m) cap) (k + m) (xs ++ news) → w.grownBy w' (some g) → K (a.put o.dst (.slice (some ⟨g, 0, none⟩) (k + m) cap)) w') :
    if Region.wanted o (yielded ops a.tmps) = true then Oper.wp P o a w K Q else E := by
  have hw : Region.wanted o (yielded ops a.tmps) = true := by simp [Region.wanted, hg]
  rw [if_pos hw]
  obtain ⟨w', hrun, r1, r2⟩ := run_append_fits (P := P) w base t o.type e i size h1 h2 h4 g k cap xs hown ad m c news hn hc h1c b1
  unfold Oper.wp
  simp [execOp, hop, resolve, invoke, builtin, hs, hx, hrun, Result.andThen]
  exact hK w' r1 r2

/-- What 'merged' hands back. -/
def Merged (ao bo : Option Addr) (la lb : Nat) (A B : List Int) (w : World) (v : Value) (w' : World) : Prop :=
  (subB A B = true → v = .slice bo lb lb) ∧ (subB A B = false → subB B A = true → v = .slice ao la la) ∧
  (subB A B = false → subB B A = false → ∃ n cap cs, v = .slice (some ⟨w.heap.size, 0, none⟩) n cap ∧ la < n ∧ lb < n ∧ w'.heap[w.heap.size]? = some (.cells cs 30 (0, 0)))

theorem merged_b {ao bo : Option Addr} {la lb N : Nat} {A B : List Int} {w w' : World} (hf : la ≤ N ∧ lb ≤ N ∧ (N = lb ↔ subB A B = true) ∧ (N = la ↔ subB B A = true)) (h : N = lb) : Merged ao bo la lb A B w (.slice bo lb lb) w' := by
  have h1 := hf.2.2.1.1 h
  exact ⟨fun _ => rfl, fun c => by rw [h1] at c; (cases c), fun c => by rw [h1] at c; (cases c)⟩
theorem merged_a {ao bo : Option Addr} {la lb N : Nat} {A B : List Int} {w w' : World} (hf : la ≤ N ∧ lb ≤ N ∧ (N = lb ↔ subB A B = true) ∧ (N = la ↔ subB B A = true)) (hn : N ≠ lb) (h : N = la) : Merged ao bo la lb A B w (.slice ao la la) w' := by
  have h2 := hf.2.2.2.1 h
  exact ⟨fun c => absurd (hf.2.2.1.2 c) hn, fun _ _ => rfl, fun _ c => by rw [h2] at c; (cases c)⟩
theorem merged_n {ao bo : Option Addr} {la lb N cap : Nat} {A B : List Int} {w w' : World} {xs : List Value} (hf : la ≤ N ∧ lb ≤ N ∧ (N = lb ↔ subB A B = true) ∧ (N = la ↔ subB B A = true)) (hn : N ≠ lb) (hn' : N ≠ la)
    (hown : w'.ownsRow w.heap.size 30 1 (.slice (some ⟨w.heap.size, 0, none⟩) N cap) N xs) : Merged ao bo la lb A B w (.slice (some ⟨w.heap.size, 0, none⟩) N cap) w' := by
  refine ⟨fun c => absurd (hf.2.2.1.2 c) hn, fun _ c => absurd (hf.2.2.2.2 c) hn', fun _ _ => ?_⟩
  rcases hown.2 with ⟨h, _⟩ | ⟨g, cp, cur, h, _, hg, _⟩
  · cases h
  · obtain ⟨rfl, -⟩ : g = w.heap.size ∧ cp = cap := by simpa using h.symm
    exact ⟨N, cap, cur, rfl, by omega, by omega, hg⟩

/-- The rest of a slice from its i-th element on. -/
def Rest (l g i : Nat) (v : Value) : Prop := ∃ ao, v = .slice ao (l - i) (l - i) ∧ (i < l → ao = some ⟨g, i, none⟩) ∧ (ao = none → l = 0)

theorem rest_step {l g i : Nat} {xv : Option Addr} (hx : Hid ((if l - i = 1 then some ⟨g, i, none⟩ else some ⟨g, i + 1, none⟩) = xv)) (h : i < l) : Rest l g (i + 1) (.slice xv (l - i - 1) (l - i - 1)) := by
  obtain rfl := hx.out
  refine ⟨_, rfl, fun h2 => ?_, fun h2 => ?_⟩
  · rw [if_neg (by omega)]
  · split at h2 <;> cases h2
theorem rest_at {l g i : Nat} (h : i < l) : Rest l g i (.slice (some ⟨g, i, none⟩) (l - i) (l - i)) := ⟨_, rfl, fun _ => rfl, fun h => by cases h⟩
theorem rest_cells {w : World} {ao xa : Option Addr} {l g i : Nat} {A : List Int} (hv : View w ao l g 0 A) (h : i < l → xa = some ⟨g, i, none⟩) :
    ∀ ad, xa = some ad → ∀ t u, ((A.drop i).map (Value.int .i64))[t]? = some u → w.cell? (ad.add t) = some u := by
  intro ad had t u hu
  have ht : t < l - i := by
    have := (List.getElem?_eq_some_iff.1 hu).1
    simpa [hv.1] using this
  rw [h (by omega)] at had
  obtain rfl := Option.some.inj had
  rw [Addr.add_lit]
  have hc := hv.2.2 (i + t) (by omega)
  rw [Nat.zero_add] at hc
  rw [hc]
  have e : ((A.drop i).map (Value.int .i64))[t]? = some (.int .i64 (A.getD (i + t) 0)) := by
    have hA := hv.1
    simp [List.getD, show i + t < A.length by omega]
  rw [e] at hu
  exact hu

def lenV : Value → Nat
  | .slice _ n _ => n
  | _ => 0

set_option maxHeartbeats 1000000 in
theorem merged_any (ao bo : Option Addr) (la lb ga gb : Nat) (A B : List Int) (w : World) (hla : la ≤ 65536) (hlb : lb ≤ 65536) (hva : View w ao la ga 0 A) (hvb : View w bo lb gb 0 B) (sA : Srt A) (sB : Srt B) :
    Calls Trym.prog 30 #[.slice ao la la, .slice bo lb lb] w fun r w' => ∃ v, r = .returned v ∧ Merged ao bo la lb A B w v w' ∧ Below w.heap.size w w' := by
  obtain ⟨i0, hi, hz0, hz1, hz2⟩ := info_parts info30
  have HVA : Hid (View w ao la ga 0 A) := hva
  have HVB : Hid (View w bo lb gb 0 B) := hvb
  have HSA : Hid (Srt A) := sA
  have HSB : Hid (Srt B) := sB
  clear hva hvb sA sB
  go_enter Trym.func30, Trym.ntmps30
  go_wp2_with (at_make; refine wpList_make_own _ rfl _ _ 25 rfl w.heap.size 30 i0 (.int .i64 0) 1 Trym.underlying25 hi hz0 hz1 _ _ _ (la + lb) rfl rfl (by omega) (by rw [hz2]; omega) (by unfold maxLen; omega) (Nat.le_refl _) ?_; intro w0 hown0 hgrow0)
  go_loopw [5, 6, 7] (fun s x y wr => ∃ i j m xs, Hid (Inv A B la lb i j m) ∧ i ≤ la ∧ j ≤ lb ∧ m ≤ i + j ∧ s = .slice (some ⟨w.heap.size, 0, none⟩) m (la + lb) ∧ Rest la ga i x ∧ Rest lb gb j y ∧ wr.ownsRow w.heap.size 30 1 (.slice (some ⟨w.heap.size, 0, none⟩) m (la + lb)) m xs ∧ Below w.heap.size w wr)
    (fun _ x y _ => lenV x + lenV y)
  case atStart => exact ⟨0, 0, 0, [], Inv.start A B la lb, by omega, by omega, by omega, rfl, ⟨_, rfl, fun h => HVA.out.2.1 h, fun h => by
      rcases Nat.eq_zero_or_pos la with e | e
      · exact e
      · have := HVA.out.2.1 e; rw [h] at this; cases this⟩, ⟨_, rfl, fun h => HVB.out.2.1 h, fun h => by
      rcases Nat.eq_zero_or_pos lb with e | e
      · exact e
      · have := HVB.out.2.1 e; rw [h] at this; cases this⟩, hown0, (Below.refl _ _).grown hgrow0 (Nat.le_refl _) (fun k h => by cases h)⟩
  case round =>
    obtain ⟨i, j, m, xs, hinv, hil, hjl, hm, rfl, ⟨xa, rfl, hxa, hxn⟩, ⟨ya, rfl, hya, hyn⟩, hown, hnx⟩ := hrel
    clear hown0 hgrow0
    by_cases hin : i < la
    · by_cases hjn : j < lb
      · obtain rfl := hxa hin
        obtain rfl := hya hjn
        have gA := cell_later hnx (HVA.out.2.2 i hin)
        have gB := cell_later hnx (HVB.out.2.2 j hjn)
        rw [Nat.zero_add] at gA gB
        have a1 : (0 : Int) < ((la - i : Nat) : Int) := by omega
        have a2 : (0 : Int) < ((lb - j : Nat) : Int) := by omega
        have a3 : (1 : Int) ≤ ((la - i : Nat) : Int) := by omega
        have a4 : (1 : Int) ≤ ((lb - j : Nat) : Int) := by omega
        have d1 : decide ((0 : Int) < ((la - i : Nat) : Int)) = true := by simpa using a1
        have d2 : decide ((0 : Int) < ((lb - j : Nat) : Int)) = true := by simpa using a2
        clear hxa hya hxn hyn
        by_cases c1 : A.getD i 0 < B.getD j 0
        · have c1' : A[i]?.getD 0 < B[j]?.getD 0 := c1
          clear c1
          go_wp2
          go_quiet (fail)
          go_wp2
          go_region_law ((refine step_append_fits (by rfl) (.tmp 42) (.tmp 46) 25 (by rfl) w.heap.size 30 i0 1 Trym.underlying25 hi hz1 w.heap.size m (la + lb) xs (by rfl) (by exact hown.alloc _) ⟨wr.heap.size, 0, none⟩ 1 1 [.int .i64 (A.getD i 0)] (by rfl) rfl (by exact cell_one_new _ _ _) (by intro u hu; simp at hu; rcases hu with rfl; rfl) (by omega) ?_; intro w1 hown1 hgrow1))
          generalize hxv : (if la - i = 1 then some (⟨ga, i, none⟩ : Addr) else some ⟨ga, i + 1, none⟩) = xv
          have Hx : Hid _ := hxv
          clear hxv
          go_simp
          go_wp2
          go_roundw
          case rel => exact ⟨i + 1, j, m + 1, _, hinv.out.a HVA.out.1 HVB.out.1 HSA.out HSB.out hin hjn c1', by omega, by omega, by omega, rfl, rest_step Hx hin, rest_at hjn, hown1, ((below_drewN hnx _).drew.alloc hnx.size _).grown hgrow1 (by simp; have := hnx.size; omega) (fun k hk => by cases hk; exact Nat.le_refl _)⟩
          case measure => simp [lenV]; omega
        · by_cases c2 : B.getD j 0 < A.getD i 0
          · have c2' : B[j]?.getD 0 < A[i]?.getD 0 := c2
            have c1' : ¬ A[i]?.getD 0 < B[j]?.getD 0 := c1
            clear c1 c2
            go_wp2
            go_quiet (fail)
            go_wp2
            go_quiet (fail)
            go_wp2
            go_region_law ((refine step_append_fits (by rfl) (.tmp 58) (.tmp 62) 25 (by rfl) w.heap.size 30 i0 1 Trym.underlying25 hi hz1 w.heap.size m (la + lb) xs (by rfl) (by exact hown.alloc _) ⟨wr.heap.size, 0, none⟩ 1 1 [.int .i64 (B.getD j 0)] (by rfl) rfl (by exact cell_one_new _ _ _) (by intro u hu; simp at hu; rcases hu with rfl; rfl) (by omega) ?_; intro w1 hown1 hgrow1))
            generalize hyv : (if lb - j = 1 then some (⟨gb, j, none⟩ : Addr) else some ⟨gb, j + 1, none⟩) = yv
            have Hy : Hid _ := hyv
            clear hyv
            go_simp
            go_wp2
            go_roundw
            case rel => exact ⟨i, j + 1, m + 1, _, hinv.out.b HVA.out.1 HVB.out.1 HSA.out HSB.out hin hjn c2', by omega, by omega, by omega, rfl, rest_at hin, rest_step Hy hjn, hown1, ((below_drewN hnx _).drew.alloc hnx.size _).grown hgrow1 (by simp; have := hnx.size; omega) (fun k hk => by cases hk; exact Nat.le_refl _)⟩
            case measure => simp [lenV]; omega
          · have c2' : ¬ B[j]?.getD 0 < A[i]?.getD 0 := c2
            have c1' : ¬ A[i]?.getD 0 < B[j]?.getD 0 := c1
            clear c1 c2
            go_wp2
            go_quiet (fail)
            go_wp2
            go_quiet (fail)
            go_wp2
            go_region_law ((refine step_append_fits (by rfl) (.tmp 24) (.tmp 28) 25 (by rfl) w.heap.size 30 i0 1 Trym.underlying25 hi hz1 w.heap.size m (la + lb) xs (by rfl) (by exact hown.alloc _) ⟨wr.heap.size, 0, none⟩ 1 1 [.int .i64 (A.getD i 0)] (by rfl) rfl (by exact cell_one_new _ _ _) (by intro u hu; simp at hu; rcases hu with rfl; rfl) (by omega) ?_; intro w1 hown1 hgrow1))
            generalize hxv : (if la - i = 1 then some (⟨ga, i, none⟩ : Addr) else some ⟨ga, i + 1, none⟩) = xv
            have Hx : Hid _ := hxv
            clear hxv
            generalize hyv : (if lb - j = 1 then some (⟨gb, j, none⟩ : Addr) else some ⟨gb, j + 1, none⟩) = yv
            have Hy : Hid _ := hyv
            clear hyv
            go_simp
            go_wp2
            go_roundw
            case rel => exact ⟨i + 1, j + 1, m + 1, _, hinv.out.e HVA.out.1 HVB.out.1 HSA.out HSB.out hin hjn (Int.not_lt.2 c1') (Int.not_lt.2 c2'), by omega, by omega, by omega, rfl, rest_step Hx hin, rest_step Hy hjn, hown1, ((below_drewN hnx _).drew.alloc hnx.size _).grown hgrow1 (by simp; have := hnx.size; omega) (fun k hk => by cases hk; exact Nat.le_refl _)⟩
            case measure => simp [lenV]; omega
      · have d1 : decide ((0 : Int) < ((la - i : Nat) : Int)) = true := decide_eq_true (by omega)
        have d2 : decide ((0 : Int) < ((lb - j : Nat) : Int)) = false := decide_eq_false (by omega)
        have HF : Hid _ := union_len HVA.out.1 HVB.out.1 (hinv.out.fin HVA.out.1 HVB.out.1 (by omega)).1 (hinv.out.fin HVA.out.1 HVB.out.1 (by omega)).2
        have HXN : Hid _ := hxn
        have HYN : Hid _ := hyn
        have HXA : Hid _ := hxa
        have HYA : Hid _ := hya
        clear hxn hyn hxa hya
        go_wp2_with (first
          | (at_builtin; refine wpList_append_fits_any _ rfl (.tmp 66) (.tmp 67) 25 rfl w.heap.size 30 i0 1 Trym.underlying25 hi hz1 w.heap.size m (la + lb) _ rfl hown xa (la - i) (la - i) ((A.drop i).map (Value.int .i64)) rfl (by simp [HVA.out.1]) (fun h => by have := HXN.out h; omega) (rest_cells (HVA.out.later hnx) HXA.out) (ints_oneCell _ _) (by omega) ?_; intro w1 hown1 hgrow1)
          | (at_builtin; refine wpList_append_fits_any _ rfl (.tmp 68) (.tmp 69) 25 rfl w.heap.size 30 i0 1 Trym.underlying25 hi hz1 w.heap.size (m + (la - i)) (la + lb) _ rfl hown1 ya (lb - j) (lb - j) ((B.drop j).map (Value.int .i64)) rfl (by simp [HVB.out.1]) (fun h => by have := HYN.out h; omega) (rest_cells (HVB.out.later (hnx.grown hgrow1 hnx.size (fun k hk => by cases hk; exact Nat.le_refl _))) HYA.out) (ints_oneCell _ _) (by omega) ?_; intro w2 hown2 hgrow2))
        all_goals have HB2 : Hid (Below w.heap.size w w2) := (hnx.grown hgrow1 hnx.size (fun k hk => by cases hk; exact Nat.le_refl _)).grown hgrow2 (Nat.le_trans hnx.size hgrow1.size) (fun k hk => by cases hk; exact Nat.le_refl _)
        · have h1 : ((m : Int) + ((la - i : Nat) : Int) + ((lb - j : Nat) : Int) == (lb : Int)) = true := by assumption
          rw [beq_iff_eq] at h1
          go_ret
          exact ⟨_, rfl, merged_b HF.out (by omega), HB2.out⟩
        · have h1 : ((m : Int) + ((la - i : Nat) : Int) + ((lb - j : Nat) : Int) == (lb : Int)) = false := by assumption
          have h2 : ((m : Int) + ((la - i : Nat) : Int) + ((lb - j : Nat) : Int) == (la : Int)) = true := by assumption
          rw [beq_iff_eq] at h2
          rw [beq_eq_false_iff_ne] at h1
          go_ret
          exact ⟨_, rfl, merged_a HF.out (by omega) (by omega), HB2.out⟩
        · have h1 : ((m : Int) + ((la - i : Nat) : Int) + ((lb - j : Nat) : Int) == (lb : Int)) = false := by assumption
          have h2 : ((m : Int) + ((la - i : Nat) : Int) + ((lb - j : Nat) : Int) == (la : Int)) = false := by assumption
          rw [beq_eq_false_iff_ne] at h1 h2
          go_ret
          exact ⟨_, rfl, merged_n HF.out (by omega) (by omega) hown2, HB2.out⟩
    · have d1 : decide ((0 : Int) < ((la - i : Nat) : Int)) = false := decide_eq_false (by omega)
      have HF : Hid _ := union_len HVA.out.1 HVB.out.1 (hinv.out.fin HVA.out.1 HVB.out.1 (by omega)).1 (hinv.out.fin HVA.out.1 HVB.out.1 (by omega)).2
      have HXN : Hid _ := hxn
      have HYN : Hid _ := hyn
      have HXA : Hid _ := hxa
      have HYA : Hid _ := hya
      clear hxn hyn hxa hya
      go_wp2_with (first
        | (at_builtin; refine wpList_append_fits_any _ rfl (.tmp 66) (.tmp 67) 25 rfl w.heap.size 30 i0 1 Trym.underlying25 hi hz1 w.heap.size m (la + lb) _ rfl hown xa (la - i) (la - i) ((A.drop i).map (Value.int .i64)) rfl (by simp [HVA.out.1]) (fun h => by have := HXN.out h; omega) (rest_cells (HVA.out.later hnx) HXA.out) (ints_oneCell _ _) (by omega) ?_; intro w1 hown1 hgrow1)
        | (at_builtin; refine wpList_append_fits_any _ rfl (.tmp 68) (.tmp 69) 25 rfl w.heap.size 30 i0 1 Trym.underlying25 hi hz1 w.heap.size (m + (la - i)) (la + lb) _ rfl hown1 ya (lb - j) (lb - j) ((B.drop j).map (Value.int .i64)) rfl (by simp [HVB.out.1]) (fun h => by have := HYN.out h; omega) (rest_cells (HVB.out.later (hnx.grown hgrow1 hnx.size (fun k hk => by cases hk; exact Nat.le_refl _))) HYA.out) (ints_oneCell _ _) (by omega) ?_; intro w2 hown2 hgrow2))
      all_goals have HB2 : Hid (Below w.heap.size w w2) := (hnx.grown hgrow1 hnx.size (fun k hk => by cases hk; exact Nat.le_refl _)).grown hgrow2 (Nat.le_trans hnx.size hgrow1.size) (fun k hk => by cases hk; exact Nat.le_refl _)
      · have h1 : ((m : Int) + ((la - i : Nat) : Int) + ((lb - j : Nat) : Int) == (lb : Int)) = true := by assumption
        rw [beq_iff_eq] at h1
        go_ret
        exact ⟨_, rfl, merged_b HF.out (by omega), HB2.out⟩
      · have h1 : ((m : Int) + ((la - i : Nat) : Int) + ((lb - j : Nat) : Int) == (lb : Int)) = false := by assumption
        have h2 : ((m : Int) + ((la - i : Nat) : Int) + ((lb - j : Nat) : Int) == (la : Int)) = true := by assumption
        rw [beq_iff_eq] at h2
        rw [beq_eq_false_iff_ne] at h1
        go_ret
        exact ⟨_, rfl, merged_a HF.out (by omega) (by omega), HB2.out⟩
      · have h1 : ((m : Int) + ((la - i : Nat) : Int) + ((lb - j : Nat) : Int) == (lb : Int)) = false := by assumption
        have h2 : ((m : Int) + ((la - i : Nat) : Int) + ((lb - j : Nat) : Int) == (la : Int)) = false := by assumption
        rw [beq_eq_false_iff_ne] at h1 h2
        go_ret
        exact ⟨_, rfl, merged_n HF.out (by omega) (by omega) hown2, HB2.out⟩

theorem zz_any (ao bo : Option Addr) (la lb ga gb : Nat) (A B : List Int) (w : World) (hla : la ≤ 65536) (hlb : lb ≤ 65536) (hva : View w ao la ga 0 A) (hvb : View w bo lb gb 0 B) (sA : Srt A) (sB : Srt B) :
    Calls Trym.prog 13 #[.slice ao la la, .slice bo lb lb] w fun r w' => ∃ v, r = .returned v ∧ Merged ao bo la lb A B w v w' ∧ Below w.heap.size w w' := by
  have H := merged_any ao bo la lb ga gb A B w hla hlb hva hvb sA sB
  clear hva hvb sA sB
  go_enter Trym.func13, Trym.ntmps13
  go_wp2_with (go_at_call 30; refine H.mono ?_; rintro e w' ⟨v, rfl, hm, hb⟩)
  go_ret
  exact ⟨_, rfl, hm, hb⟩
end Go.Proofs.Qxb6601046aMods.mrg
