import Derived.Test.Qxb6601542aModsBefA
set_option linter.unusedVariables false
namespace Go.Proofs.Qxb6601542aMods.bef
open Go.RowKit
attribute [local go_sem ↓] Go.wp_at_zero Go.wp_at_succ

/-- Three stores, one transaction. -/
def set3 (L : List Value) (k : Nat) (a b c : Value) : List Value := ((L.set (k * 3) a).set (k * 3 + 1) b).set (k * 3 + 2) c
theorem own3 {w : World} {base e g n cap : Nat} {L : List Value} (h : w.ownsRow base e 3 (.slice (some ⟨g, 0, none⟩) n cap) n L) (k : Nat) (a b c : Value) (hg : base ≤ g) {B : Nat} {w0 : World} (hB : B ≤ base) (hw : Below B w0 w) :
    (((w.setCell ⟨g, k * 3, none⟩ a).setCell ⟨g, k * 3 + 1, none⟩ b).setCell ⟨g, k * 3 + 2, none⟩ c).ownsRow base e 3 (.slice (some ⟨g, 0, none⟩) n cap) n (set3 L k a b c) ∧
    Below B w0 (((w.setCell ⟨g, k * 3, none⟩ a).setCell ⟨g, k * 3 + 1, none⟩ b).setCell ⟨g, k * 3 + 2, none⟩ c) :=
  ⟨(((h.stored (k * 3) a).1.stored (k * 3 + 1) b).1.stored (k * 3 + 2) c).1,
   ((hw.setCell (Nat.le_trans hB hg) a).setCell (Nat.le_trans hB hg) b).setCell (Nat.le_trans hB hg) c⟩
theorem set3_get {T : List Txn} {L : List Value} {k : Nat} (hl : k * 3 + 2 < L.length) (h : ∀ i, i < k → ∀ f, f < 3 → L[i * 3 + f]? = (tc (T.getD i t0))[f]?) :
    ∀ i, i < k + 1 → ∀ f, f < 3 → (set3 L k (.int .i64 (T.getD k t0).p) (.int .i64 (T.getD k t0).f) (.int .i64 (T.getD k t0).l))[i * 3 + f]? = (tc (T.getD i t0))[f]? := by
  intro i hi f hf
  unfold set3
  simp only [List.getElem?_set, List.length_set]
  by_cases e : i = k
  · subst e
    match f, hf with
    | 0, _ => simp [tc, show i * 3 < L.length by omega]
    | 1, _ => simp [tc, show i * 3 + 1 < L.length by omega]
    | 2, _ => simp [tc, show i * 3 + 2 < L.length by omega]
  · rw [if_neg (by omega), if_neg (by omega), if_neg (by omega)]
    exact h i (by omega) f hf

/-- What a copy is. -/
def TCopied (ao : Option Addr) (l : Nat) (T : List Txn) (w : World) (v : Value) (w' : World) : Prop :=
  (v = .slice none 0 0 ∧ ao = none) ∨ (v = .slice (some ⟨w.heap.size, 0, none⟩) l l ∧ TView w' (some ⟨w.heap.size, 0, none⟩) l w.heap.size 0 T)
theorem tview_of {w' : World} {B e l g : Nat} {L : List Value} {T : List Txn} (hown : w'.ownsRow B e 3 (.slice (some ⟨g, 0, none⟩) l l) l L) (hT : T.length = l) (hL : ∀ i, i < l → ∀ f, f < 3 → L[i * 3 + f]? = (tc (T.getD i t0))[f]?) : TView w' (some ⟨g, 0, none⟩) l g 0 T :=
  ⟨hT, fun _ => rfl, fun t ht f hf => by rw [Nat.zero_add, hown.cellAt (t * 3 + f) (by omega)]; exact hL t ht f hf⟩

set_option maxHeartbeats 1000000 in
theorem copy_any (ao : Option Addr) (l cap g off : Nat) (T : List Txn) (w : World) (hm : l ≤ 32768) (hv : TView w ao l g off T) :
    Calls Trym.prog 10 #[.slice ao l cap] w fun e w' => ∃ v, e = .returned v ∧ TCopied ao l T w v w' ∧ Below w.heap.size w w' := by
  obtain ⟨i0, hi, hz0, hz1, hz2⟩ := info_parts info36
  have hq : ∀ (w : World) (a : Option Addr) (n c : Nat), (binOp .eql 24 (.slice a n c) (.slice none 0 0)).run Trym.prog w = .ok (.bool a.isNone) w := fun w a n c => Lib.run_eql_slice_nil w 24 _ a n c _ _ Trym.underlying24
  have HV : Hid (TView w ao l g off T) := hv
  clear hv
  cases ao with
  | none =>
    go_enter Trym.func10, Trym.ntmps10
    go_wp2
    go_ret
    exact ⟨_, rfl, .inl ⟨rfl, rfl⟩, Below.refl _ _⟩
  | some x =>
    go_enter Trym.func10, Trym.ntmps10
    go_wp2_with (at_make; refine wpList_make_full _ rfl _ _ 24 rfl w.heap.size 36 i0 ztx 3 Trym.underlying24 hi hz0 hz1 _ _ _ _ l rfl rfl rfl rfl ?b2 ?b3 (Nat.le_refl _) ?_)
    case b2 => rw [hz2]; omega
    case b3 => unfold maxLen; omega
    intro w0 hown0 hgrow0
    go_wp2
    go_loopw [4] (fun i wr => ∃ (k : Nat) (L : List Value), k ≤ l ∧ i = .int .i64 k ∧ wr.ownsRow w.heap.size 36 3 (.slice (some ⟨w.heap.size, 0, none⟩) l l) l L ∧ Hid (∀ i, i < k → ∀ f, f < 3 → L[i * 3 + f]? = (tc (T.getD i t0))[f]?) ∧ Below w.heap.size w wr)
      (fun i _ => l - (intOf i).toNat)
    case atStart => exact ⟨0, _, Nat.zero_le _, rfl, hown0, fun i h => by omega, (Below.refl _ _).grown hgrow0 (Nat.le_refl _) (fun k h => by cases h)⟩
    case round =>
      obtain ⟨k, L, hk, rfl, hown, hL, hnx⟩ := hrel
      clear hown0 hgrow0
      by_cases hlt : k < l
      · obtain rfl : x = ⟨g, off, none⟩ := Option.some.inj (HV.out.2.1 (by omega))
        have m0 : wr.cell? ⟨g, off + k * 3, none⟩ = some (.int .i64 (T.getD k t0).p) := cell_later hnx (HV.out.2.2 k hlt 0 (by omega))
        have m1 : wr.cell? ⟨g, off + k * 3 + 1, none⟩ = some (.int .i64 (T.getD k t0).f) := cell_later hnx (HV.out.2.2 k hlt 1 (by omega))
        have m2 : wr.cell? ⟨g, off + k * 3 + 2, none⟩ = some (.int .i64 (T.getD k t0).l) := cell_later hnx (HV.out.2.2 k hlt 2 (by omega))
        have hne := World.new_ne w _ (HV.out.2.2 k hlt 0 (by omega))
        have hle : ∀ f, f < 3 → ∃ c, wr.cell? ⟨w.heap.size, k * 3 + f, none⟩ = some c := fun f hf => by
          refine ⟨_, (hown.cellAt (k * 3 + f) (by omega)).trans (List.getElem?_eq_getElem (h := ?_))⟩
          have := hown.1
          omega
        obtain ⟨c0, hc0⟩ := hle 0 (by omega)
        obtain ⟨c1, hc1⟩ := hle 1 (by omega)
        obtain ⟨c2, hc2⟩ := hle 2 (by omega)
        rw [Nat.add_zero] at hc0
        have f0 := hown.frozenAt (k * 3)
        have f1 := hown.frozenAt (k * 3 + 1)
        have f2 := hown.frozenAt (k * 3 + 2)
        have b1 : (0 : Int) ≤ (k : Int) := by omega
        have b2 : (k : Int) < (l : Int) := by omega
        have HO : Hid _ := own3 hown k (.int .i64 (T.getD k t0).p) (.int .i64 (T.getD k t0).f) (.int .i64 (T.getD k t0).l) (Nat.le_refl _) (Nat.le_refl _) hnx
        have HL : Hid (k * 3 + 2 < L.length) := by have := hown.1; show _ < _; omega
        clear hle hown
        go_wp2
        
        go_roundw
        case rel => exact ⟨k + 1, _, by omega, by go_num, HO.out.1, set3_get HL.out hL.out, HO.out.2⟩
        case measure => simp [intOf]; omega
      · obtain rfl : k = l := by omega
        have HM : Hid (TView wr (some ⟨w.heap.size, 0, none⟩) k w.heap.size 0 T) := tview_of hown HV.out.1 hL.out
        clear hown
        go_wp2
        go_ret
        exact ⟨_, rfl, .inr ⟨rfl, HM.out⟩, hnx⟩

set_option maxHeartbeats 1000000 in
theorem store_any (ao : Option Addr) (l cap g off : Nat) (T : List Txn) (w : World) (hm : l ≤ 32768) (hv : TView w ao l g off T) :
    Calls Trym.prog 13 #[.slice ao l cap] w fun e w' => ∃ v, e = .returned v ∧ TCopied ao l T w v w' ∧ Below w.heap.size w w' := by
  obtain ⟨i0, hi, hz0, hz1, hz2⟩ := info_parts info35
  have hq : ∀ (w : World) (a : Option Addr) (n c : Nat), (binOp .eql 24 (.slice a n c) (.slice none 0 0)).run Trym.prog w = .ok (.bool a.isNone) w := fun w a n c => Lib.run_eql_slice_nil w 24 _ a n c _ _ Trym.underlying24
  have HV : Hid (TView w ao l g off T) := hv
  clear hv
  cases ao with
  | none =>
    go_enter Trym.func13, Trym.ntmps13
    go_wp2
    go_ret
    exact ⟨_, rfl, .inl ⟨rfl, rfl⟩, Below.refl _ _⟩
  | some x =>
    go_enter Trym.func13, Trym.ntmps13
    go_wp2_with (at_make; refine wpList_make_full _ rfl _ _ 29 rfl w.heap.size 35 i0 ztx 3 Trym.underlying29 hi hz0 hz1 _ _ _ _ l rfl rfl rfl rfl ?b2 ?b3 (Nat.le_refl _) ?_)
    case b2 => rw [hz2]; omega
    case b3 => unfold maxLen; omega
    intro w0 hown0 hgrow0
    go_wp2
    go_loopw [4] (fun i wr => ∃ (k : Nat) (L : List Value), k ≤ l ∧ i = .int .i64 k ∧ wr.ownsRow w.heap.size 35 3 (.slice (some ⟨w.heap.size, 0, none⟩) l l) l L ∧ Hid (∀ i, i < k → ∀ f, f < 3 → L[i * 3 + f]? = (tc (T.getD i t0))[f]?) ∧ Below w.heap.size w wr)
      (fun i _ => l - (intOf i).toNat)
    case atStart => exact ⟨0, _, Nat.zero_le _, rfl, hown0, fun i h => by omega, (Below.refl _ _).grown hgrow0 (Nat.le_refl _) (fun k h => by cases h)⟩
    case round =>
      obtain ⟨k, L, hk, rfl, hown, hL, hnx⟩ := hrel
      clear hown0 hgrow0
      by_cases hlt : k < l
      · obtain rfl : x = ⟨g, off, none⟩ := Option.some.inj (HV.out.2.1 (by omega))
        have m0 : wr.cell? ⟨g, off + k * 3, none⟩ = some (.int .i64 (T.getD k t0).p) := cell_later hnx (HV.out.2.2 k hlt 0 (by omega))
        have m1 : wr.cell? ⟨g, off + k * 3 + 1, none⟩ = some (.int .i64 (T.getD k t0).f) := cell_later hnx (HV.out.2.2 k hlt 1 (by omega))
        have m2 : wr.cell? ⟨g, off + k * 3 + 2, none⟩ = some (.int .i64 (T.getD k t0).l) := cell_later hnx (HV.out.2.2 k hlt 2 (by omega))
        have hne := World.new_ne w _ (HV.out.2.2 k hlt 0 (by omega))
        have hle : ∀ f, f < 3 → ∃ c, wr.cell? ⟨w.heap.size, k * 3 + f, none⟩ = some c := fun f hf => by
          refine ⟨_, (hown.cellAt (k * 3 + f) (by omega)).trans (List.getElem?_eq_getElem (h := ?_))⟩
          have := hown.1
          omega
        obtain ⟨c0, hc0⟩ := hle 0 (by omega)
        obtain ⟨c1, hc1⟩ := hle 1 (by omega)
        obtain ⟨c2, hc2⟩ := hle 2 (by omega)
        rw [Nat.add_zero] at hc0
        have f0 := hown.frozenAt (k * 3)
        have f1 := hown.frozenAt (k * 3 + 1)
        have f2 := hown.frozenAt (k * 3 + 2)
        have b1 : (0 : Int) ≤ (k : Int) := by omega
        have b2 : (k : Int) < (l : Int) := by omega
        have HO : Hid _ := own3 hown k (.int .i64 (T.getD k t0).p) (.int .i64 (T.getD k t0).f) (.int .i64 (T.getD k t0).l) (Nat.le_refl _) (Nat.le_refl _) hnx
        have HL : Hid (k * 3 + 2 < L.length) := by have := hown.1; show _ < _; omega
        clear hle hown
        go_wp2
        go_region_held3 (fun wy => wy.cell? ⟨g, off + k * 3, none⟩ = some (.int .i64 (T.getD k t0).p) ∧ wy.cell? ⟨g, off + k * 3 + 1, none⟩ = some (.int .i64 (T.getD k t0).f) ∧ wy.cell? ⟨g, off + k * 3 + 2, none⟩ = some (.int .i64 (T.getD k t0).l)) (go_keep) (fail)
        go_wp2
        go_roundw
        case rel => exact ⟨k + 1, _, by omega, by go_num, HO.out.1.drew, set3_get HL.out hL.out, HO.out.2.drew⟩
        case measure => simp [intOf]; omega
      · obtain rfl : k = l := by omega
        have HM : Hid (TView wr (some ⟨w.heap.size, 0, none⟩) k w.heap.size 0 T) := tview_of hown HV.out.1 hL.out
        clear hown
        go_wp2
        go_ret
        exact ⟨_, rfl, .inr ⟨rfl, HM.out⟩, hnx⟩

def ICopied (ao : Option Addr) (l : Nat) (w : World) (v : Value) : Prop := (v = .slice none 0 0 ∧ ao = none) ∨ v = .slice (some ⟨w.heap.size, 0, none⟩) l l
set_option maxHeartbeats 1000000 in
theorem ints_any (ao : Option Addr) (l cap g off : Nat) (A : List Int) (w : World) (hm : l ≤ 32768) (hv : IView w ao l g off A) :
    Calls Trym.prog 11 #[.slice ao l cap] w fun e w' => ∃ v, e = .returned v ∧ ICopied ao l w v ∧ Below w.heap.size w w' := by
  obtain ⟨i0, hi, hz0, hz1, hz2⟩ := info_parts info2
  have hq : ∀ (w : World) (a : Option Addr) (n c : Nat), (binOp .eql 25 (.slice a n c) (.slice none 0 0)).run Trym.prog w = .ok (.bool a.isNone) w := fun w a n c => Lib.run_eql_slice_nil w 25 _ a n c _ _ Trym.underlying25
  have HV : Hid (IView w ao l g off A) := hv
  clear hv
  cases ao with
  | none =>
    go_enter Trym.func11, Trym.ntmps11
    go_wp2
    go_ret
    exact ⟨_, rfl, .inl ⟨rfl, rfl⟩, Below.refl _ _⟩
  | some x =>
    go_enter Trym.func11, Trym.ntmps11
    go_wp2_with (at_make; refine wpList_make_full _ rfl _ _ 25 rfl w.heap.size 2 i0 (.int .i64 0) 1 Trym.underlying25 hi hz0 hz1 _ _ _ _ l rfl rfl rfl rfl ?b2 ?b3 (Nat.le_refl _) ?_)
    case b2 => rw [hz2]; omega
    case b3 => unfold maxLen; omega
    intro w0 hown0 hgrow0
    go_wp2
    go_loopw [4] (fun i wr => ∃ (k : Nat) (L : List Value), k ≤ l ∧ i = .int .i64 k ∧ wr.ownsRow w.heap.size 2 1 (.slice (some ⟨w.heap.size, 0, none⟩) l l) l L ∧ Below w.heap.size w wr)
      (fun i _ => l - (intOf i).toNat)
    case atStart => exact ⟨0, _, Nat.zero_le _, rfl, hown0, (Below.refl _ _).grown hgrow0 (Nat.le_refl _) (fun k h => by cases h)⟩
    case round =>
      obtain ⟨k, L, hk, rfl, hown, hnx⟩ := hrel
      clear hown0 hgrow0
      by_cases hlt : k < l
      · obtain rfl : x = ⟨g, off, none⟩ := Option.some.inj (HV.out.2.1 (by omega))
        have m0 := cell_later hnx (HV.out.2.2 k hlt)
        have hce : ∃ c, wr.cell? ⟨w.heap.size, k, none⟩ = some c := by
          refine ⟨_, (hown.cellAt k (by omega)).trans (List.getElem?_eq_getElem (h := ?_))⟩
          have := hown.1
          omega
        obtain ⟨c, hce⟩ := hce
        have hfz := hown.frozenAt k
        have hst := hown.stored k (.int .i64 (A.getD k 0))
        obtain ⟨hown', hgrow'⟩ := hst
        have HO : Hid _ := And.intro hown' (hnx.grown hgrow' hnx.size (fun k hk => by cases hk; exact Nat.le_refl _))
        clear hown' hgrow' hown
        go_wp2
        go_roundw
        case rel => exact ⟨k + 1, _, by omega, by go_num, HO.out.1, HO.out.2⟩
        case measure => simp [intOf]; omega
      · go_wp2
        go_ret
        exact ⟨_, rfl, .inr rfl, hnx⟩
end Go.Proofs.Qxb6601542aMods.bef
