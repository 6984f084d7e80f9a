import Derived.Test.Qxb6601046aModsRows
import Derived.WalkKit
import Derived.WalkSpells
import Derived.Below
import Derived.Deep.QuietTactic
import Derived.BigQuiet
import Derived.LaidEqlPtr
set_option linter.unusedVariables false
namespace Go.Proofs.Qxb6601046aMods.mrg
open Go.RowKit

/-- The slice value '.slice ao l _' shows the numbers A: l of them, in the cells of block g from off on. -/
def View (w : World) (ao : Option Addr) (l g off : Nat) (A : List Int) : Prop :=
  A.length = l ∧ (0 < l → ao = some ⟨g, off, none⟩) ∧ ∀ t, t < l → w.cell? ⟨g, off + t, none⟩ = some (.int .i64 (A.getD t 0))

theorem View.later {w w' : World} {ao : Option Addr} {l g off : Nat} {A : List Int} (h : View w ao l g off A) (hb : Below w.heap.size w w') : View w' ao l g off A :=
  ⟨h.1, h.2.1, fun t ht => cell_later hb (h.2.2 t ht)⟩

/-- Strictly increasing. -/
def Inc (A : List Int) : Prop := ∀ i, i + 1 < A.length → A.getD i 0 < A.getD (i + 1) 0

theorem below_drewN {B : Nat} {a w : World} (h : Below B a w) (n : Nat) : Below B a (w.drewN n) := h.trans ⟨rfl, rfl, rfl, Nat.le_refl _, fun _ _ => rfl⟩

theorem inc_step {A : List Int} {k : Nat} (h : ∀ j, j + 1 < k → A.getD j 0 < A.getD (j + 1) 0) (hk : 1 ≤ k) (hs : A.getD (k - 1) 0 < A.getD k 0) : Hid (∀ j, j + 1 < k + 1 → A.getD j 0 < A.getD (j + 1) 0) := by
  intro j hj
  by_cases e : j + 1 = k
  · subst e; simpa using hs
  · exact h j (by omega)

theorem bytes_any (a0 a1 : Option Addr) (l0 c0 l1 c1 : Nat) (w : World) (h0 : l0 ≤ maxLen) (h1 : l1 ≤ maxLen) :
    Calls Trym.prog 17 #[.slice a0 l0 c0, .slice a1 l1 c1] w fun e w' => (∃ b, e = .returned (.bool b)) ∧ w = w' := by
  unfold maxLen at h0 h1
  go_enter Trym.func17, Trym.ntmps17
  go_wp2
  all_goals
    go_ret
    exact ⟨⟨_, rfl⟩, rfl⟩

set_option maxHeartbeats 400000 in
theorem inc_any (ao : Option Addr) (l c g off : Nat) (A : List Int) (w : World) (hl : l ≤ 65536) (hv : View w ao l g off A) :
    Calls Trym.prog 11 #[.slice ao l c] w fun e w' => (∃ b, e = .returned (.bool b) ∧ (b = true → Inc A)) ∧ Below w.heap.size w w' := by
  obtain ⟨hA, ha, hc⟩ := hv
  have HA : Hid (A.length = l) := hA
  clear hA
  by_cases h0 : 0 < l
  · obtain rfl := ha h0
    go_enter Trym.func11, Trym.ntmps11
    go_wp2
    go_loopw [3] (fun i wr => ∃ k : Nat, 1 ≤ k ∧ k ≤ l ∧ i = .int .i64 k ∧ Hid (∀ j, j + 1 < k → A.getD j 0 < A.getD (j + 1) 0) ∧ Below w.heap.size w wr) (fun i _ => l - (intOf i).toNat)
    case atStart => exact ⟨1, by omega, by omega, rfl, fun j hj => by omega, Below.refl _ _⟩
    case round =>
      obtain ⟨k, hk1, hk, rfl, hinc, hnx⟩ := hrel
      by_cases hlt : k < l
      · have g0 := cell_later hnx (hc (k - 1) (by omega))
        have g1 := cell_later hnx (hc k hlt)
        clear hc
        have b1 : (0 : Int) ≤ (k : Int) - 1 := by omega
        have b2 : (k : Int) - 1 < (l : Int) := by omega
        have b3 : (k : Int) < (l : Int) := by omega
        go_wp2
        go_quiet (fail)
        go_wp2
        · go_ret
          exact ⟨⟨_, rfl, fun h => by cases h⟩, below_drewN hnx _⟩
        · have hlt' : A[k - 1]?.getD 0 < A[k]?.getD 0 := by assumption
          go_roundw
          case rel => exact ⟨k + 1, by omega, by omega, by go_num, inc_step hinc.out hk1 hlt', below_drewN hnx _⟩
          case measure => simp [intOf]; omega
      · obtain rfl : k = l := by omega
        go_wp2
        go_ret
        exact ⟨⟨_, rfl, fun _ i hi => hinc.out i (by rw [HA.out] at hi; exact hi)⟩, hnx⟩
  · obtain rfl : l = 0 := by omega
    go_enter Trym.func11, Trym.ntmps11
    go_wp2
    go_loopw [3] (fun i wr => i = .int .i64 1 ∧ wr = w) (fun i _ => 0)
    case atStart => exact ⟨rfl, rfl⟩
    case round =>
      obtain ⟨rfl, rfl⟩ := hrel
      go_wp2
      go_ret
      exact ⟨⟨_, rfl, fun _ i hi => by rw [HA.out] at hi; omega⟩, Below.refl _ _⟩

/-! ### mgHas: the binary search -/
def hasB (A : List Int) (e : Int) : Bool := A.contains e
theorem hasB_iff (A : List Int) (e : Int) : hasB A e = true ↔ ∃ t, t < A.length ∧ A.getD t 0 = e := by
  unfold hasB
  rw [List.contains_iff_mem, List.mem_iff_getElem]
  constructor
  · rintro ⟨t, ht, h⟩; exact ⟨t, ht, by simp [List.getD, ht, h]⟩
  · rintro ⟨t, ht, h⟩; exact ⟨t, ht, by simpa [List.getD, ht] using h⟩
theorem inc_lt {A : List Int} (h : Inc A) : ∀ d i, i + d + 1 < A.length → A.getD i 0 < A.getD (i + d + 1) 0
  | 0, i, hi => h i hi
  | d + 1, i, hi => Int.lt_trans (inc_lt h d i (by omega)) (h (i + d + 1) (by omega))
theorem inc_le {A : List Int} (h : Inc A) {i j : Nat} (hij : i ≤ j) (hj : j < A.length) : A.getD i 0 ≤ A.getD j 0 := by
  by_cases e : i = j
  · subst e; exact Int.le_refl _
  · have := inc_lt h (j - i - 1) i (by omega)
    rw [show i + (j - i - 1) + 1 = j by omega] at this
    exact Int.le_of_lt this
theorem has_no {A : List Int} {e : Int} {lo : Nat} (h1 : ∀ t, t < lo → A.getD t 0 < e) (h2 : ∀ t, lo ≤ t → t < A.length → e ≤ A.getD t 0) (hi : Inc A) (h : lo < A.length → A.getD lo 0 ≠ e) : hasB A e = false := by
  rw [Bool.eq_false_iff, ne_eq, hasB_iff]
  rintro ⟨t, ht, he⟩
  by_cases a : t < lo
  · have := h1 t a; omega
  · have b := h2 lo (Nat.le_refl _) (by omega)
    have c := inc_le hi (show lo ≤ t by omega) ht
    exact h (by omega) (by omega)
theorem has_yes {A : List Int} {e : Int} {lo : Nat} (hl : lo < A.length) (h : A.getD lo 0 = e) : hasB A e = true := (hasB_iff A e).2 ⟨lo, hl, h⟩
theorem ret_bool {a b : Bool} (h : a = b) : Ending.returned (.bool a) = .returned (.bool b) := by rw [h]

set_option maxHeartbeats 400000 in
theorem has_any (ao : Option Addr) (l c g : Nat) (A : List Int) (e : Int) (w : World) (hl : l ≤ 65536) (hv : View w ao l g 0 A) (hi : Inc A) :
    Calls Trym.prog 15 #[.slice ao l c, .int .i64 e] w fun r w' => r = .returned (.bool (hasB A e)) ∧ w = w' := by
  obtain ⟨hA, ha, hc⟩ := hv
  have HA : Hid (A.length = l) := hA
  have HI : Hid (Inc A) := hi
  clear hA hi
  by_cases h0 : 0 < l
  · obtain rfl := ha h0
    go_enter Trym.func15, Trym.ntmps15
    go_wp2
    go_loop [5, 6] (fun a b => ∃ lo hi : Nat, lo ≤ hi ∧ hi ≤ l ∧ a = .int .i64 lo ∧ b = .int .i64 hi ∧ Hid (∀ t, t < lo → A.getD t 0 < e) ∧ Hid (∀ t, hi ≤ t → t < A.length → e ≤ A.getD t 0)) (fun a b => (intOf b).toNat - (intOf a).toNat)
    case atStart => exact ⟨0, l, by omega, by omega, rfl, rfl, fun t ht => by omega, fun t ht h => by rw [HA.out] at h; omega⟩
    case round =>
      obtain ⟨lo, hi, h1, h2, rfl, rfl, hlo, hhi⟩ := hrel
      by_cases hlt : lo < hi
      · have hcx := hc (lo + (hi - lo) / 2) (by omega)
        rw [Nat.zero_add] at hcx
        clear hc
        have hml : lo + (hi - lo) / 2 < l := by omega
        go_wp2
        · have hh : A[lo + (hi - lo) / 2]?.getD 0 < e := by assumption
          go_round
          case rel => exact ⟨lo + (hi - lo) / 2 + 1, hi, by omega, by omega, by go_num, rfl, fun t ht => Int.lt_of_le_of_lt (inc_le HI.out (show t ≤ lo + (hi - lo) / 2 by omega) (by rw [HA.out]; omega)) hh, hhi⟩
          case measure => simp [intOf]; omega
        · have hh : e ≤ A[lo + (hi - lo) / 2]?.getD 0 := by assumption
          go_round
          case rel => exact ⟨lo, lo + (hi - lo) / 2, by omega, by omega, rfl, by go_num, hlo, fun t ht htl => Int.le_trans hh (inc_le HI.out ht htl)⟩
          case measure => simp [intOf]; omega
      · obtain rfl : lo = hi := by omega
        by_cases hll : lo < l
        · have hcx := hc lo hll
          rw [Nat.zero_add] at hcx
          clear hc
          by_cases he : A.getD lo 0 = e
          · have hy := has_yes (by rw [HA.out]; exact hll) he
            have hbe : (A[lo]?.getD 0 == e) = true := by rw [beq_iff_eq]; exact he
            clear he
            go_wp2
            go_ret
            exact ⟨rfl, rfl⟩
          · have hy := has_no hlo.out hhi.out HI.out (fun _ => he)
            have hbe : (A[lo]?.getD 0 == e) = false := by rw [beq_eq_false_iff_ne]; exact he
            clear he
            go_wp2
            go_ret
            exact ⟨rfl, rfl⟩
        · have hy := has_no hlo.out hhi.out HI.out (fun h => by rw [HA.out] at h; omega)
          go_wp2
          go_ret
          exact ⟨rfl, rfl⟩
  · obtain rfl : l = 0 := by omega
    have hA0 : A = [] := List.eq_nil_of_length_eq_zero HA.out
    subst hA0
    go_enter Trym.func15, Trym.ntmps15
    go_wp2
    go_loop [5, 6] (fun a b => a = .int .i64 0 ∧ b = .int .i64 0) (fun a b => 0)
    case atStart => exact ⟨rfl, rfl⟩
    case round =>
      obtain ⟨rfl, rfl⟩ := hrel
      go_wp2
      go_ret
      exact ⟨rfl, rfl⟩

/-! ### mgSubset -/
def subB (A B : List Int) : Bool := A.all (hasB B)
theorem sub_end {A B : List Int} (h : ∀ t, t < A.length → hasB B (A.getD t 0) = true) : subB A B = true := by
  unfold subB
  rw [List.all_eq_true]
  intro x hx
  obtain ⟨t, ht, rfl⟩ := List.mem_iff_getElem.1 hx
  have := h t ht
  simpa [List.getD, ht] using this
theorem sub_no {A B : List Int} {t : Nat} (ht : t < A.length) (h : hasB B (A.getD t 0) = false) : subB A B = false := by
  unfold subB
  rw [List.all_eq_false]
  exact ⟨A[t], List.getElem_mem _, by simpa [List.getD, ht] using h⟩

set_option maxHeartbeats 400000 in
theorem sub_any (ao bo : Option Addr) (la lb ca cb ga gb : Nat) (A B : List Int) (w : World) (hla : la ≤ 65536) (hlb : lb ≤ 65536) (hva : View w ao la ga 0 A) (hvb : View w bo lb gb 0 B) (hi : Inc B) :
    Calls Trym.prog 16 #[.slice ao la ca, .slice bo lb cb] w fun r w' => r = .returned (.bool (subB A B)) ∧ w = w' := by
  obtain ⟨hA, ha, hc⟩ := hva
  have HA : Hid (A.length = la) := hA
  have HH : Hid (∀ e, _) := fun e => has_any bo lb cb gb B e w hlb hvb hi
  clear hA hi hvb
  by_cases h0 : 0 < la
  · obtain rfl := ha h0
    go_enter Trym.func16, Trym.ntmps16
    go_wp2
    go_loop [5] (fun a => ∃ k : Nat, k ≤ la ∧ a = .int .i64 k ∧ Hid (∀ t, t < k → hasB B (A.getD t 0) = true)) (fun a => la - (intOf a).toNat)
    case atStart => exact ⟨0, by omega, rfl, fun t ht => by omega⟩
    case round =>
      obtain ⟨k, hk, rfl, hall⟩ := hrel
      by_cases hlt : k < la
      · have hcx := hc k hlt
        rw [Nat.zero_add] at hcx
        clear hc
        have hcall := HH.out (A.getD k 0)
        cases hb : hasB B (A.getD k 0)
        · rw [hb] at hcall
          have hno : Hid (subB A B = false) := sub_no (by rw [HA.out]; exact hlt) hb
          clear hb
          go_wp2_with (go_at_call 15; refine hcall.mono ?_; rintro e w' ⟨rfl, rfl⟩)
          go_ret
          exact ⟨ret_bool hno.out.symm, rfl⟩
        · rw [hb] at hcall
          have HB : Hid _ := hb
          clear hb
          go_wp2_with (go_at_call 15; refine hcall.mono ?_; rintro e w' ⟨rfl, rfl⟩)
          go_round
          case rel => exact ⟨k + 1, by omega, by go_num, fun t ht => by
            by_cases e : t = k
            · subst e; exact HB.out
            · exact hall.out t (by omega)⟩
          case measure => simp [intOf]; omega
      · obtain rfl : k = la := by omega
        have hyes : Hid (subB A B = true) := sub_end (by rw [HA.out]; exact hall.out)
        go_wp2
        go_ret
        exact ⟨ret_bool hyes.out.symm, rfl⟩
  · obtain rfl : la = 0 := by omega
    have hA0 : A = [] := List.eq_nil_of_length_eq_zero HA.out
    subst hA0
    go_enter Trym.func16, Trym.ntmps16
    go_wp2
    go_loop [5] (fun a => a = .int .i64 0) (fun a => 0)
    case atStart => exact rfl
    case round =>
      obtain rfl := hrel
      go_wp2
      go_ret
      exact ⟨rfl, rfl⟩

theorem info30 : (Trym.prog.info? 30).map (fun i => (i.zero, i.size, i.bytes)) = some (some (.int .i64 0), 1, 8) := by kernel_rfl

/-! ### mgIsItself, at one and the same slice -/
set_option maxHeartbeats 400000 in
theorem itself_any (ao : Option Addr) (l g : Nat) (w : World) (hl : l ≤ 65536) (ha : 0 < l → ao = some ⟨g, 0, none⟩) :
    Calls Trym.prog 18 #[.slice ao l l, .slice ao l l] w fun r w' => r = .returned (.bool true) ∧ Below w.heap.size w w' := by
  have hq : ∀ (w : World) (a : Option Addr) (n c : Nat), (binOp .eql 25 (.slice a n c) (.slice none 0 0)).run Trym.prog w = .ok (.bool a.isNone) w := fun w a n c => Lib.run_eql_slice_nil w 25 _ a n c _ _ Trym.underlying25
  obtain ⟨i0, hi, hz0, hz1, hz2⟩ := info_parts info30
  have hps : ∀ (w : World) (a : Addr), (binOp .eql 32 (.pointer (some a)) (.pointer (some a))).run Trym.prog w = .ok (.bool true) w := fun w a => run_eql_ptr_same w a Trym.underlying32 hi
  by_cases h0 : 0 < l
  · obtain rfl := ha h0
    have h1 : (0 : Int) < (l : Int) := by omega
    have h2 : ((l : Int) == 0) = false := by rw [beq_eq_false_iff_ne]; omega
    go_enter Trym.func18, Trym.ntmps18
    go_wp2
    go_quiet (fail)
    go_wp2
    go_ret
    exact ⟨rfl, below_drewN (Below.refl _ _) _⟩
  · obtain rfl : l = 0 := by omega
    go_enter Trym.func18, Trym.ntmps18
    go_wp2
    go_ret
    exact ⟨by simp, Below.refl _ _⟩

/-! ### mgEvents -/
/-- A row half filled: the first k numbers of zs, then noughts. -/
def part (zs : List Int) (len k : Nat) : List Int := zs.take k ++ List.replicate (len - k) 0
theorem part_zero (zs : List Int) (len : Nat) : part zs len 0 = List.replicate len 0 := by simp [part]
theorem part_full (zs : List Int) (len : Nat) : part zs len len = zs.take len := by simp [part]
theorem part_set (zs : List Int) (len k : Nat) (h : k < len) (hz : len ≤ zs.length) : (part zs len k).set k (zs.getD k 0) = part zs len (k + 1) := by
  unfold part
  have e1 : (zs.take k).length = k := by simp; omega
  rw [List.set_append_right _ _ (by omega), e1, Nat.sub_self]
  obtain ⟨m, hm⟩ : ∃ m, len - k = m + 1 := ⟨len - k - 1, by omega⟩
  have e2 : len - (k + 1) = m := by omega
  have e3 : zs.getD k 0 = zs[k]'(by omega) := by simp [List.getD, show k < zs.length by omega]
  rw [hm, e2, List.replicate_succ, List.set_cons_zero, e3, List.take_succ_eq_append_getElem (by omega), List.append_assoc]
  rfl

/-- WHAT A COPY IS: nil of nil; else a row of its own at the first new block. -/
def Copied (ao : Option Addr) (len : Nat) (zs : List Int) (w : World) (v : Value) (w' : World) : Prop :=
  (v = .slice none 0 0 ∧ ao = none) ∨ (v = .slice (some ⟨w.heap.size, 0, none⟩) len len ∧ w'.ownsRow w.heap.size 30 1 v len (zs.map (Value.int .i64)))

set_option maxHeartbeats 400000 in
theorem events_any (ao : Option Addr) (len cap g off : Nat) (zs : List Int) (w : World) (hm : len ≤ 65536) (hv : View w ao len g off zs) :
    Calls Trym.prog 12 #[.slice ao len cap] w fun e w' => ∃ v, e = .returned v ∧ Copied ao len zs w v w' ∧ Below w.heap.size w w' := by
  obtain ⟨i0, hi, hz0, hz1, hz2⟩ := info_parts info30
  have hq : ∀ (w : World) (a : Option Addr) (n c : Nat), (binOp .eql 22 (.slice a n c) (.slice none 0 0)).run Trym.prog w = .ok (.bool a.isNone) w := fun w a n c => Lib.run_eql_slice_nil w 22 _ a n c _ _ Trym.underlying22
  obtain ⟨hz, hx, hc⟩ := hv
  cases ao with
  | none =>
    go_enter Trym.func12, Trym.ntmps12
    go_wp2
    go_ret
    exact ⟨_, rfl, .inl ⟨rfl, rfl⟩, Below.refl _ _⟩
  | some x =>
    go_enter Trym.func12, Trym.ntmps12
    go_wp2_with (at_make; refine wpList_make_full _ rfl _ _ 25 rfl w.heap.size 30 i0 (.int .i64 0) 1 Trym.underlying25 hi hz0 hz1 _ _ _ _ len rfl rfl rfl rfl ?b2 ?b3 (Nat.le_refl _) ?_)
    case b2 => rw [hz2]; omega
    case b3 => unfold maxLen; omega
    intro w0 hown0 hgrow0
    go_wp2
    go_loopw [4] (fun i wr => ∃ k : Nat, k ≤ len ∧ i = .int .i64 k ∧ wr.ownsRow w.heap.size 30 1 (.slice (some ⟨w.heap.size, 0, none⟩) len len) len ((part zs len k).map (Value.int .i64)) ∧ Below w.heap.size w wr)
      (fun i _ => len - (intOf i).toNat)
    case atStart => exact ⟨0, Nat.zero_le _, rfl, by simpa [part_zero, Value.cells, toList_madeCells_one] using hown0, (Below.refl _ _).grown hgrow0 (Nat.le_refl _) (fun k h => by cases h)⟩
    case round =>
      obtain ⟨k, hk, rfl, hown, hnx⟩ := hrel
      clear hown0 hgrow0
      by_cases hlt : k < len
      · obtain rfl : x = ⟨g, off, none⟩ := Option.some.inj (hx (by omega))
        have hcx := cell_later hnx (hc k hlt)
        have hce : ∃ c, wr.cell? ⟨w.heap.size, k, none⟩ = some c := by
          refine ⟨_, (hown.cellAt k (by omega)).trans (List.getElem?_eq_getElem (h := ?_))⟩
          have := hown.1
          omega
        obtain ⟨c, hce⟩ := hce
        have hfz := hown.frozenAt k
        have hst := hown.stored k (.int .i64 (zs.getD k 0))
        rw [← List.map_set, part_set zs len k hlt (by omega)] at hst
        obtain ⟨hown', hgrow'⟩ := hst
        have HO : Hid _ := And.intro hown' (hnx.grown hgrow' hnx.size (fun k hk => by cases hk; exact Nat.le_refl _))
        clear hown' hgrow' hc hown hx hz
        go_wp2
        go_roundw
        case rel => exact ⟨k + 1, by omega, by go_num, HO.out.1, HO.out.2⟩
        case measure => simp [intOf]; omega
      · obtain rfl : k = len := by omega
        have HO : Hid _ := hown
        have HZ : Hid _ := hz
        clear hown hz
        go_wp2
        go_ret
        exact ⟨_, rfl, .inr ⟨rfl, by have := HO.out; rw [part_full, List.take_of_length_le (by rw [HZ.out]; exact Nat.le_refl _)] at this; exact this⟩, hnx⟩
end Go.Proofs.Qxb6601046aMods.mrg
