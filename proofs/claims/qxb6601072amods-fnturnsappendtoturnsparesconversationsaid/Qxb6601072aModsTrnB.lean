import Derived.Test.Qxb6601072aModsTrnA
import Derived.Deep.RegionWith
import Derived.Deep.RegionLaw
import Derived.Deep.RegionHeld3
import Derived.Deep.DrawnRows
set_option linter.unusedVariables false
namespace Go.Proofs.Qxb6601072aMods.trn
open Go.RowKit

def zmsg : Value := .agg #[.string ⟨#[]⟩, .string ⟨#[]⟩, .slice none 0 0, .string ⟨#[]⟩]
theorem info31 : (Trym.prog.info? 31).map (fun i => (i.zero, i.size, i.bytes)) = some (some zmsg, 4, 72) := by kernel_rfl

theorem same_any (r c : ByteArray) (w : World) :
    Calls Trym.prog 10 #[.agg #[.string r, .string c, .slice none 0 0, .string ⟨#[]⟩], .string r, .string c] w fun e w' => e = .returned (.bool true) ∧ Below w.heap.size w w' := by
  have hq : ∀ (w : World) (a : Option Addr) (n c : Nat), (binOp .eql 29 (.slice a n c) (.slice none 0 0)).run Trym.prog w = .ok (.bool a.isNone) w := fun w a n c => Lib.run_eql_slice_nil w 29 _ a n c _ _ Trym.underlying29
  go_enter Trym.func10, Trym.ntmps10
  go_wp2
  go_ret
  exact ⟨by simp, (Below.refl _ _).alloc (Nat.le_refl _) _⟩

/-! ### The messages, as cells -/
section
variable (R C : Nat → ByteArray)
/-- Message i. -/
def mc (i : Nat) : List Value := [.string (R i), .string (C i), .slice none 0 0, .string ⟨#[]⟩]
/-- Messages s, s + 1, .. s + l - 1. -/
def mcs (s : Nat) : Nat → List Value
  | 0 => []
  | l + 1 => mcs s l ++ mc R C (s + l)
theorem mcs_len (s : Nat) : ∀ l, (mcs R C s l).length = 4 * l
  | 0 => rfl
  | l + 1 => by simp [mcs, mcs_len s l, mc]; omega
theorem mcs_get (s : Nat) : ∀ l p f, p < l → f < 4 → (mcs R C s l)[p * 4 + f]? = (mc R C (s + p))[f]?
  | 0, p, f, h, _ => by omega
  | l + 1, p, f, h, hf => by
    unfold mcs
    by_cases e : p = l
    · subst e
      rw [List.getElem?_append_right (by rw [mcs_len]; omega), mcs_len]
      congr 1
      omega
    · rw [List.getElem?_append_left (by rw [mcs_len]; omega)]
      exact mcs_get s l p f (by omega) hf
/-- The messages lie in block gm. -/
def Msgs (w : World) (gm n : Nat) : Prop := ∀ i, i < n → ∀ f, f < 4 → w.cell? ⟨gm, i * 4 + f, none⟩ = (mc R C i)[f]?
end

/-- Four stores, one message. -/
def set4 (L : List Value) (k : Nat) (a b c d : Value) : List Value := (((L.set (k * 4) a).set (k * 4 + 1) b).set (k * 4 + 2) c).set (k * 4 + 3) d
theorem own4 {w : World} {base e g n cap : Nat} {L : List Value} (h : w.ownsRow base e 4 (.slice (some ⟨g, 0, none⟩) n cap) n L) (k : Nat) (a b c d : Value) (hb : base ≤ w.heap.size) (hg : base ≤ g) {B : Nat} {w0 : World} (hB : B ≤ base) (hw : Below B w0 w) :
    ((((w.setCell ⟨g, k * 4, none⟩ a).setCell ⟨g, k * 4 + 1, none⟩ b).setCell ⟨g, k * 4 + 2, none⟩ c).setCell ⟨g, k * 4 + 3, none⟩ d).drew.ownsRow base e 4 (.slice (some ⟨g, 0, none⟩) n cap) n (set4 L k a b c d) ∧
    Below B w0 ((((w.setCell ⟨g, k * 4, none⟩ a).setCell ⟨g, k * 4 + 1, none⟩ b).setCell ⟨g, k * 4 + 2, none⟩ c).setCell ⟨g, k * 4 + 3, none⟩ d).drew :=
  ⟨((((h.stored (k * 4) a).1.stored (k * 4 + 1) b).1.stored (k * 4 + 2) c).1.stored (k * 4 + 3) d).1.drew,
   ((((hw.setCell (Nat.le_trans hB hg) a).setCell (Nat.le_trans hB hg) b).setCell (Nat.le_trans hB hg) c).setCell (Nat.le_trans hB hg) d).drew⟩
theorem set4_get {R C : Nat → ByteArray} {L : List Value} {k : Nat} (hl : k * 4 + 3 < L.length) (h : ∀ i, i < k → ∀ f, f < 4 → L[i * 4 + f]? = (mc R C i)[f]?) :
    ∀ i, i < k + 1 → ∀ f, f < 4 → (set4 L k (.string (R k)) (.string (C k)) (.slice none 0 0) (.string ⟨#[]⟩))[i * 4 + f]? = (mc R C i)[f]? := by
  intro i hi f hf
  unfold set4
  simp only [List.getElem?_set, List.length_set]
  by_cases e : i = k
  · subst e
    match f, hf with
    | 0, _ => simp [mc, show i * 4 < L.length by omega]
    | 1, _ => simp [mc, show i * 4 + 1 < L.length by omega]
    | 2, _ => simp [mc, show i * 4 + 2 < L.length by omega]
    | 3, _ => simp [mc, show i * 4 + 3 < L.length by omega]
  · rw [if_neg (by omega), if_neg (by omega), if_neg (by omega), if_neg (by omega)]
    exact h i (by omega) f hf

set_option maxHeartbeats 1000000 in
theorem build_any (ao bo : Option Addr) (la ca ga oa lb cb gb ob : Nat) (R B : Nat → ByteArray) (w : World) (hla : la ≤ 65536) (hlb : lb ≤ 65536) (hva : SView w ao la ga oa R) (hvb : SView w bo lb gb ob B) :
    Calls Trym.prog 8 #[.slice ao la ca, .slice bo lb cb] w fun e w' => e = .returned (.slice (some ⟨w.heap.size, 0, none⟩) la la) ∧ Msgs R (cont lb B) w' w.heap.size la ∧ w.heap.size < w'.heap.size ∧ Below w.heap.size w w' := by
  obtain ⟨i0, hi, hz0, hz1, hz2⟩ := info_parts info31
  have HA : Hid (SView w ao la ga oa R) := hva
  have HB : Hid (SView w bo lb gb ob B) := hvb
  clear hva hvb
  go_enter Trym.func8, Trym.ntmps8
  go_wp2_with (at_make; refine wpList_make_full _ rfl _ _ 24 rfl w.heap.size 31 i0 zmsg 4 Trym.underlying24 hi hz0 hz1 _ _ _ _ la rfl rfl rfl rfl ?b2 ?b3 (Nat.le_refl _) ?_)
  case b2 => rw [hz2]; omega
  case b3 => unfold maxLen; omega
  intro w0 hown0 hgrow0
  go_wp2
  go_loopw [6] (fun i wr => ∃ (k : Nat) (L : List Value), k ≤ la ∧ i = .int .i64 k ∧ wr.ownsRow w.heap.size 31 4 (.slice (some ⟨w.heap.size, 0, none⟩) la la) la L ∧ Hid (∀ i, i < k → ∀ f, f < 4 → L[i * 4 + f]? = (mc R (cont lb B) i)[f]?) ∧ Below w.heap.size w wr)
    (fun i _ => la - (intOf i).toNat)
  case atStart => exact ⟨0, _, Nat.zero_le _, rfl, hown0, fun i h => by omega, (Below.refl _ _).grown hgrow0 (Nat.le_refl _) (fun k h => by cases h)⟩
  case round =>
    obtain ⟨k, L, hk, rfl, hown, hL, hnx⟩ := hrel
    clear hown0 hgrow0
    by_cases hlt : k < la
    · obtain rfl := HA.out.1 (by omega)
      have hcx := cell_later hnx (HA.out.2 k hlt)
      have hne := World.new_ne w _ (HA.out.2 k hlt)
      have HS : Hid (SView wr bo lb gb ob B) := HB.out.later hnx
      have hle : ∀ f, f < 4 → ∃ c, wr.cell? ⟨w.heap.size, k * 4 + f, none⟩ = some c := fun f hf => by
        refine ⟨_, (hown.cellAt (k * 4 + f) (by omega)).trans (List.getElem?_eq_getElem (h := ?_))⟩
        have := hown.1
        omega
      obtain ⟨c0, hc0⟩ := hle 0 (by omega)
      obtain ⟨c1, hc1⟩ := hle 1 (by omega)
      obtain ⟨c2, hc2⟩ := hle 2 (by omega)
      obtain ⟨c3, hc3⟩ := hle 3 (by omega)
      rw [Nat.add_zero] at hc0
      have f0 := hown.frozenAt (k * 4)
      have f1 := hown.frozenAt (k * 4 + 1)
      have f2 := hown.frozenAt (k * 4 + 2)
      have f3 := hown.frozenAt (k * 4 + 3)
      have b1 : (0 : Int) ≤ (k : Int) := by omega
      have b2 : (k : Int) < (la : Int) := by omega
      clear hle
      have HO : Hid _ := own4 hown k (.string (R k)) (.string (cont lb B k)) (.slice none 0 0) (.string ⟨#[]⟩) hnx.size (Nat.le_refl _) (Nat.le_refl _) hnx
      have HL : Hid (k * 4 + 3 < L.length) := by have := hown.1; show _ < _; omega
      clear hown
      go_wp2
      go_region_held3 (fun wx => wx.cell? ⟨ga, oa + k, none⟩ = some (.string (R k))) (go_keep) (first | (go_at_call 11; refine (content_any bo lb cb gb ob B k _ hlb (by omega) (by exact HS.out)).mono ?_; rintro e w' ⟨rfl, rfl⟩))
      go_wp2
      go_roundw
      case rel => exact ⟨k + 1, _, by omega, by go_num, HO.out.1, set4_get HL.out hL.out, HO.out.2⟩
      case measure => simp [intOf]; omega
    · obtain rfl : k = la := by omega
      have HM : Hid (Msgs R (cont lb B) wr w.heap.size k) := fun i h f hf => (hown.cellAt (i * 4 + f) (by omega)).trans (hL.out i h f hf)
      have HZ : Hid (w.heap.size < wr.heap.size) := (hown.lt _ rfl).2
      clear hown
      go_wp2
      go_ret
      exact ⟨rfl, HM.out, HZ.out, hnx⟩
end Go.Proofs.Qxb6601072aMods.trn
