import Derived.Test.Qxb6601072aModsRows
import Derived.WalkKit
import Derived.WalkSpells
import Derived.Below
import Derived.Deep.QuietTactic
import Derived.BigQuiet
set_option linter.unusedVariables false
namespace Go.Proofs.Qxb6601072aMods.trn
open Go.RowKit

/-- The slice value '.slice ao l _' shows the strings S 0, S 1, .. S (l-1), in the cells of block g from off on. -/
def SView (w : World) (ao : Option Addr) (l g off : Nat) (S : Nat → ByteArray) : Prop :=
  (0 < l → ao = some ⟨g, off, none⟩) ∧ ∀ t, t < l → w.cell? ⟨g, off + t, none⟩ = some (.string (S t))

theorem SView.later {w w' : World} {ao : Option Addr} {l g off : Nat} {S : Nat → ByteArray} (h : SView w ao l g off S) (hb : Below w.heap.size w w') : SView w' ao l g off S :=
  ⟨h.1, fun t ht => cell_later hb (h.2 t ht)⟩

theorem below_drewN {B : Nat} {a w : World} (h : Below B a w) (n : Nat) : Below B a (w.drewN n) := h.trans ⟨rfl, rfl, rfl, Nat.le_refl _, fun _ _ => rfl⟩

/-- The content that goes with message i. -/
def cont (lc : Nat) (S : Nat → ByteArray) (i : Nat) : ByteArray := if i < lc then S i else ⟨#[]⟩

theorem content_any (co : Option Addr) (lc cc g off : Nat) (S : Nat → ByteArray) (i : Nat) (w : World) (hl : lc ≤ 65536) (hi : i ≤ 65536) (hv : SView w co lc g off S) :
    Calls Trym.prog 11 #[.slice co lc cc, .int .i64 i] w fun e w' => e = .returned (.string (cont lc S i)) ∧ w = w' := by
  by_cases h : i < lc
  · obtain ⟨ha, hc⟩ := hv
    obtain rfl := ha (by omega)
    have hcx := hc i h
    have e : Hid (cont lc S i = S i) := if_pos h
    clear ha hc
    go_enter Trym.func11, Trym.ntmps11
    go_wp2
    go_ret
    exact ⟨by rw [e.out]; rfl, rfl⟩
  · have e : Hid (cont lc S i = ⟨#[]⟩) := if_neg h
    clear hv
    go_enter Trym.func11, Trym.ntmps11
    go_wp2
    go_ret
    exact ⟨by rw [e.out]; rfl, rfl⟩

/-- What the first guard says. -/
def OkPost (la lb : Nat) (e : Ending) : Prop := ∃ b, e = .returned (.bool b) ∧ (b = true → la ≤ 65536 ∧ lb ≤ 65536)
theorem OkPost.no (la lb : Nat) : OkPost la lb (.returned (.bool false)) := ⟨_, rfl, fun h => by cases h⟩
theorem OkPost.yes {la lb : Nat} (h1 : la ≤ 65536) (h2 : lb ≤ 65536) : OkPost la lb (.returned (.bool true)) := ⟨_, rfl, fun _ => ⟨h1, h2⟩⟩
def AnyBool (e : Ending) : Prop := ∃ b, e = .returned (.bool b)
theorem AnyBool.mk (b : Bool) : AnyBool (.returned (.bool b)) := ⟨_, rfl⟩

set_option maxHeartbeats 1000000 in
theorem ok_any (ao bo : Option Addr) (la ca ga oa lb cb gb ob : Nat) (A B : Nat → ByteArray) (w : World) (hla : la ≤ 9223372036854775807) (hlb : lb ≤ 9223372036854775807) (hva : SView w ao la ga oa A) (hvb : SView w bo lb gb ob B) :
    Calls Trym.prog 7 #[.slice ao la ca, .slice bo lb cb] w fun e w' => OkPost la lb e ∧ w = w' := by
  have HA : Hid (SView w ao la ga oa A) := hva
  have HB : Hid (SView w bo lb gb ob B) := hvb
  clear hva hvb
  by_cases h1 : la ≤ 65536
  · by_cases h2 : lb ≤ 65536
    · go_enter Trym.func7, Trym.ntmps7
      go_wp2
      all_goals try (go_ret; exact ⟨OkPost.no _ _, rfl⟩)
      go_loop [5, 6] (fun z i => ∃ (k : Nat) (n : Int), k ≤ la ∧ i = .int .i64 k ∧ z = .int .i64 n) (fun _ i => la - (intOf i).toNat)
      case atStart => exact ⟨0, _, Nat.zero_le _, rfl, rfl⟩
      case round =>
        obtain ⟨k, n, hk, rfl, rfl⟩ := hrel
        by_cases hlt : k < la
        · obtain rfl := HA.out.1 (by omega)
          have hcx := HA.out.2 k hlt
          go_wp2
          all_goals try (go_ret; exact ⟨OkPost.no _ _, rfl⟩)
          go_round
          case rel => exact ⟨k + 1, _, by omega, by go_num, rfl⟩
          case measure => simp [intOf]; omega
        · obtain rfl : k = la := by omega
          go_wp2
          all_goals try (go_ret; exact ⟨OkPost.no _ _, rfl⟩)
          go_loop [5, 7] (fun z i => ∃ (k : Nat) (n : Int), k ≤ lb ∧ i = .int .i64 k ∧ z = .int .i64 n) (fun _ i => lb - (intOf i).toNat)
          case atStart => exact ⟨0, _, Nat.zero_le _, rfl, rfl⟩
          case round =>
            obtain ⟨k, n, hk, rfl, rfl⟩ := hrel
            by_cases hlt : k < lb
            · obtain rfl := HB.out.1 (by omega)
              have hcx := HB.out.2 k hlt
              go_wp2
              all_goals try (go_ret; exact ⟨OkPost.no _ _, rfl⟩)
              go_round
              case rel => first | exact ⟨k + 1, _, by omega, by go_num, rfl⟩ | ((repeat apply Exists.intro); exact ⟨⟨k + 1, _, by omega, by go_num, rfl⟩, rfl⟩)
              case measure => simp [intOf]; omega
            · go_wp2
              go_ret
              exact ⟨OkPost.yes h1 h2, rfl⟩
    · go_enter Trym.func7, Trym.ntmps7
      go_wp2
      go_ret
      exact ⟨OkPost.no _ _, rfl⟩
  · go_enter Trym.func7, Trym.ntmps7
    go_wp2
    go_ret
    exact ⟨OkPost.no _ _, rfl⟩

set_option maxHeartbeats 1000000 in
theorem bytes6 (ao bo : Option Addr) (la ca ga oa lb cb gb ob : Nat) (A B : Nat → ByteArray) (w : World) (hla : la ≤ 9223372036854775807) (hlb : lb ≤ 9223372036854775807) (hva : SView w ao la ga oa A) (hvb : SView w bo lb gb ob B) :
    Calls Trym.prog 6 #[.slice ao la ca, .slice bo lb cb] w fun e w' => AnyBool e ∧ w = w' := by
  have HA : Hid (SView w ao la ga oa A) := hva
  have HB : Hid (SView w bo lb gb ob B) := hvb
  clear hva hvb
  go_enter Trym.func6, Trym.ntmps6
  go_wp2
  all_goals try (go_ret; exact ⟨AnyBool.mk _, rfl⟩)
  go_loop [5, 6] (fun z i => ∃ (k : Nat) (n : Int), k ≤ la ∧ i = .int .i64 k ∧ z = .int .i64 n) (fun _ i => la - (intOf i).toNat)
  case atStart => exact ⟨0, _, Nat.zero_le _, rfl, rfl⟩
  case round =>
    obtain ⟨k, n, hk, rfl, rfl⟩ := hrel
    by_cases hlt : k < la
    · obtain rfl := HA.out.1 (by omega)
      have hcx := HA.out.2 k hlt
      go_wp2
      all_goals try (go_ret; exact ⟨AnyBool.mk _, rfl⟩)
      go_round
      case rel => exact ⟨k + 1, _, by omega, by go_num, rfl⟩
      case measure => simp [intOf]; omega
    · obtain rfl : k = la := by omega
      go_wp2
      all_goals try (go_ret; exact ⟨AnyBool.mk _, rfl⟩)
      go_loop [5, 7] (fun z i => ∃ (k : Nat) (n : Int), k ≤ lb ∧ i = .int .i64 k ∧ z = .int .i64 n) (fun _ i => lb - (intOf i).toNat)
      case atStart => exact ⟨0, _, Nat.zero_le _, rfl, rfl⟩
      case round =>
        obtain ⟨k, n, hk, rfl, rfl⟩ := hrel
        by_cases hlt : k < lb
        · obtain rfl := HB.out.1 (by omega)
          have hcx := HB.out.2 k hlt
          go_wp2
          all_goals try (go_ret; exact ⟨AnyBool.mk _, rfl⟩)
          go_round
          case rel => first | exact ⟨k + 1, _, by omega, by go_num, rfl⟩ | ((repeat apply Exists.intro); exact ⟨⟨k + 1, _, by omega, by go_num, rfl⟩, rfl⟩)
          case measure => simp [intOf]; omega
        · go_wp2
          go_ret
          exact ⟨AnyBool.mk _, rfl⟩

set_option maxHeartbeats 1000000 in
theorem bytes12 (ao bo : Option Addr) (la ca ga oa lb cb gb ob : Nat) (A B : Nat → ByteArray) (w : World) (hla : la ≤ 9223372036854775807) (hlb : lb ≤ 9223372036854775807) (hva : SView w ao la ga oa A) (hvb : SView w bo lb gb ob B) :
    Calls Trym.prog 12 #[.slice ao la ca, .slice bo lb cb] w fun e w' => AnyBool e ∧ w = w' := by
  have HA : Hid (SView w ao la ga oa A) := hva
  have HB : Hid (SView w bo lb gb ob B) := hvb
  clear hva hvb
  go_enter Trym.func12, Trym.ntmps12
  go_wp2
  all_goals try (go_ret; exact ⟨AnyBool.mk _, rfl⟩)
  go_loop [5, 6] (fun z i => ∃ (k : Nat) (n : Int), k ≤ la ∧ i = .int .i64 k ∧ z = .int .i64 n) (fun _ i => la - (intOf i).toNat)
  case atStart => exact ⟨0, _, Nat.zero_le _, rfl, rfl⟩
  case round =>
    obtain ⟨k, n, hk, rfl, rfl⟩ := hrel
    by_cases hlt : k < la
    · obtain rfl := HA.out.1 (by omega)
      have hcx := HA.out.2 k hlt
      go_wp2
      all_goals try (go_ret; exact ⟨AnyBool.mk _, rfl⟩)
      go_round
      case rel => exact ⟨k + 1, _, by omega, by go_num, rfl⟩
      case measure => simp [intOf]; omega
    · obtain rfl : k = la := by omega
      go_wp2
      all_goals try (go_ret; exact ⟨AnyBool.mk _, rfl⟩)
      go_loop [5, 7] (fun z i => ∃ (k : Nat) (n : Int), k ≤ lb ∧ i = .int .i64 k ∧ z = .int .i64 n) (fun _ i => lb - (intOf i).toNat)
      case atStart => exact ⟨0, _, Nat.zero_le _, rfl, rfl⟩
      case round =>
        obtain ⟨k, n, hk, rfl, rfl⟩ := hrel
        by_cases hlt : k < lb
        · obtain rfl := HB.out.1 (by omega)
          have hcx := HB.out.2 k hlt
          go_wp2
          all_goals try (go_ret; exact ⟨AnyBool.mk _, rfl⟩)
          go_round
          case rel => first | exact ⟨k + 1, _, by omega, by go_num, rfl⟩ | ((repeat apply Exists.intro); exact ⟨⟨k + 1, _, by omega, by go_num, rfl⟩, rfl⟩)
          case measure => simp [intOf]; omega
        · go_wp2
          go_ret
          exact ⟨AnyBool.mk _, rfl⟩

set_option maxHeartbeats 1000000 in
theorem bytes13 (ao bo : Option Addr) (la ca ga oa lb cb gb ob : Nat) (A B : Nat → ByteArray) (w : World) (hla : la ≤ 9223372036854775807) (hlb : lb ≤ 9223372036854775807) (hva : SView w ao la ga oa A) (hvb : SView w bo lb gb ob B) :
    Calls Trym.prog 13 #[.slice ao la ca, .slice bo lb cb] w fun e w' => AnyBool e ∧ w = w' := by
  have HA : Hid (SView w ao la ga oa A) := hva
  have HB : Hid (SView w bo lb gb ob B) := hvb
  clear hva hvb
  go_enter Trym.func13, Trym.ntmps13
  go_wp2
  all_goals try (go_ret; exact ⟨AnyBool.mk _, rfl⟩)
  go_loop [5, 6] (fun z i => ∃ (k : Nat) (n : Int), k ≤ la ∧ i = .int .i64 k ∧ z = .int .i64 n) (fun _ i => la - (intOf i).toNat)
  case atStart => exact ⟨0, _, Nat.zero_le _, rfl, rfl⟩
  case round =>
    obtain ⟨k, n, hk, rfl, rfl⟩ := hrel
    by_cases hlt : k < la
    · obtain rfl := HA.out.1 (by omega)
      have hcx := HA.out.2 k hlt
      go_wp2
      all_goals try (go_ret; exact ⟨AnyBool.mk _, rfl⟩)
      go_round
      case rel => exact ⟨k + 1, _, by omega, by go_num, rfl⟩
      case measure => simp [intOf]; omega
    · obtain rfl : k = la := by omega
      go_wp2
      all_goals try (go_ret; exact ⟨AnyBool.mk _, rfl⟩)
      go_loop [5, 7] (fun z i => ∃ (k : Nat) (n : Int), k ≤ lb ∧ i = .int .i64 k ∧ z = .int .i64 n) (fun _ i => lb - (intOf i).toNat)
      case atStart => exact ⟨0, _, Nat.zero_le _, rfl, rfl⟩
      case round =>
        obtain ⟨k, n, hk, rfl, rfl⟩ := hrel
        by_cases hlt : k < lb
        · obtain rfl := HB.out.1 (by omega)
          have hcx := HB.out.2 k hlt
          go_wp2
          all_goals try (go_ret; exact ⟨AnyBool.mk _, rfl⟩)
          go_round
          case rel => first | exact ⟨k + 1, _, by omega, by go_num, rfl⟩ | ((repeat apply Exists.intro); exact ⟨⟨k + 1, _, by omega, by go_num, rfl⟩, rfl⟩)
          case measure => simp [intOf]; omega
        · go_wp2
          go_ret
          exact ⟨AnyBool.mk _, rfl⟩
end Go.Proofs.Qxb6601072aMods.trn
