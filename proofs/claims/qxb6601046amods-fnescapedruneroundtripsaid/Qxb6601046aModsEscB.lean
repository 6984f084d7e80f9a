import Derived.Test.Qxb6601046aModsEscA
namespace Go.Proofs.Qxb6601046aMods.esc
open Go.RowKit

def HexOf (c d : Int) : Prop := (0 ≤ d ∧ d < 10 ∧ c = 48 + d) ∨ (10 ≤ d ∧ d < 16 ∧ c = 87 + d) ∨ (10 ≤ d ∧ d < 16 ∧ c = 55 + d)

def val (f : Nat → Int) : Nat → Int
  | 0 => 0
  | k + 1 => 16 * val f k + f k

def pow16 : Nat → Int
  | 0 => 1
  | k + 1 => 16 * pow16 k

theorem val_bd (f : Nat → Int) (hf : ∀ j, 0 ≤ f j ∧ f j < 16) : ∀ k, 0 ≤ val f k ∧ val f k < pow16 k
  | 0 => by simp [val, pow16]
  | k + 1 => by have := val_bd f hf k; have := hf k; simp only [val, pow16]; omega

theorem pow16_le : ∀ k, k ≤ 3 → pow16 k ≤ 4096 := by
  intro k hk
  match k, hk with
  | 0, _ => decide
  | 1, _ => decide
  | 2, _ => decide
  | 3, _ => decide

theorem or16 (r x : Int) (h0 : 0 ≤ r) (h1 : r < 4096) (h2 : 0 ≤ x) (h3 : x < 16) : bits .or .i32 (r * 16) x = 16 * r + x := by
  rw [bits_join .i32 31 (by decide) wraps_i32 4 (r * 16) x (by omega) (by show r * 16 % 16 = 0; omega) (by show r * 16 < 2147483648; omega) h2 (by show x < 16; omega) (by show x < 2147483648; omega)]
  omega

theorem val_int (d : Nat → Int) (k : Nat) (x : Int) (hx : x = d k) (hk : k ≤ 3) (hf : ∀ j, 0 ≤ d j ∧ d j < 16) : Value.int .i32 (bits .or .i32 (val d k * 16) x) = .int .i32 (val d (k + 1)) := by
  have hb := val_bd d hf k
  have hp := pow16_le k hk
  have := hf k
  rw [or16 _ _ (by omega) (by omega) (by omega) (by omega), hx]
  rfl

set_option maxHeartbeats 400000 in
theorem er_any (g len cap : Nat) (w : World) (hl : 6 ≤ len) (hlc : len ≤ cap) (hcap : cap ≤ maxLen) (c d : Nat → Int) (hx : ∀ j, HexOf (c j) (d j))
    (h0 : w.cell? ⟨g, 0, none⟩ = some (.int .u8 92)) (h1 : w.cell? ⟨g, 1, none⟩ = some (.int .u8 117)) (hc : ∀ j, j < 4 → w.cell? ⟨g, 2 + j, none⟩ = some (.int .u8 (c j))) :
    Calls Trym.prog 31 #[.slice (some ⟨g, 0, none⟩) len cap] w fun e w' => e = .returned (.tuple #[.int .i32 (val d 4), .bool true]) ∧ w = w' := by
  unfold maxLen at hcap
  have hf : Hid (∀ j, 0 ≤ d j ∧ d j < 16) := fun j => by have := hx j; unfold HexOf at this; omega
  go_enter Trym.func31, Trym.ntmps31
  go_wp2
  go_loop [4, 25] (fun r i => ∃ k : Nat, k ≤ 4 ∧ i = .int .i64 k ∧ r = .int .i32 (val d k)) (fun _ i => 4 - (intOf i).toNat)
  case atStart => exact ⟨0, Nat.zero_le _, rfl, rfl⟩
  case round =>
    obtain ⟨k, hk, rfl, rfl⟩ := hrel
    have hb := val_bd d hf.out k
    by_cases hlt : k < 4
    · have hcx := hc k hlt
      have hp := pow16_le k (by omega)
      have hxk := hx k
      clear hc hx
      rcases hxk with ⟨a1, a2, a3⟩ | ⟨a1, a2, a3⟩ | ⟨a1, a2, a3⟩
      · have b1 : 48 ≤ c k := by omega
        have b2 : c k ≤ 57 := by omega
        have HC : Hid (c k = 48 + d k) := a3
        clear a3
        go_wp2
        go_round
        case rel => exact ⟨k + 1, by omega, by go_num, val_int d k _ (by have := HC.out; omega) (by omega) hf.out⟩
        case measure => simp [intOf]; omega
      · have b1 : 97 ≤ c k := by omega
        have b2 : c k ≤ 102 := by omega
        have HC : Hid (c k = 87 + d k) := a3
        clear a3
        go_wp2
        go_round
        case rel => exact ⟨k + 1, by omega, by go_num, val_int d k _ (by have := HC.out; omega) (by omega) hf.out⟩
        case measure => simp [intOf]; omega
      · have b1 : 65 ≤ c k := by omega
        have b2 : c k ≤ 70 := by omega
        have HC : Hid (c k = 55 + d k) := a3
        clear a3
        go_wp2
        go_round
        case rel => exact ⟨k + 1, by omega, by go_num, val_int d k _ (by have := HC.out; omega) (by omega) hf.out⟩
        case measure => simp [intOf]; omega
    · obtain rfl : k = 4 := by omega
      go_wp2
      go_ret2
      exact ⟨rfl, rfl⟩

theorem zz_any (g len cap : Nat) (w : World) (hl : 6 ≤ len) (hlc : len ≤ cap) (hcap : cap ≤ maxLen) (c d : Nat → Int) (hx : ∀ j, HexOf (c j) (d j))
    (h0 : w.cell? ⟨g, 0, none⟩ = some (.int .u8 92)) (h1 : w.cell? ⟨g, 1, none⟩ = some (.int .u8 117)) (hc : ∀ j, j < 4 → w.cell? ⟨g, 2 + j, none⟩ = some (.int .u8 (c j))) :
    Calls Trym.prog 23 #[.slice (some ⟨g, 0, none⟩) len cap] w fun e w' => e = .returned (.tuple #[.int .i32 (val d 4), .bool true]) ∧ w = w' := by
  have H := er_any g len cap w hl hlc hcap c d hx h0 h1 hc
  clear h0 h1 hc hx
  generalize val d 4 = r at *
  go_enter Trym.func23, Trym.ntmps23
  go_wp2_with fail
  refine H.mono ?_
  rintro e w' ⟨rfl, rfl⟩
  clear H
  go_wp2
  go_ret2
  exact ⟨rfl, rfl⟩
end Go.Proofs.Qxb6601046aMods.esc
