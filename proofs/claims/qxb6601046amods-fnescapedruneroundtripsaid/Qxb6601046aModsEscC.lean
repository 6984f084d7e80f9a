import Derived.Test.Qxb6601046aModsEscB
import Derived.OpenShut
set_option linter.unusedVariables false
namespace Go.Proofs.Qxb6601046aMods.esc
open Go.RowKit

def IsRow (k : IntKind) (w : World) (a : Option Addr) (len cap : Nat) (zs : List Int) : Prop :=
  (a = none ∧ len = 0 ∧ cap = 0 ∧ zs = []) ∨
  ∃ x, a = some x ∧ len ≤ cap ∧ cap ≤ maxLen ∧ zs.length = cap ∧ (∀ i, i < zs.length → w.cell? (x.add i) = some (.int k (zs.getD i 0))) ∧ ∀ n ∈ zs, (Lit.int k n).wf = true

def nib (u : Int) (j : Nat) : Int := u / 2 ^ (12 - 4 * j) % 16
def upb (up : Int) (j : Nat) : Bool := up / 2 ^ j % 2 == 1
def hexc (u up : Int) (j : Nat) : Int := if nib u j < 10 then 48 + nib u j else if upb up j then 55 + nib u j else 87 + nib u j
def hexes (u up : Int) (k : Nat) : List Int := 92 :: 117 :: (List.range k).map (hexc u up)

theorem hexes_succ (u up : Int) (k : Nat) : hexes u up (k + 1) = hexes u up k ++ [hexc u up k] := by simp [hexes, List.range_succ]
theorem nib_bd (u : Int) (j : Nat) : 0 ≤ nib u j ∧ nib u j < 16 := by unfold nib; omega
theorem nib_of (u : Int) (k : Nat) (h0 : 0 ≤ u) (h1 : u ≤ 65535) : bits .and .i32 (wrap32 (u / 2 ^ (12 - 4 * k))) 15 = nib u k := by
  have hp : (0 : Int) < 2 ^ (12 - 4 * k) := Int.pow_pos (by decide)
  have h2 : 0 ≤ u / 2 ^ (12 - 4 * k) := Int.ediv_nonneg h0 (by omega)
  have h3 : u / 2 ^ (12 - 4 * k) ≤ u := Int.ediv_le_self _ h0
  rw [IntWalk.wrap32_in _ ⟨by omega, by omega⟩]
  exact bits_mask .i32 31 (by decide) wraps_i32 4 (by decide) _ h2 (by show _ < (2147483648 : Int); omega)
theorem upb_of (u : Int) (k : Nat) (h0 : 0 ≤ u) (h1 : u ≤ 255) : (bits .and .u8 (u / 2 ^ k) 1 == 1) = upb u k := by
  have hp : (0 : Int) < 2 ^ k := Int.pow_pos (by decide)
  have h2 : 0 ≤ u / 2 ^ k := Int.ediv_nonneg h0 (by omega)
  have h3 : u / 2 ^ k ≤ u := Int.ediv_le_self _ h0
  have := bits_mask .u8 8 (by decide) wraps_u8 1 (by decide) _ h2 (by show _ < (256 : Int); omega)
  unfold upb
  rw [show (1 : Int) = 2 ^ 1 - 1 from rfl, this]
  rfl

theorem own_step {w : World} {B : Nat} {e : TypeId} {v : Value} {m : Nat} {k : IntKind} {l l' : List Int} {x y : Int} (h : w.ownsRow B e 1 v m (l.map (Value.int k) ++ [.int k x])) (hl : l' = l ++ [y]) (hy : y = x) :
    w.ownsRow B e 1 v m (l'.map (Value.int k)) := by
  subst hl; subst hy
  simpa using h
theorem hex_of (u up : Int) (j : Nat) : HexOf (hexc u up j) (nib u j) := by
  have := nib_bd u j
  unfold HexOf hexc
  generalize nib u j = n at *
  by_cases h : n < 10
  · exact .inl ⟨by omega, h, by simp [h]⟩
  · cases upb up j
    · exact .inr (.inl ⟨by omega, by omega, by simp [h]⟩)
    · exact .inr (.inr ⟨by omega, by omega, by simp [h]⟩)
theorem val_nib (u : Int) (h0 : 0 ≤ u) (h1 : u ≤ 65535) : val (nib u) 4 = u := by
  have e0 : nib u 0 = u / 4096 % 16 := rfl
  have e1 : nib u 1 = u / 256 % 16 := rfl
  have e2 : nib u 2 = u / 16 % 16 := rfl
  have e3 : nib u 3 = u / 1 % 16 := rfl
  simp only [val, e0, e1, e2, e3]
  omega

set_option maxHeartbeats 1000000 in
theorem walk (a0 : Int) (a1 : Int) (a2 : Option Addr) (len2 cap2 : Nat) (z2 : List Int) (w : World) (w0 : (Lit.int .u16 a0).wf = true) (w1 : (Lit.int .u8 a1).wf = true) (w2 : IsRow .u8 w a2 len2 cap2 z2) :
    Calls Trym.prog 7 #[.int .u16 a0, .int .u8 a1, .slice a2 len2 cap2] w fun e w' => e = .returned (.bool true) ∧ Below w.heap.size w w' := by
  obtain ⟨i0, hi, hz0, hz1, hz2⟩ := info_parts info5
  have b0 : 0 ≤ a0 ∧ a0 ≤ 65535 := by have := bounds_u16 w0; omega
  have b1 : 0 ≤ a1 ∧ a1 ≤ 255 := by have := bounds_u8 w1; omega
  clear w0 w1
  have hlm : len2 ≤ maxLen := by
    rcases w2 with ⟨_, rfl, _⟩ | ⟨x, _, hl, hm, _⟩
    · exact Nat.zero_le _
    · omega
  have hlm' : len2 ≤ 9223372036854775807 := by unfold maxLen at hlm; omega
  by_cases hlen : len2 ≤ 1048576
  · go_enter Trym.func7, Trym.ntmps7
    go_wp2_with (go_at_call 27; refine (bytes_any _ _ _ _ _ _ hlm).mono ?_; rintro e w' ⟨rfl, rfl⟩)
    have hcl := clone_any a2 len2 cap2 z2 w (by rcases w2 with ⟨_, rfl, rfl, rfl⟩ | ⟨x, _, hl, hm, _⟩; omega; omega) hlen
      (by rcases w2 with ⟨_, rfl, rfl, rfl⟩ | ⟨x, _, hl, hm, hz, _⟩; rfl; exact hz)
      (by rcases w2 with ⟨rfl, rfl, rfl, rfl⟩ | ⟨x, rfl, hl, hm, hz, hc, _⟩
          · intro x hx; cases hx
          · intro y hy; cases hy; exact hc)
    refine hcl.mono ?_
    rintro e w1 ⟨v, rfl, hv, hb1⟩
    clear hcl
    obtain ⟨tao, hv', hcells⟩ : ∃ tao, v = .slice tao len2 len2 ∧ ∀ j, j < len2 → ∃ g, tao = some ⟨g, 0, none⟩ ∧ g < w1.heap.size ∧ ∃ c : Int, w1.cell? ⟨g, j, none⟩ = some (.int .u8 c) := by
      rcases hv with ⟨rfl, rfl, rfl⟩ | ⟨rfl, hown⟩
      · rcases w2 with ⟨_, rfl, rfl, rfl⟩ | ⟨x, h, _⟩
        · exact ⟨none, rfl, fun j hj => by omega⟩
        · cases h
      · refine ⟨_, rfl, fun j hj => ⟨_, rfl, (hown.lt _ rfl).2, ?_⟩⟩
        have h1 := hown.cellAt j (by omega)
        have h2 := hown.1
        simp only [List.length_map] at h2
        exact ⟨_, h1.trans (by rw [List.getElem?_map, List.getElem?_eq_getElem (by omega)]; rfl)⟩
    have Hcells : Hid _ := hcells
    clear hv hcells w2
    rw [hv']
    clear hv' v
    go_wp2_with (first
      | (at_make; refine wpList_make_own _ rfl _ _ 33 rfl w1.heap.size 5 i0 (.int .u8 0) 1 Trym.underlying33 hi hz0 hz1 _ _ _ (6 + len2) rfl rfl (by omega) (by rw [hz2]; omega) (by unfold maxLen; omega) (Nat.le_refl _) ?_; intro w2 hown2 hgrow2)
      | (at_builtin; refine wpList_append_fits _ rfl (.tmp 28) (.tmp 29) 33 rfl w1.heap.size 5 i0 1 Trym.underlying33 hi hz1 w1.heap.size 0 (6 + len2) _ rfl (hown2.alloc _) ⟨w2.heap.size, 0, none⟩ 2 2 [.int .u8 92, .int .u8 117] rfl rfl (by intro t u ht; match t, ht with | 0, ht => simp at ht; subst ht; simp [Addr.add] | 1, ht => simp at ht; subst ht; simp [Addr.add]) (by intro u hu; simp at hu; rcases hu with rfl | rfl <;> rfl) (by omega) ?_; intro w3 hown3 hgrow3))
    have hbw3 : Below w1.heap.size w1 w3 := ((Below.refl _ _).grown hgrow2 (Nat.le_refl _) (fun k h => by cases h)).trans ((Below.alloc (Below.refl _ _) hgrow2.size _).grown hgrow3 (by simp; have := hgrow2.size; omega) (fun k hk => by cases hk; exact Nat.le_refl _))
    clear hgrow2 hgrow3 hown2
    go_loopw [7, 8] (fun s i wr => ∃ k : Nat, k ≤ 4 ∧ i = .int .i64 k ∧ s = .slice (some ⟨w1.heap.size, 0, none⟩) (2 + k) (6 + len2) ∧ wr.ownsRow w1.heap.size 5 1 (.slice (some ⟨w1.heap.size, 0, none⟩) (2 + k) (6 + len2)) (2 + k) ((hexes a0 a1 k).map (Value.int .u8)) ∧ Below w1.heap.size w1 wr)
      (fun _ i _ => 4 - (intOf i).toNat)
    case atStart => exact ⟨0, Nat.zero_le _, rfl, rfl, hown3, hbw3⟩
    case round =>
      obtain ⟨k, hk, rfl, rfl, hown, hnx⟩ := hrel
      clear hown3 hbw3
      by_cases hlt : k < 4
      · have HN := nib_of a0 k b0.1 b0.2
        have HU := upb_of a1 k b1.1 b1.2
        have HX : Hid _ := hexes_succ a0 a1 k
        have hxc : hexc a0 a1 k = if nib a0 k < 10 then 48 + nib a0 k else if upb a1 k then 55 + nib a0 k else 87 + nib a0 k := rfl
        have hbd := nib_bd a0 k
        generalize nib a0 k = n at HN hxc hbd
        generalize upb a1 k = ub at HU hxc
        generalize hexc a0 a1 k = hc at hxc HX
        obtain ⟨hn0, hn1⟩ := hbd
        have HXC : Hid _ := hxc
        clear hxc
        go_wp2_with fail
        refine (digit_any n wr hn0 hn1).mono ?_
        rintro e w' ⟨rfl, rfl⟩
        by_cases hn : n < 10
        · cases ub
          · go_wp2_with (at_builtin; refine wpList_append_fits _ rfl (.tmp 59) (.tmp 61) 33 rfl w1.heap.size 5 i0 1 Trym.underlying33 hi hz1 w1.heap.size (2 + k) (6 + len2) _ rfl (hown.alloc _) ⟨wr.heap.size, 0, none⟩ 1 1 [.int .u8 (48 + n)] rfl rfl (cell_one_new _ _ _) (by intro u hu; simp at hu; rcases hu with rfl; rfl) (by omega) ?_; intro w4 hown4 hgrow4)
            go_roundw
            case rel => exact ⟨k + 1, by omega, by go_num, rfl, own_step hown4 HX.out (by rw [HXC.out]; simp; omega), (hnx.alloc hnx.size _).grown hgrow4 (by simp; have := hnx.size; omega) (fun k hk => by cases hk; exact Nat.le_refl _)⟩
            case measure => simp [intOf]; omega
          · go_wp2_with (at_builtin; refine wpList_append_fits _ rfl (.tmp 59) (.tmp 61) 33 rfl w1.heap.size 5 i0 1 Trym.underlying33 hi hz1 w1.heap.size (2 + k) (6 + len2) _ rfl (hown.alloc _) ⟨wr.heap.size, 0, none⟩ 1 1 [.int .u8 (48 + n)] rfl rfl (cell_one_new _ _ _) (by intro u hu; simp at hu; rcases hu with rfl; rfl) (by omega) ?_; intro w4 hown4 hgrow4)
            go_roundw
            case rel => exact ⟨k + 1, by omega, by go_num, rfl, own_step hown4 HX.out (by rw [HXC.out]; simp; omega), (hnx.alloc hnx.size _).grown hgrow4 (by simp; have := hnx.size; omega) (fun k hk => by cases hk; exact Nat.le_refl _)⟩
            case measure => simp [intOf]; omega
        · cases ub
          · go_wp2_with (at_builtin; refine wpList_append_fits _ rfl (.tmp 59) (.tmp 61) 33 rfl w1.heap.size 5 i0 1 Trym.underlying33 hi hz1 w1.heap.size (2 + k) (6 + len2) _ rfl (hown.alloc _) ⟨wr.heap.size, 0, none⟩ 1 1 [.int .u8 (87 + n)] rfl rfl (cell_one_new _ _ _) (by intro u hu; simp at hu; rcases hu with rfl; rfl) (by omega) ?_; intro w4 hown4 hgrow4)
            go_roundw
            case rel => exact ⟨k + 1, by omega, by go_num, rfl, own_step hown4 HX.out (by rw [HXC.out]; simp; omega), (hnx.alloc hnx.size _).grown hgrow4 (by simp; have := hnx.size; omega) (fun k hk => by cases hk; exact Nat.le_refl _)⟩
            case measure => simp [intOf]; omega
          · go_wp2_with (at_builtin; refine wpList_append_fits _ rfl (.tmp 59) (.tmp 61) 33 rfl w1.heap.size 5 i0 1 Trym.underlying33 hi hz1 w1.heap.size (2 + k) (6 + len2) _ rfl (hown.alloc _) ⟨wr.heap.size, 0, none⟩ 1 1 [.int .u8 (65 + n - 10)] rfl rfl (cell_one_new _ _ _) (by intro u hu; simp at hu; rcases hu with rfl; rfl) (by omega) ?_; intro w4 hown4 hgrow4)
            go_roundw
            case rel => exact ⟨k + 1, by omega, by go_num, rfl, own_step hown4 HX.out (by rw [HXC.out]; simp; omega), (hnx.alloc hnx.size _).grown hgrow4 (by simp; have := hnx.size; omega) (fun k hk => by cases hk; exact Nat.le_refl _)⟩
            case measure => simp [intOf]; omega
      · obtain rfl : k = 4 := by omega
        go_wp2
        go_loopw [7, 11] (fun s i wr => ∃ k : Nat, k ≤ len2 ∧ i = .int .i64 k ∧ s = .slice (some ⟨w1.heap.size, 0, none⟩) (6 + k) (6 + len2) ∧ (∃ zs : List Int, wr.ownsRow w1.heap.size 5 1 (.slice (some ⟨w1.heap.size, 0, none⟩) (6 + k) (6 + len2)) (6 + k) ((hexes a0 a1 4 ++ zs).map (Value.int .u8))) ∧ Below w1.heap.size w1 wr)
          (fun _ i _ => len2 - (intOf i).toNat)
        case atStart => exact ⟨0, Nat.zero_le _, rfl, rfl, ⟨[], by simpa using hown⟩, hnx⟩
        case round =>
          clear hown hnx
          obtain ⟨k, hk, rfl, rfl, ⟨zs, hown⟩, hnx⟩ := hrel
          by_cases hlt : k < len2
          · obtain ⟨g, rfl, hg, c, hcc⟩ := Hcells.out k hlt
            have hcx := cell_later hnx hcc
            clear hcc
            go_wp2_with (at_builtin; refine wpList_append_fits _ rfl (.tmp 69) (.tmp 74) 33 rfl w1.heap.size 5 i0 1 Trym.underlying33 hi hz1 w1.heap.size (6 + k) (6 + len2) _ rfl (hown.alloc _) ⟨wr.heap.size, 0, none⟩ 1 1 [.int .u8 c] rfl rfl (cell_one_new _ _ _) (by intro u hu; simp at hu; rcases hu with rfl; rfl) (by omega) ?_; intro w4 hown4 hgrow4)
            go_roundw
            case rel => (repeat apply Exists.intro); exact ⟨⟨k + 1, by omega, by go_num, rfl, ⟨zs ++ [c], own_step hown4 (by simp) rfl⟩, (hnx.alloc hnx.size _).grown hgrow4 (by simp; have := hnx.size; omega) (fun k hk => by cases hk; exact Nat.le_refl _)⟩, rfl⟩
            case measure => simp [intOf]; omega
          · obtain rfl : k = len2 := by omega
            have hz := zz_any w1.heap.size (6 + k) (6 + k) wr (by omega) (Nat.le_refl _) (by unfold maxLen; omega) (hexc a0 a1) (nib a0) (hex_of a0 a1)
              (hown.cellAt 0 (by omega)) (hown.cellAt 1 (by omega)) (fun j hj => (hown.cellAt (2 + j) (by omega)).trans (by
                match j, hj with
                | 0, _ => rfl
                | 1, _ => rfl
                | 2, _ => rfl
                | 3, _ => rfl))
            rw [val_nib a0 b0.1 b0.2] at hz
            have HB : Hid _ := hb1.trans (hnx.mono hb1.size)
            clear hown hnx Hcells hb1
            go_wp2_with (go_at_call 23; refine hz.mono ?_; rintro e w' ⟨rfl, rfl⟩)
            go_ret
            exact ⟨rfl, HB.out⟩
  · go_enter Trym.func7, Trym.ntmps7
    go_wp2_with (go_at_call 27; refine (bytes_any _ _ _ _ _ _ hlm).mono ?_; rintro e w' ⟨rfl, rfl⟩)
    go_ret
    exact ⟨rfl, Below.refl _ _⟩
end Go.Proofs.Qxb6601046aMods.esc
