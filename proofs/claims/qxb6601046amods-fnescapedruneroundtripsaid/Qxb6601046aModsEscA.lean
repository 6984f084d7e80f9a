import Derived.Test.Qxb6601046aModsRows
import Derived.WalkKit
import Derived.WalkSpells
import Derived.Below
namespace Go.Proofs.Qxb6601046aMods.esc
open Go.RowKit

theorem bytes_any (a0 a1 : Int) (a2 : Option Addr) (len cap : Nat) (w : World) (h : len ≤ maxLen) :
    Calls Trym.prog 27 #[.int .u16 a0, .int .u8 a1, .slice a2 len cap] w fun e w' => e = .returned (.bool (decide (len ≤ 1048576))) ∧ w = w' := by
  unfold maxLen at h
  by_cases hl : len ≤ 1048576
  · go_enter Trym.func27, Trym.ntmps27
    go_wp2
    go_ret
    exact ⟨by simp [hl], rfl⟩
  · go_enter Trym.func27, Trym.ntmps27
    go_wp2
    go_ret
    exact ⟨by simp [hl], rfl⟩

theorem ret_int {k : IntKind} {a b : Int} (h : a = b) : Ending.returned (.int k a) = .returned (.int k b) := by rw [h]

theorem digit_any (d : Int) (w : World) (h0 : 0 ≤ d) (h1 : d < 16) :
    Calls Trym.prog 25 #[.int .i32 d] w fun e w' => e = .returned (.int .u8 (if d < 10 then 48 + d else 87 + d)) ∧ w = w' := by
  by_cases hl : d < 10
  · go_enter Trym.func25, Trym.ntmps25
    go_wp2
    go_ret
    exact ⟨ret_int rfl, rfl⟩
  · go_enter Trym.func25, Trym.ntmps25
    go_wp2
    go_ret
    exact ⟨ret_int (by omega), rfl⟩

theorem info5 : (Trym.prog.info? 5).map (fun i => (i.zero, i.size, i.bytes)) = some (some (.int .u8 0), 1, 1) := by kernel_rfl

/-- A row half filled: the first k numbers of zs, then noughts. -/
def part (zs : List Int) (len k : Nat) : List Int := zs.take k ++ List.replicate (len - k) 0
theorem part_zero (zs : List Int) (len : Nat) : part zs len 0 = List.replicate len 0 := by simp [part]
theorem part_full (zs : List Int) (len : Nat) : part zs len len = zs.take len := by simp [part]
theorem part_set (zs : List Int) (len k : Nat) (h : k < len) (hz : len ≤ zs.length) : (part zs len k).set k (zs.getD k 0) = part zs len (k + 1) := by
  unfold part
  have e1 : (zs.take k).length = k := by simp; omega
  rw [List.set_append_right _ _ (by omega), e1, Nat.sub_self]
  obtain ⟨m, hm⟩ : ∃ m, len - k = m + 1 := ⟨len - k - 1, by omega⟩
  have e2 : len - (k + 1) = m := by omega
  have e3 : zs.getD k 0 = zs[k]'(by omega) := by simp [List.getD, show k < zs.length by omega]
  rw [hm, e2, List.replicate_succ, List.set_cons_zero, e3, List.take_succ_eq_append_getElem (by omega), List.append_assoc]
  rfl

/-- WHAT A CLONE IS: nil of nil; else a row of its own at the first new block. -/
def Cloned (e : TypeId) (k : IntKind) (ao : Option Addr) (len : Nat) (zs : List Int) (w : World) (v : Value) (w' : World) : Prop :=
  (v = .slice none 0 0 ∧ ao = none ∧ w' = w) ∨ (v = .slice (some ⟨w.heap.size, 0, none⟩) len len ∧ w'.ownsRow w.heap.size e 1 v len ((zs.take len).map (Value.int k)))

theorem addr_plain {w : World} {x : Addr} {v : Value} (h : w.cell? (x.add 0) = some v) : ∃ b off, x = ⟨b, off, none⟩ := by
  obtain ⟨b, off, spot⟩ := x
  have hs : spot = none := by simpa [Addr.add] using World.cell?_spot h
  exact ⟨b, off, by rw [hs]⟩

set_option maxHeartbeats 400000 in
theorem clone_any (ao : Option Addr) (len cap : Nat) (zs : List Int) (w : World) (hl : len ≤ cap) (hm : len ≤ 1048576) (hz : zs.length = cap)
    (hc : ∀ x, ao = some x → ∀ i, i < zs.length → w.cell? (x.add i) = some (.int .u8 (zs.getD i 0))) :
    Calls Trym.prog 22 #[.slice ao len cap] w fun e w' => ∃ v, e = .returned v ∧ Cloned 5 .u8 ao len zs w v w' ∧ Below w.heap.size w w' := by
  obtain ⟨i0, hi, hz0, hz1, hz2⟩ := info_parts info5
  have hq : ∀ (w : World) (a : Option Addr) (n c : Nat), (binOp .eql 33 (.slice a n c) (.slice none 0 0)).run Trym.prog w = .ok (.bool a.isNone) w := fun w a n c => Lib.run_eql_slice_nil w 33 _ a n c _ _ Trym.underlying33
  cases ao with
  | none =>
    go_enter Trym.func22, Trym.ntmps22
    go_wp2
    go_ret
    exact ⟨_, rfl, .inl ⟨rfl, rfl, rfl⟩, Below.refl _ _⟩
  | some x =>
    go_enter Trym.func22, Trym.ntmps22
    go_wp2_with (at_make; refine wpList_make_full _ rfl _ _ 33 rfl w.heap.size 5 i0 (.int .u8 0) 1 Trym.underlying33 hi hz0 hz1 _ _ _ _ len rfl rfl rfl rfl ?b2 ?b3 (Nat.le_refl _) ?_)
    case b2 => rw [hz2]; omega
    case b3 => unfold maxLen; omega
    intro w0 hown0 hgrow0
    go_wp2
    go_loopw [4] (fun i wr => ∃ k : Nat, k ≤ len ∧ i = .int .i64 k ∧ wr.ownsRow w.heap.size 5 1 (.slice (some ⟨w.heap.size, 0, none⟩) len len) len ((part zs len k).map (Value.int .u8)) ∧ Below w.heap.size w wr)
      (fun i _ => len - (intOf i).toNat)
    case atStart => exact ⟨0, Nat.zero_le _, rfl, by simpa [part_zero, Value.cells, toList_madeCells_one] using hown0, (Below.refl _ _).grown hgrow0 (Nat.le_refl _) (fun k h => by cases h)⟩
    case round =>
      obtain ⟨k, hk, rfl, hown, hnx⟩ := hrel
      clear hown0 hgrow0
      by_cases hlt : k < len
      · obtain ⟨b, off, rfl⟩ := addr_plain (hc x rfl 0 (by omega))
        have hcx := cell_later hnx (hc _ rfl k (by omega))
        rw [Addr.add_lit] at hcx
        have hce : ∃ c, wr.cell? ⟨w.heap.size, k, none⟩ = some c := by
          refine ⟨_, (hown.cellAt k (by omega)).trans (List.getElem?_eq_getElem (h := ?_))⟩
          have := hown.1
          omega
        obtain ⟨c, hce⟩ := hce
        have hfz := hown.frozenAt k
        have hst := hown.stored k (.int .u8 (zs.getD k 0))
        rw [← List.map_set, part_set zs len k hlt (by omega)] at hst
        obtain ⟨hown', hgrow'⟩ := hst
        have HO : Hid _ := And.intro hown' (hnx.grown hgrow' hnx.size (fun k hk => by cases hk; exact Nat.le_refl _))
        clear hown' hgrow' hc hown
        go_wp2
        go_roundw
        case rel => exact ⟨k + 1, by omega, by go_num, HO.out.1, HO.out.2⟩
        case measure => simp [intOf]; omega
      · have : k = len := by omega
        subst this
        go_wp2
        go_ret
        exact ⟨_, rfl, .inr ⟨rfl, by rw [part_full] at hown; exact hown⟩, hnx⟩
end Go.Proofs.Qxb6601046aMods.esc
