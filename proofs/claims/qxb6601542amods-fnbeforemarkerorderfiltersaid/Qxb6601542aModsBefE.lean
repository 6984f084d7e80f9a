import Derived.Test.Qxb6601542aModsBefD
set_option linter.unusedVariables false
namespace Go.Proofs.Qxb6601542aMods.bef
open Go.RowKit
attribute [local go_sem ↓] Go.wp_at_zero Go.wp_at_succ

theorem Kept.alloc {w : World} {B gk : Nat} {ts : List Txn} (h : Kept w B gk ts) (o : Obj) : Kept (w.alloc o) B gk ts := by
  obtain ⟨v, u, h1, h2, h3, h4⟩ := h
  exact ⟨v, u, (Below.heap_alloc w o gk (blk_lt h1)).trans h1, h2.alloc o, h3.alloc o, h4⟩
theorem take_snoc (T : List Txn) (k : Nat) (h : k < T.length) : T.take k ++ [T.getD k t0] = T.take (k + 1) := by
  rw [List.take_succ_eq_append_getElem h]
  simp [List.getD, h]

/-- What 'before' keeps: the first k. -/
structure Cut (T : List Txn) (o : Int) (l k : Nat) : Prop where
  le : k ≤ l
  lo : ∀ j, j < k → (T.getD j t0).l < o
  hi : k < l → o ≤ (T.getD k t0).l

def Got (B : Nat) (T : List Txn) (o : Int) (l : Nat) (w w' : World) (v u : Value) : Prop :=
  ∃ k, Cut T o l k ∧ w'.ownsRow B 35 3 v k (tcs (T.take k)) ∧ w'.ownsRow B 2 1 u k ((sm (T.take k)).map (Value.int .i64)) ∧ (k = 0 → v = .slice none 0 0 ∧ u = .slice none 0 0)

theorem own_base {w : World} {B B' e size n : Nat} {v : Value} {xs : List Value} (h : w.ownsRow B e size v n xs) (hB : B' ≤ B) : w.ownsRow B' e size v n xs := by
  refine ⟨h.1, ?_⟩
  rcases h.2 with h | ⟨g, cap, cur, hv, hb, r⟩
  · exact .inl h
  · exact .inr ⟨g, cap, cur, hv, Nat.le_trans hB hb, r⟩
theorem own_slice {w : World} {B e size n : Nat} {v : Value} {xs : List Value} (h : w.ownsRow B e size v n xs) : ∃ a c, v = .slice a n c := by
  rcases h.2 with ⟨rfl, rfl⟩ | ⟨g, cap, cur, hv, _⟩
  · exact ⟨none, 0, rfl⟩
  · exact ⟨_, _, hv⟩
def Z43 : Obj := .cells #[.slice none 0 0, .slice none 0 0] 43
def W0 (w : World) : World := (w.alloc Z43).alloc Z43
theorem W0_size (w : World) : (W0 w).heap.size = w.heap.size + 2 := by simp [W0]
theorem W0_a (w : World) : (W0 w).heap[w.heap.size]? = some Z43 := (Below.heap_alloc (w.alloc Z43) Z43 w.heap.size (by simp)).trans (heap_alloc_new w Z43)
theorem W0_b (w : World) : (W0 w).heap[w.heap.size + 1]? = some Z43 := by
  have := heap_alloc_new (w.alloc Z43) Z43
  rwa [show (w.alloc Z43).heap.size = w.heap.size + 1 by simp] at this
theorem W0_below (w : World) : Below w.heap.size w (W0 w) := ((Below.refl _ _).alloc (Nat.le_refl _) _).alloc (by simp) _
theorem W0_kept (w : World) : Kept (W0 w) (w.heap.size + 2) (w.heap.size + 1) [] := ⟨_, _, W0_b w, World.ownsRow_nil _ _ _ _, World.ownsRow_nil _ _ _ _, fun _ => ⟨rfl, rfl⟩⟩
theorem Got.alloc {B l : Nat} {T : List Txn} {o : Int} {w w' : World} {v u : Value} (h : Got B T o l w w' v u) (ob : Obj) : Got B T o l w (w'.alloc ob) v u := by
  obtain ⟨k, a, b, c, d⟩ := h
  exact ⟨k, a, b.alloc ob, c.alloc ob, d⟩
theorem bef_end {w wz : World} {T : List Txn} {o : Int} {l k : Nat} {v u : Value} (hT : T.length = l) (h2 : wz.ownsRow (w.heap.size + 2) 35 3 v k (tcs (T.take k))) (h3 : wz.ownsRow (w.heap.size + 2) 2 1 u k ((sm (T.take k)).map (Value.int .i64)))
    (h4 : T.take k = [] → v = .slice none 0 0 ∧ u = .slice none 0 0) (hf : Fr (w.heap.size + 2) (w.heap.size + 1) (W0 w) wz) (hcut : Cut T o l k) :
    Got w.heap.size T o l w ((wz.setCell ⟨w.heap.size, 0, none⟩ v).setCell ⟨w.heap.size, 1, none⟩ u) v u ∧ Below w.heap.size w ((wz.setCell ⟨w.heap.size, 0, none⟩ v).setCell ⟨w.heap.size, 1, none⟩ u) := by
  have hne : ∀ {e s n : Nat} {x : Value} {xs : List Value}, wz.ownsRow (w.heap.size + 2) e s x n xs → ((wz.setCell ⟨w.heap.size, 0, none⟩ v).setCell ⟨w.heap.size, 1, none⟩ u).ownsRow w.heap.size e s x n xs := by
    intro e s n x xs h
    have hx : x.ownBlock ≠ some w.heap.size := fun c => by have := (h.lt _ c).1; omega
    exact own_base ((h.kept (grown_setCell wz w.heap.size 0 v) (.inr hx)).kept (grown_setCell _ w.heap.size 1 u) (.inr hx)) (by omega)
  refine ⟨⟨k, hcut, hne h2, hne h3, fun h => h4 (by rw [h]; rfl)⟩, ?_⟩
  exact (((W0_below w).trans (hf.below (by omega) (by omega))).setCell (by simp) v).setCell (by simp) u

set_option maxHeartbeats 2000000 in
set_option maxRecDepth 100000 in
theorem before_any (ga : Nat) (ao : Option Addr) (l g : Nat) (T : List Txn) (o : Int) (w : World) (hl : l ≤ 32768) (hc : w.cell? ⟨ga, 0, none⟩ = some (.slice ao l l)) (hv : TView w ao l g 0 T) :
    Calls Trym.prog 21 #[.pointer (some ⟨ga, 0, none⟩), .int .i64 o] w fun e w' => ∃ v u, e = .returned (.agg #[v, u]) ∧ Got w.heap.size T o l w w' v u ∧ Below w.heap.size w w' := by
  have HV : Hid (TView w ao l g 0 T) := hv
  have hga : ga < w.heap.size := World.block_lt_of_cell? _ _ hc
  clear hv
  go_enter Trym.func21, Trym.ntmps21
  go_wp2
  go_loopw [13] (fun i wr => ∃ k : Nat, k ≤ l ∧ i = .int .i64 k ∧ Hid (Kept wr (w.heap.size + 2) (w.heap.size + 1) (T.take k)) ∧ Hid (∀ j, j < k → (T.getD j t0).l < o) ∧ Hid (Fr (w.heap.size + 2) (w.heap.size + 1) (W0 w) wr)) (fun i _ => l - (intOf i).toNat)
  case atStart => exact ⟨0, Nat.zero_le _, rfl, W0_kept w, fun j h => by omega, Fr.refl _ _ _⟩
  case round =>
    obtain ⟨k, hk, rfl, hkp, hlo, hfr⟩ := hrel
    have HB : Hid (Below w.heap.size w wr) := (W0_below w).trans (hfr.out.below (by omega) (by omega))
    have hsz : w.heap.size + 2 ≤ wr.heap.size := by have := hfr.out.size; rw [W0_size] at this; exact this
    obtain ⟨v, u, h1, h2, h3, h4⟩ := hkp.out
    have hlen : (T.take k).length = k := by have := HV.out.1; simp; omega
    rw [hlen] at h2 h3
    obtain ⟨va, vc, rfl⟩ := own_slice h2
    obtain ⟨ua, uc, rfl⟩ := own_slice h3
    have k0 : wr.cell? ⟨w.heap.size + 1, 0, none⟩ = some (.slice va k vc) := blk_cell h1 rfl
    have k1 : wr.cell? ⟨w.heap.size + 1, 1, none⟩ = some (.slice ua k uc) := blk_cell h1 rfl
    have hr : wr.heap[w.heap.size]? = some (.cells #[.slice none 0 0, .slice none 0 0] 43 (0, 0)) := (hfr.out.block w.heap.size (by omega) (by omega)).trans (W0_a w)
    have r0 : wr.cell? ⟨w.heap.size, 0, none⟩ = some (.slice none 0 0) := blk_cell hr rfl
    have r1 : wr.cell? ⟨w.heap.size, 1, none⟩ = some (.slice none 0 0) := blk_cell hr rfl
    have rf0 : wr.frozen? ⟨w.heap.size, 0, none⟩ = false := blk_free hr
    have rf1 : wr.frozen? ⟨w.heap.size, 1, none⟩ = false := blk_free hr
    have H2 : Hid (wr.ownsRow (w.heap.size + 2) 35 3 (.slice va k vc) k (tcs (T.take k))) := h2
    have H3 : Hid (wr.ownsRow (w.heap.size + 2) 2 1 (.slice ua k uc) k ((sm (T.take k)).map (Value.int .i64))) := h3
    have H4 : Hid (T.take k = [] → (Value.slice va k vc) = .slice none 0 0 ∧ (Value.slice ua k uc) = .slice none 0 0) := h4
    have hs1 : w.heap.size < wr.heap.size := by omega
    have hs2 : w.heap.size + 1 < wr.heap.size := by omega
    clear h1 h2 h3 h4 hr hlen
    by_cases hlt : k < l
    · obtain rfl := HV.out.2.1 (by omega)
      have m0 : wr.cell? ⟨g, k * 3, none⟩ = some (.int .i64 (T.getD k t0).p) := by have := cell_later HB.out (HV.out.2.2 k hlt 0 (by omega)); simpa using this
      have m1 : wr.cell? ⟨g, k * 3 + 1, none⟩ = some (.int .i64 (T.getD k t0).f) := by have := cell_later HB.out (HV.out.2.2 k hlt 1 (by omega)); simpa using this
      have m2 : wr.cell? ⟨g, k * 3 + 2, none⟩ = some (.int .i64 (T.getD k t0).l) := by have := cell_later HB.out (HV.out.2.2 k hlt 2 (by omega)); simpa using this
      have HTK : Hid (T.take k ++ [T.getD k t0] = T.take (k + 1)) := take_snoc T k (by rw [HV.out.1]; exact hlt)
      have hgl : g < wr.heap.size := World.block_lt_of_cell? _ _ m0
      have HCU : Hid (o ≤ (T.getD k t0).l → Cut T o l k) := fun h => ⟨hk, hlo.out, fun _ => h⟩
      have HLO : Hid ((T.getD k t0).l < o → ∀ j, j < k + 1 → (T.getD j t0).l < o) := fun h j hj => by
        by_cases e : j = k
        · subst e; exact h
        · exact hlo.out j (by omega)
      generalize T.getD k t0 = x at m0 m1 m2 HTK HCU HLO
      by_cases hx : o ≤ x.l
      · have HE : Hid _ := bef_end HV.out.1 H2.out H3.out H4.out hfr.out (HCU.out hx)
        go_wp2_with fail
        exact bodyPost_ret (v := .agg #[.slice va k vc, .slice ua k uc]) (by simp [results, Trym.results21, go_sem, hs1, r0, r1]) rfl ⟨_, _, rfl, Got.alloc HE.out.1 _, HE.out.2.alloc (by have := HE.out.2.size; exact this) _⟩
      · have hx' : x.l < o := by omega
        have HAD := add_any (w.heap.size + 2) (w.heap.size + 1) (T.take k) x (wr.alloc (.cells #[.int .i64 x.p, .int .i64 x.f, .int .i64 x.l] 35)) (by simp; omega) (by have := List.length_take_le k T; omega) (Kept.alloc hkp.out _)
        have HFA : Hid _ := hfr.out.alloc hsz (.cells #[.int .i64 x.p, .int .i64 x.f, .int .i64 x.l] 35)
        clear hx
        go_wp2_with (go_at_call 22; refine HAD.mono ?_; rintro e w' ⟨rfl, hkp', hfr'⟩)
        have HK' : Hid (Kept w' (w.heap.size + 2) (w.heap.size + 1) (T.take (k + 1))) := by rw [HTK.out] at hkp'; exact hkp'
        have HF' : Hid (Fr (w.heap.size + 2) (w.heap.size + 1) (W0 w) w') := HFA.out.trans hfr'
        go_roundw
        case rel => exact ⟨k + 1, by omega, by go_num, HK', HLO.out hx', HF'⟩
        case measure => simp [intOf]; omega
    · obtain rfl : k = l := by omega
      have HE : Hid _ := bef_end HV.out.1 H2.out H3.out H4.out hfr.out ⟨Nat.le_refl k, hlo.out, fun h => by omega⟩
      go_wp2_with fail
      exact bodyPost_ret (v := .agg #[.slice va k vc, .slice ua k uc]) (by simp [results, Trym.results21, go_sem, r0, r1]) rfl ⟨_, _, rfl, HE.out.1, HE.out.2⟩
end Go.Proofs.Qxb6601542aMods.bef
