import Derived.Test.Qxb6601542aModsBefC
import Derived.Deep.DeepCutAuto
set_option linter.unusedVariables false
namespace Go.Proofs.Qxb6601542aMods.bef
open Go.RowKit
attribute [local go_sem ↓] Go.wp_at_zero Go.wp_at_succ

/-- THE STRUCT IN BLOCK gk HOLDS THE TRANSACTIONS ts AND THEIR MINIMA. -/
def Kept (w : World) (B gk : Nat) (ts : List Txn) : Prop := ∃ v u, w.heap[gk]? = some (.cells #[v, u] 43 (0, 0)) ∧ w.ownsRow B 35 3 v ts.length (tcs ts) ∧ w.ownsRow B 2 1 u ts.length ((sm ts).map (Value.int .i64)) ∧
  (ts = [] → v = .slice none 0 0 ∧ u = .slice none 0 0)

theorem news3 (w : World) (a b c : Value) (t : TypeId) : ∀ j u, [a, b, c][j]? = some u → (w.alloc (.cells #[a, b, c] t)).drew.cell? ((⟨w.heap.size, 0, none⟩ : Addr).add j) = some u :=
  World.news_of_block (w := (w.alloc (.cells #[a, b, c] t)).drew) (cs := #[a, b, c]) (t := t) (fr := (0, 0)) (heap_alloc_new w _)
theorem news1 (w : World) (a : Value) (t : TypeId) : ∀ j u, [a][j]? = some u → (w.alloc (.cells #[a] t)).drew.cell? ((⟨w.heap.size, 0, none⟩ : Addr).add j) = some u :=
  World.news_of_block (w := (w.alloc (.cells #[a] t)).drew) (cs := #[a]) (t := t) (fr := (0, 0)) (heap_alloc_new w _)
theorem tc_one (t : Txn) : ∀ u ∈ tc t, u.oneCell' = true := by
  intro u hu
  simp [tc] at hu
  rcases hu with rfl | rfl | rfl <;> rfl

theorem gk_after {wA w1 : World} {o : Obj} {B gk e s n : Nat} {cs : Array Value} {v : Value} {xs : List Value} (hk : wA.heap[gk]? = some (.cells cs 43 (0, 0))) (hv : wA.ownsRow B e s v n xs) (h1 : e ≠ 43) (hg : (wA.alloc o).drew.grownBy w1 v.ownBlock) : w1.heap[gk]? = some (.cells cs 43 (0, 0)) := by
  have hkA : (wA.alloc o).drew.heap[gk]? = some (.cells cs 43 (0, 0)) := (Below.heap_alloc wA o gk (blk_lt hk)).trans hk
  exact (hg.block gk (blk_lt hkA) (fun c => blk_ne hv hk h1 c.symm)).trans hkA

/-- Behind the first statement of 'add'. -/
def Mid1 (B gk n : Nat) (ts : List Txn) (t : Txn) (u : Value) (w wx : World) : Prop := ∃ v1, wx.heap[gk]? = some (.cells #[v1, u] 43 (0, 0)) ∧ wx.ownsRow B 35 3 v1 (n + 1) (tcs (ts ++ [t])) ∧
  wx.ownsRow B 2 1 u n ((sm ts).map (Value.int .i64)) ∧ wx.heap[w.heap.size]? = some (.cells #[.int .i64 t.p, .int .i64 t.f, .int .i64 t.l] 35 (0, 0)) ∧ Fr B gk w wx

/-- While 'add' works backward over the minima: k still to be looked at. -/
def Mid2 (B gk n : Nat) (ts : List Txn) (t : Txn) (k : Nat) (w wx : World) : Prop := ∃ v1 gu capu, wx.heap[gk]? = some (.cells #[v1, .slice (some ⟨gu, 0, none⟩) (n + 1) capu] 43 (0, 0)) ∧ wx.ownsRow B 35 3 v1 (n + 1) (tcs (ts ++ [t])) ∧
  wx.ownsRow B 2 1 (.slice (some ⟨gu, 0, none⟩) (n + 1) capu) (n + 1) ((ffs (sm ts) t.f k).map (Value.int .i64)) ∧ wx.heap[w.heap.size]? = some (.cells #[.int .i64 t.p, .int .i64 t.f, .int .i64 t.l] 35 (0, 0)) ∧ Fr B gk w wx

theorem mid2_end {B gk n k : Nat} {ts : List Txn} {t : Txn} {w wx : World} (h : Mid2 B gk n ts t k w wx) (hn : ts.length = n) (hk : k ≤ n) (hm : 0 < k → (sm ts).getD (k - 1) 0 ≤ t.f) : Kept wx B gk (ts ++ [t]) ∧ Fr B gk w wx := by
  obtain ⟨v1, gu, capu, h1, h2, h3, _, h5⟩ := h
  rw [add_law ts t k (by omega) hm] at h3
  have e : (ts ++ [t]).length = n + 1 := by simp [hn]
  exact ⟨⟨_, _, h1, by rw [e]; exact h2, by rw [e]; exact h3, fun h => by simp at h⟩, h5⟩
theorem mid2_step {B gk n k gu capu : Nat} {ts : List Txn} {t : Txn} {w wx : World} {v1 : Value} (hn : ts.length = n) (h0 : 0 < k) (hk : k ≤ n) (hm : t.f < (sm ts).getD (k - 1) 0)
    (h1 : wx.heap[gk]? = some (.cells #[v1, .slice (some ⟨gu, 0, none⟩) (n + 1) capu] 43 (0, 0))) (h2 : wx.ownsRow B 35 3 v1 (n + 1) (tcs (ts ++ [t]))) (h3 : wx.ownsRow B 2 1 (.slice (some ⟨gu, 0, none⟩) (n + 1) capu) (n + 1) ((ffs (sm ts) t.f k).map (Value.int .i64)))
    (h4 : wx.heap[w.heap.size]? = some (.cells #[.int .i64 t.p, .int .i64 t.f, .int .i64 t.l] 35 (0, 0))) (h5 : Fr B gk w wx) : Mid2 B gk n ts t (k - 1) w (wx.setCell ⟨gu, k - 1, none⟩ (.int .i64 t.f)) := by
  have hgk : gk ≠ gu := fun e => blk_ne h3 h1 (by decide) (by rw [e]; rfl)
  have hgx : w.heap.size ≠ gu := fun e => blk_ne h3 h4 (by decide) (by rw [e]; rfl)
  have hst := h3.stored (k - 1) (.int .i64 t.f)
  rw [← List.map_set, ffs_step (sm ts) t.f k h0 (by rw [sm_len]; omega) hm] at hst
  refine ⟨v1, gu, capu, ?_, h2.kept hst.2 (own_apart h2 h3 (by decide)), hst.1, ?_, h5.setCell (.inr (h3.lt gu rfl).1) _⟩
  · rw [heap_setCell_other wx ⟨gu, k - 1, none⟩ gk _ hgk]; exact h1
  · rw [heap_setCell_other wx ⟨gu, k - 1, none⟩ w.heap.size _ hgx]; exact h4

theorem own_heap {w w' : World} {B e s n : Nat} {v : Value} {xs : List Value} (h : w.ownsRow B e s v n xs) (hh : w'.heap = w.heap) : w'.ownsRow B e s v n xs := by
  unfold World.ownsRow at h ⊢
  rw [hh]
  exact h
theorem Mid2.alike {B gk n k : Nat} {ts : List Txn} {t : Txn} {w wx wy : World} (h : Mid2 B gk n ts t k w wx) (hh : wy.heap = wx.heap) (h1 : wy.os = wx.os) (h2 : wy.tape = wx.tape) (h3 : wy.output = wx.output) : Mid2 B gk n ts t k w wy := by
  obtain ⟨v1, gu, capu, a, b, c, d, e⟩ := h
  exact ⟨v1, gu, capu, by rw [hh]; exact a, own_heap b hh, own_heap c hh, by rw [hh]; exact d, ⟨h1.trans e.os, h2.trans e.tape, h3.trans e.output, by rw [hh]; exact e.size, fun b hb hn => by rw [hh]; exact e.block b hb hn⟩⟩

set_option maxHeartbeats 2000000 in
set_option maxRecDepth 100000 in
theorem add_any (B gk : Nat) (ts : List Txn) (t : Txn) (w : World) (hB : B ≤ w.heap.size) (hn : ts.length ≤ 32768) (hk : Kept w B gk ts) :
    Calls Trym.prog 22 #[.pointer (some ⟨gk, 0, none⟩), .agg #[.int .i64 t.p, .int .i64 t.f, .int .i64 t.l]] w fun e w' => e = .returned (.tuple #[]) ∧ Kept w' B gk (ts ++ [t]) ∧ Fr B gk w w' := by
  obtain ⟨i0, hi, hz0, hz1, hz2⟩ := info_parts info35
  obtain ⟨j0, hj, hy0, hy1, hy2⟩ := info_parts info2
  obtain ⟨v, u, hblk, hov, hou, _⟩ := hk
  obtain ⟨n, hnd⟩ : ∃ n, ts.length = n := ⟨_, rfl⟩
  have HN : Hid (ts.length = n) := hnd
  rw [hnd] at hov hou hn
  clear hnd
  obtain ⟨wA, hwA⟩ : ∃ wA, wA = w.alloc (.cells #[.int .i64 t.p, .int .i64 t.f, .int .i64 t.l] 35) := ⟨_, rfl⟩
  have HWA : Hid (wA = w.alloc (.cells #[.int .i64 t.p, .int .i64 t.f, .int .i64 t.l] 35)) := hwA
  have sA : wA.heap.size = w.heap.size + 1 := by rw [hwA]; simp
  have kA : wA.heap[gk]? = some (.cells #[v, u] 43 (0, 0)) := by rw [hwA]; exact (Below.heap_alloc w _ gk (blk_lt hblk)).trans hblk
  have vA : wA.ownsRow B 35 3 v n (tcs ts) := by rw [hwA]; exact hov.alloc _
  have uA : wA.ownsRow B 2 1 u n ((sm ts).map (Value.int .i64)) := by rw [hwA]; exact hou.alloc _
  have bA : wA.heap[w.heap.size]? = some (.cells #[.int .i64 t.p, .int .i64 t.f, .int .i64 t.l] 35 (0, 0)) := by rw [hwA]; exact heap_alloc_new w _
  have fA : Fr B gk w wA := by rw [hwA]; exact (Fr.refl _ _ _).alloc hB _
  have hvb : v.ownBlock ≠ some w.heap.size := fun c => by have := (hov.lt _ c).2; omega
  have hub : u.ownBlock ≠ some w.heap.size := fun c => by have := (hou.lt _ c).2; omega
  have hbk : w.heap.size ≠ gk := by have := blk_lt hblk; omega
  go_enter Trym.func22, Trym.ntmps22
  go_wp2
  rw [← hwA]
  have HKA : Hid (wA.heap[gk]? = some (.cells #[v, u] 43 (0, 0))) := kA
  have HVA : Hid (wA.ownsRow B 35 3 v n (tcs ts)) := vA
  have HUA : Hid (wA.ownsRow B 2 1 u n ((sm ts).map (Value.int .i64))) := uA
  have HBA : Hid (wA.heap[w.heap.size]? = some (.cells #[.int .i64 t.p, .int .i64 t.f, .int .i64 t.l] 35 (0, 0))) := bA
  have HFA : Hid (Fr B gk w wA) := fA
  have k0 : wA.cell? ⟨gk, 0, none⟩ = some v := blk_cell kA rfl
  have kf : wA.frozen? ⟨gk, 0, none⟩ = false := blk_free kA
  have x0 : wA.cell? ⟨w.heap.size, 0, none⟩ = some (.int .i64 t.p) := blk_cell bA rfl
  have x1 : wA.cell? ⟨w.heap.size, 1, none⟩ = some (.int .i64 t.f) := blk_cell bA rfl
  have x2 : wA.cell? ⟨w.heap.size, 2, none⟩ = some (.int .i64 t.l) := blk_cell bA rfl
  have SA : Hid (wA.heap.size = w.heap.size + 1) := sA
  have hBA : B ≤ wA.heap.size := by omega
  have hgA : gk < wA.heap.size := blk_lt kA
  have hxA : w.heap.size < wA.heap.size := by omega
  clear hblk hov hou hwA HWA kA vA uA bA fA sA
  go_cut [3] (fun s wx => s = .pointer (some ⟨w.heap.size, 0, none⟩) ∧ Mid1 B gk n ts t u w wx)
  case first =>
    go_region_law ((refine step_append_lies _ (by rfl) (.tmp 9) (.tmp 11) 29 (by rfl) B 35 i0 ztx 3 24 Trym.underlying29 hi hz0 hz1 hz2 (by rfl) (by decide) v n (tcs ts) (by rfl) (by exact (HVA.out.alloc _).drew) ⟨wA.heap.size, 0, none⟩ 1 1 (tc t) (by rfl) (by rfl) (by exact news3 _ _ _ _ _) (tc_one t) (by omega) (by unfold maxLen; omega) (by omega) (by simp; omega) _ rfl ?_; intro g1 cap1 w1 hown1 hgrow1 hat1 hlt1; have y0 : w1.cell? ⟨gk, 0, none⟩ = some v := blk_cell (gk_after HKA.out HVA.out (by decide) hgrow1) rfl; have yf : w1.frozen? ⟨gk, 0, none⟩ = false := blk_free (gk_after HKA.out HVA.out (by decide) hgrow1)))
    all_goals
      have HF : Hid (Mid1 B gk n ts t u w (w1.setCell ⟨gk, 0, none⟩ (.slice (some ⟨g1, 0, none⟩) (n + 1) cap1))) := by
        have := field_step (j := 0) HKA.out HVA.out HUA.out HBA.out hvb hbk (by decide) (by decide) (by decide) hBA hgrow1 hown1 HFA.out
        refine ⟨_, this.1, ?_, this.2.2.1, this.2.2.2.1, this.2.2.2.2⟩
        have h2 := this.2.1
        rw [tcs_app]
        exact h2
      clear hown1 hgrow1 y0 yf
      go_wp2
      go_meet
      case rel => exact ⟨rfl, HF.out⟩
  case rest =>
    obtain ⟨rfl, hmid⟩ := hcut
    obtain ⟨v1, kB, vB, uB, bB, fB⟩ := hmid
    have HKB : Hid (wc.heap[gk]? = some (.cells #[v1, u] 43 (0, 0))) := kB
    have HVB : Hid (wc.ownsRow B 35 3 v1 (n + 1) (tcs (ts ++ [t]))) := vB
    have HUB : Hid (wc.ownsRow B 2 1 u n ((sm ts).map (Value.int .i64))) := uB
    have HBB : Hid (wc.heap[w.heap.size]? = some (.cells #[.int .i64 t.p, .int .i64 t.f, .int .i64 t.l] 35 (0, 0))) := bB
    have HFB : Hid (Fr B gk w wc) := fB
    have l0 : wc.cell? ⟨gk, 1, none⟩ = some u := blk_cell kB rfl
    have lf : wc.frozen? ⟨gk, 1, none⟩ = false := blk_free kB
    have z1 : wc.cell? ⟨w.heap.size, 1, none⟩ = some (.int .i64 t.f) := blk_cell bB rfl
    have hgB : gk < wc.heap.size := blk_lt kB
    have hxB : w.heap.size < wc.heap.size := blk_lt bB
    have hBB : B ≤ wc.heap.size := Nat.le_trans hB fB.size
    clear kB vB uB bB fB k0 kf x0 x1 x2 hgA hxA hBA
    go_wp2
    go_cut [3] (fun s wx => s = .pointer (some ⟨w.heap.size, 0, none⟩) ∧ Mid2 B gk n ts t n w wx)
    case first =>
      go_region_law ((refine step_append_lies _ (by rfl) (.tmp 19) (.tmp 22) 25 (by rfl) B 2 j0 (.int .i64 0) 1 8 Trym.underlying25 hj hy0 hy1 hy2 (by rfl) (by decide) u n ((sm ts).map (Value.int .i64)) (by rfl) (by exact (HUB.out.alloc _).drew) ⟨wc.heap.size, 0, none⟩ 1 1 [.int .i64 t.f] (by rfl) (by rfl) (by exact news1 _ _ _) (by intro u hu; simp at hu; subst hu; rfl) (by omega) (by unfold maxLen; omega) (by omega) (by simp; omega) _ rfl ?_; intro g1 cap1 w1 hown1 hgrow1 hat1 hlt1; have y0 : w1.cell? ⟨gk, 1, none⟩ = some u := blk_cell (gk_after HKB.out HUB.out (by decide) hgrow1) rfl; have yf : w1.frozen? ⟨gk, 1, none⟩ = false := blk_free (gk_after HKB.out HUB.out (by decide) hgrow1)))
      all_goals
        have HF : Hid (Mid2 B gk n ts t n w (w1.setCell ⟨gk, 1, none⟩ (.slice (some ⟨g1, 0, none⟩) (n + 1) cap1))) := by
          have := field_step (j := 1) HKB.out HUB.out HVB.out HBB.out hub hbk (by decide) (by decide) (by decide) hBB hgrow1 hown1 HFB.out
          refine ⟨_, _, _, this.1, this.2.2.1, ?_, this.2.2.2.1, this.2.2.2.2⟩
          have h2 := this.2.1
          rw [← HN.out, ← sm_len ts, ffs_start, List.map_append]
          rw [sm_len ts, HN.out]
          exact h2
        clear hown1 hgrow1 y0 yf
        go_wp2
        go_meet
        case rel => exact ⟨rfl, HF.out⟩
    case rest =>
      clear l0 lf z1 HKB HVB HUB HBB HFB hgB hxB hBB
      obtain ⟨rfl, hmid⟩ := hcut
      have HMID : Hid _ := hmid
      obtain ⟨v1, gu, capu, kC, vC, uC, bC, fC⟩ := hmid
      have l0 : wc.cell? ⟨gk, 1, none⟩ = some (.slice (some ⟨gu, 0, none⟩) (n + 1) capu) := blk_cell kC rfl
      clear kC vC uC bC fC
      go_wp2
      go_loopw [4] (fun a wr => ∃ k : Nat, k ≤ n ∧ a = .int .i64 ((k : Int) - 1) ∧ Hid (Mid2 B gk n ts t k w wr)) (fun a _ => (intOf a + 1).toNat)
      case atStart => exact ⟨n, Nat.le_refl _, by go_num, HMID⟩
      case round =>
        clear l0
        obtain ⟨k, hk, rfl, hmd⟩ := hrel
        obtain ⟨v1, gu, capu, kC, vC, uC, bC, fC⟩ := hmd.out
        rcases Nat.eq_zero_or_pos k with h0 | h0
        · have HE : Hid _ := mid2_end hmd.out HN.out hk (fun h => by omega)
          clear kC vC uC bC fC
          subst h0
          go_wp2_with fail
          go_quiet (fail)
          go_wp2
          go_end0
          exact ⟨rfl, HE.out.1, HE.out.2.drewN _⟩
        · have l0 : wr.cell? ⟨gk, 1, none⟩ = some (.slice (some ⟨gu, 0, none⟩) (n + 1) capu) := blk_cell kC rfl
          have z1 : wr.cell? ⟨w.heap.size, 1, none⟩ = some (.int .i64 t.f) := blk_cell bC rfl
          have c0 : wr.cell? ⟨gu, k - 1, none⟩ = some (.int .i64 ((sm ts).getD (k - 1) 0)) := by
            have hl := ffs_len (sm ts) t.f k (by rw [sm_len, HN.out]; exact hk)
            rw [sm_len, HN.out] at hl
            rw [uC.cellAt (k - 1) (by omega), List.getElem?_map, ← ffs_get (sm ts) t.f k h0 (by rw [sm_len, HN.out]; exact hk)]
            simp [List.getD, show k - 1 < (ffs (sm ts) t.f k).length by omega]
          have cf := uC.frozenAt (k - 1)
          have q1 : (0 : Int) ≤ (k : Int) - 1 := by omega
          have q2 : (k : Int) - 1 < (n : Int) + 1 := by omega
          have q3 : ((k : Int) - 1).toNat = k - 1 := by omega
          have q4 : (1 : Int) ≤ (k : Int) := by omega
          by_cases hm : t.f < (sm ts).getD (k - 1) 0
          · have HE : Hid _ := mid2_step HN.out h0 hk hm kC vC uC bC fC
            have n1 : ¬ gk = gu := fun e => blk_ne uC kC (by decide) (by rw [e]; rfl)
            have n2 : ¬ w.heap.size = gu := fun e => blk_ne uC bC (by decide) (by rw [e]; rfl)
            have n3 : ¬ gu = gk := fun e => n1 e.symm
            have n4 : ¬ gu = w.heap.size := fun e => n2 e.symm
            generalize (sm ts).getD (k - 1) 0 = m at c0 hm
            clear kC vC uC bC fC
            go_wp2_with fail
            go_quiet (fail)
            go_wp2
            go_region_held3 (fun wy => wy.cell? ⟨gk, 1, none⟩ = some (.slice (some ⟨gu, 0, none⟩) (n + 1) capu) ∧ wy.cell? ⟨w.heap.size, 1, none⟩ = some (.int .i64 t.f)) (go_keep) (fail)
            clear l0 z1 c0 cf
            go_wp2
            go_roundw
            case rel => exact ⟨k - 1, by omega, by go_num, Mid2.alike HE.out rfl rfl rfl rfl⟩
            case measure => simp [intOf]; omega
          · have HE : Hid _ := mid2_end hmd.out HN.out hk (fun _ => by omega)
            have hm' : (sm ts).getD (k - 1) 0 ≤ t.f := by omega
            clear hm
            generalize (sm ts).getD (k - 1) 0 = m at c0 hm'
            clear kC vC uC bC fC
            go_wp2_with fail
            go_quiet (fail)
            go_wp2
            go_end0
            exact ⟨rfl, HE.out.1, HE.out.2.drewN _⟩
end Go.Proofs.Qxb6601542aMods.bef
