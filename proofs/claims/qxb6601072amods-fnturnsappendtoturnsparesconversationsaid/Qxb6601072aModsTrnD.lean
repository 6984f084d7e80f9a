import Derived.Test.Qxb6601072aModsTrnC
import Derived.Deep.RegionLawGrows
set_option linter.unusedVariables false
namespace Go.Proofs.Qxb6601072aMods.trn
open Go.RowKit

theorem info24 : (Trym.prog.info? 24).map (fun i => (i.zero, i.size, i.bytes)) = some (some (.slice none 0 0), 1, 24) := by kernel_rfl

def toolB (s : ByteArray) : Bool := s.toList == [116, 111, 111, 108]

theorem news_at2 (w : World) (o : Obj) (x : Value) (t : TypeId) : ∀ j u, [x][j]? = some u → ((w.alloc o).alloc (.cells #[x] t)).cell? ((⟨w.heap.size + 1, 0, none⟩ : Addr).add j) = some u := by
  have h := cell_one_new (w.alloc o) x t
  have e : (w.alloc o).heap.size = w.heap.size + 1 := by simp
  rwa [e] at h
theorem sum_app (ls : List Nat) (l : Nat) : (ls ++ [l]).sum = ls.sum + l := by simp
theorem push_step {R C : Nat → ByteArray} {wr w1 : World} {B gm n k : Nat} {ls : List Nat} {vs ys : List Value} {v : Value} {o1 o2 : Obj} (htr : Trns R C wr B gm ls vs) (hown : wr.ownsRow B 24 1 v n ys) (hg : ((wr.alloc o1).alloc o2).grownBy w1 v.ownBlock) (hgm : gm < B) (hk : ls.sum = k) :
    Trns R C w1 B gm (ls ++ [1]) (vs ++ [.slice (some ⟨gm, k * 4, none⟩) 1 1]) := by
  subst hk
  exact (((htr.kept hown (World.grownBy_alloc wr o1 none) (.inl rfl) hgm).kept (hown.alloc _) (World.grownBy_alloc _ o2 none) (.inl rfl) hgm).kept ((hown.alloc _).alloc _) hg (.inr rfl) hgm).push
theorem push_own {w1 : World} {B : Nat} {v' : Value} {ls : List Nat} {xs : List Value} (h : w1.ownsRow B 24 1 v' (ls.length + 1) xs) : w1.ownsRow B 24 1 v' (ls ++ [1]).length xs := by
  simpa using h
theorem push_below {w wr w1 : World} {o1 o2 : Obj} {v : Value} {n : Nat} {ys : List Value} (hnx : Below w.heap.size w wr) (hown : wr.ownsRow w.heap.size 24 1 v n ys) (hg : ((wr.alloc o1).alloc o2).grownBy w1 v.ownBlock) : Below w.heap.size w w1 :=
  ((hnx.alloc hnx.size o1).alloc (by simp; have := hnx.size; omega) o2).grown hg (by simp; have := hnx.size; omega) (fun k hk => (hown.lt k hk).1)

theorem far2 {wr w1 : World} {o1 o2 : Obj} {row : Option Nat} {a : Addr} {v : Value} (h : wr.cell? a = some v) (hg : (((wr.alloc o1).alloc o2).drew).grownBy w1 row) (hne : some a.block ≠ row) : w1.cell? a = some v := by
  have hb : Below wr.heap.size wr ((wr.alloc o1).alloc o2).drew := (((Below.refl _ _).alloc (Nat.le_refl _) o1).alloc (by simp) o2).drew
  exact hg.cell (cell_later hb h) hne
theorem farf2 {wr w1 : World} {o1 o2 : Obj} {row : Option Nat} {a : Addr} (h : wr.frozen? a = false) (hlt : a.block < wr.heap.size) (hg : (((wr.alloc o1).alloc o2).drew).grownBy w1 row) (hne : some a.block ≠ row) : w1.frozen? a = false := by
  have hb : Below wr.heap.size wr ((wr.alloc o1).alloc o2).drew := (((Below.refl _ _).alloc (Nat.le_refl _) o1).alloc (by simp) o2).drew
  rw [hg.frozen_far a (by have := hb.size; omega) hne, hb.frozen hlt]
  exact h
theorem own_base {w : World} {B B' e size n : Nat} {v : Value} {xs : List Value} (h : w.ownsRow B e size v n xs) (hB : B' ≤ B) : w.ownsRow B' e size v n xs := by
  refine ⟨h.1, ?_⟩
  rcases h.2 with h | ⟨g, cap, cur, hv, hb, r⟩
  · exact .inl h
  · exact .inr ⟨g, cap, cur, hv, Nat.le_trans hB hb, r⟩
theorem snoc_of {α : Type} {l : List α} (h : 0 < l.length) : ∃ l' x, l = l' ++ [x] := by
  rcases List.eq_nil_or_concat l with rfl | ⟨l', x, rfl⟩
  · simp at h
  · exact ⟨l', x, by simp⟩
theorem news_at4 (w : World) (o : Obj) (a b c d : Value) (t : TypeId) : ∀ j u, [a, b, c, d][j]? = some u → ((w.alloc o).alloc (.cells #[a, b, c, d] t)).drew.cell? ((⟨w.heap.size + 1, 0, none⟩ : Addr).add j) = some u := by
  have e : (w.alloc o).heap.size = w.heap.size + 1 := by simp
  have h := World.news_of_block (w := ((w.alloc o).alloc (.cells #[a, b, c, d] t)).drew) (B := w.heap.size + 1) (cs := #[a, b, c, d]) (t := t) (fr := (0, 0)) (by rw [← e]; exact heap_alloc_new (w.alloc o) _)
  exact h

theorem mc_one (R C : Nat → ByteArray) (i : Nat) : ∀ u ∈ mc R C i, u.oneCell' = true := by
  intro u hu
  simp [mc] at hu
  rcases hu with rfl | rfl | rfl | rfl <;> rfl
theorem olds_at {R C : Nat → ByteArray} {wr : World} {gm n s : Nat} {o1 o2 : Obj} (hm : Msgs R C wr gm n) (hs : s < n) : ∀ b, some (⟨gm, s * 4, none⟩ : Addr) = some b → ∀ j u, (mc R C s)[j]? = some u → ((wr.alloc o1).alloc o2).drew.cell? (b.add j) = some u := by
  intro b hb j u hu
  obtain rfl := Option.some.inj hb
  have hbl : Below wr.heap.size wr ((wr.alloc o1).alloc o2).drew := (((Below.refl _ _).alloc (Nat.le_refl _) o1).alloc (by simp) o2).drew
  rw [Addr.add_lit]
  refine cell_later hbl ?_
  have hj : j < 4 := by have := (List.getElem?_eq_some_iff.1 hu).1; simpa [mc] using this
  rw [hm s hs j hj, hu]
theorem mcs_two (R C : Nat → ByteArray) (s : Nat) : mcs R C s 2 = mc R C s ++ mc R C (s + 1) := by simp [mcs]
theorem grow_step {R C : Nat → ByteArray} {w wr w1 : World} {o1 o2 : Obj} {B gm l gt capt : Nat} {ls : List Nat} {vs : List Value} {tv v1 : Value} {row : Option Nat}
    (htr : Trns R C wr B gm (ls ++ [l]) (vs ++ [tv])) (hown : wr.ownsRow B 24 1 (.slice (some ⟨gt, 0, none⟩) (ls.length + 1) capt) (ls.length + 1) (vs ++ [tv])) (hgm : gm < B) (hB : B ≤ wr.heap.size) (hnx : Below B w wr)
    (hg : ((wr.alloc o1).alloc o2).drew.grownBy w1 row) (hr : row = none ∨ (row = tv.ownBlock ∧ tv.ownBlock ≠ some gm)) (hrB : ∀ k, row = some k → B ≤ k) (ho : w1.ownsRow B 31 4 v1 (l + 1) (mcs R C ls.sum (l + 1)))
    (hat : (∃ g, v1.ownBlock = some g ∧ ((wr.alloc o1).alloc o2).drew.heap.size ≤ g) ∨ (v1.ownBlock = tv.ownBlock ∧ tv.ownBlock ≠ some gm)) (hne : some gt ≠ row) :
    Trns R C (w1.setCell ⟨gt, ls.length, none⟩ v1) B gm (ls ++ [l + 1]) (vs ++ [v1]) ∧
    (w1.setCell ⟨gt, ls.length, none⟩ v1).ownsRow B 24 1 (.slice (some ⟨gt, 0, none⟩) (ls.length + 1) capt) (ls ++ [l + 1]).length (vs ++ [v1]) ∧ Below B w (w1.setCell ⟨gt, ls.length, none⟩ v1) := by
  have hvl : vs.length = ls.length := by have := htr.len; simpa using this
  have t2 : Trns R C ((wr.alloc o1).alloc o2).drew B gm (ls ++ [l]) (vs ++ [tv]) :=
    (htr.kept hown (World.grownBy_alloc wr o1 none) (.inl rfl) hgm).kept (hown.alloc _) (row := none) ⟨rfl, rfl, rfl, by simp, fun k hk _ => heap_alloc_old (wr.alloc o1) o2 hk⟩ (.inl rfl) hgm
  have t3 := t2.grow hg hgm hr ho hat
  have hown2 : ((wr.alloc o1).alloc o2).drew.ownsRow B 24 1 (.slice (some ⟨gt, 0, none⟩) (ls.length + 1) capt) (ls.length + 1) (vs ++ [tv]) := ((hown.alloc o1).alloc o2).drew
  have hown3 := hown2.kept hg (.inr hne)
  have hst := hown3.stored ls.length v1
  rw [show (vs ++ [tv]).set ls.length v1 = vs ++ [v1] from by rw [← hvl]; simp] at hst
  refine ⟨t3.kept hown3 hst.2 (.inr rfl) hgm, by simpa using hst.1, ?_⟩
  have hb2 : Below B w ((wr.alloc o1).alloc o2).drew := ((hnx.alloc hB o1).alloc (by simp; omega) o2).drew
  refine (hb2.grown hg (by have : ((wr.alloc o1).alloc o2).drew.heap.size = wr.heap.size + 2 := by simp
                           omega) hrB).setCell ?_ _
  exact (hown.lt gt rfl).1

set_option maxHeartbeats 2000000 in
theorem turns_any (gm n : Nat) (R C : Nat → ByteArray) (w : World) (hn : n ≤ 65536) (hgm : gm < w.heap.size) (hm : Msgs R C w gm n) :
    Calls Trym.prog 9 #[.slice (some ⟨gm, 0, none⟩) n n] w fun e w' => ∃ v ls vs, e = .returned v ∧ w'.ownsRow w.heap.size 24 1 v ls.length vs ∧ Cut (fun i => toolB (R i)) ls n ∧ Trns R C w' w.heap.size gm ls vs ∧ Below w.heap.size w w' ∧ (n = 0 → v = .slice none 0 0) := by
  obtain ⟨i0, hi, hz0, hz1, hz2⟩ := info_parts info24
  obtain ⟨j0, hj, hy0, hy1, hy2⟩ := info_parts info31
  have HM : Hid (Msgs R C w gm n) := hm
  clear hm
  go_enter Trym.func9, Trym.ntmps9
  go_wp2
  go_loopw [3, 8] (fun v i wr => ∃ (k : Nat) (ls : List Nat) (vs : List Value), k ≤ n ∧ i = .int .i64 k ∧ Hid (Cut (fun i => toolB (R i)) ls k) ∧ Hid (Trns R C wr w.heap.size gm ls vs) ∧ ls.length ≤ k ∧ wr.ownsRow w.heap.size 24 1 v ls.length vs ∧ Below w.heap.size w wr ∧ Hid (k = 0 → v = .slice none 0 0))
    (fun _ i _ => n - (intOf i).toNat)
  case atStart => exact ⟨0, [], [], Nat.zero_le _, rfl, Cut.start _, ⟨rfl, fun k h => (by cases h), fun k k' h => (by cases h)⟩, Nat.zero_le _, World.ownsRow_nil _ _ _ _, Below.refl _ _, fun _ => rfl⟩
  case round =>
    obtain ⟨k, ls, vs, hk, rfl, hcut, htr, hlk, hown, hnx, hz⟩ := hrel
    by_cases hlt : k < n
    · have m0 : wr.cell? ⟨gm, k * 4, none⟩ = some (.string (R k)) := (hnx.cell (by exact hgm)).trans (HM.out k hlt 0 (by omega))
      have m1 : wr.cell? ⟨gm, k * 4 + 1, none⟩ = some (.string (C k)) := (hnx.cell (by exact hgm)).trans (HM.out k hlt 1 (by omega))
      have m2 : wr.cell? ⟨gm, k * 4 + 2, none⟩ = some (.slice none 0 0) := (hnx.cell (by exact hgm)).trans (HM.out k hlt 2 (by omega))
      have m3 : wr.cell? ⟨gm, k * 4 + 3, none⟩ = some (.string ⟨#[]⟩) := (hnx.cell (by exact hgm)).trans (HM.out k hlt 3 (by omega))
      by_cases h0 : k = 0
      · have h1 : k ≤ 0 := by omega
        clear h0
        by_cases tk : ((R k).toList == [116, 111, 111, 108]) = true
        · have HC : Hid (Cut (fun i => toolB (R i)) (ls ++ [1]) (k + 1)) := hcut.out.push (fun h => by omega)
          go_wp2_with (at_builtin; refine wpList_append_own _ rfl (.tmp 43) (.tmp 51) 26 rfl w.heap.size 24 i0 (.slice none 0 0) 1 24 Trym.underlying26 hi hz0 hz1 hz2 rfl (by decide) _ _ _ rfl ((hown.alloc _).alloc _) ⟨wr.heap.size + 1, 0, none⟩ 1 1 [.slice (some ⟨gm, k * 4, none⟩) 1 1] rfl rfl (news_at2 _ _ _ _) (by intro u hu; simp at hu; rcases hu with rfl; rfl) (by unfold maxLen; omega) (by omega) (by simp; have := hnx.size; omega) ?_; intro v1 w1 hown1 hgrow1 _)
          have HT : Hid _ := push_step htr.out hown hgrow1 hgm hcut.out.sum
          have HB : Hid _ := push_below hnx hown hgrow1
          have HO : Hid _ := push_own hown1
          clear hown hown1 hgrow1
          go_wp2
          go_roundw
          case rel => exact ⟨k + 1, ls ++ [1], _, by omega, by go_num, HC.out, HT.out, by simp; omega, HO.out, HB.out, fun h => by omega⟩
          case measure => simp [intOf]; omega
        · rw [Bool.not_eq_true] at tk
          have HC : Hid (Cut (fun i => toolB (R i)) (ls ++ [1]) (k + 1)) := hcut.out.push (fun h => by omega)
          go_wp2_with (at_builtin; refine wpList_append_own _ rfl (.tmp 43) (.tmp 51) 26 rfl w.heap.size 24 i0 (.slice none 0 0) 1 24 Trym.underlying26 hi hz0 hz1 hz2 rfl (by decide) _ _ _ rfl ((hown.alloc _).alloc _) ⟨wr.heap.size + 1, 0, none⟩ 1 1 [.slice (some ⟨gm, k * 4, none⟩) 1 1] rfl rfl (news_at2 _ _ _ _) (by intro u hu; simp at hu; rcases hu with rfl; rfl) (by unfold maxLen; omega) (by omega) (by simp; have := hnx.size; omega) ?_; intro v1 w1 hown1 hgrow1 _)
          have HT : Hid _ := push_step htr.out hown hgrow1 hgm hcut.out.sum
          have HB : Hid _ := push_below hnx hown hgrow1
          have HO : Hid _ := push_own hown1
          clear hown hown1 hgrow1
          go_wp2
          go_roundw
          case rel => exact ⟨k + 1, ls ++ [1], _, by omega, by go_num, HC.out, HT.out, by simp; omega, HO.out, HB.out, fun h => by omega⟩
          case measure => simp [intOf]; omega
      · have p0 : wr.cell? ⟨gm, (k - 1) * 4, none⟩ = some (.string (R (k - 1))) := (hnx.cell (by exact hgm)).trans (HM.out (k - 1) (by omega) 0 (by omega))
        have hgs : gm < wr.heap.size := Nat.lt_of_lt_of_le hgm hnx.size
        have hgn : ¬ gm = wr.heap.size := by omega
        by_cases tk : ((R k).toList == [116, 111, 111, 108]) = true
        · by_cases tp : ((R (k - 1)).toList == [116, 111, 111, 108]) = true
          · have hkp : (0 : Int) < (k : Int) := by omega
            have hlp : 0 < ls.length := by
              rcases Nat.eq_zero_or_pos ls.length with e | e
              · have := hcut.out.sum; rw [List.eq_nil_of_length_eq_zero e] at this; simp at this; omega
              · exact e
            obtain ⟨ls, l, rfl⟩ := snoc_of hlp
            obtain ⟨vs, tv, rfl⟩ := snoc_of (l := vs) (by rw [htr.out.len]; exact hlp)
            have hvl : vs.length = ls.length := by have := htr.out.len; simpa using this
            obtain ⟨gt, capt, rfl, hgb, hglt⟩ := hown.form hlp
            have HL : Hid (vs.length = ls.length) := hvl
            have hsum : ls.sum + l = k := by have := hcut.out.sum; rwa [sum_app] at this
            have hcut' : Hid (Cut (fun i => toolB (R i)) (ls ++ [l + 1]) (k + 1)) := hcut.out.grow tp tk
            have hturn := htr.out.each ls.length (by simp)
            rw [getD_last, offs_app (Nat.le_refl _), offs_all, ← hvl, vget_last] at hturn
            rw [List.length_append, List.length_singleton] at hown hlk hlp ⊢
            have hsum' : Hid (ls.sum + l = k) := hsum
            have tcell : wr.cell? ⟨gt, ls.length, none⟩ = some tv := by rw [hown.cellAt ls.length (by omega), ← hvl]; simp
            have tfr := hown.frozenAt ls.length
            have HTU : Hid (Turn R C wr w.heap.size gm tv ls.sum l) := hturn
            have HOW : Hid _ := hown
            clear hturn hsum hown hvl
            have hgtn : ¬ gt = wr.heap.size := by omega
            have HMR : Hid (Msgs R C wr gm n) := fun i hi f hf => (hnx.cell (by exact hgm)).trans (HM.out i hi f hf)
            have hwq : IntKind.i64.wrap (ls.length : Int) = (ls.length : Int) := IntWalk.i64_in _ ⟨by omega, by omega⟩
            have hq1 : (0 : Int) ≤ (ls.length : Int) := by omega
            have hq2 : (ls.length : Int) < (ls.length : Int) + 1 := by omega
            rcases HTU.out with ⟨rfl, rfl⟩ | ⟨htv, hl0⟩
            · go_wp2
              go_region_law ((refine step_append_grows (by rfl) (.tmp 38) (.tmp 40) 24 (by rfl) 31 j0 zmsg 4 72 Trym.underlying24 hj hy0 hy1 hy2 (by rfl) (by decide) (some ⟨gm, ls.sum * 4, none⟩) 1 1 (mc R C ls.sum) (by rfl) (by intro h; cases h) (by rfl) (by exact olds_at HMR.out (by have := hsum'.out; omega)) ⟨wr.heap.size + 1, 0, none⟩ 1 1 (mc R C k) (by rfl) (by rfl) (by exact news_at4 _ _ _ _ _ _ _) (mc_one R C k) (by omega) (by unfold maxLen; omega) (by omega) ?_; intro v1 w1 hown1 hgrow1; obtain ⟨g1, cap1, rfl, hg1b, hg1l⟩ := hown1.form (by omega); have tc1 := far2 tcell hgrow1 (by simp); have tf1 := farf2 tfr hglt hgrow1 (by simp)))
              all_goals
                have HG : Hid _ := grow_step htr.out HOW.out hgm hnx.size hnx hgrow1 (.inl rfl) (fun k h => by cases h) (by rw [mcs_two, hsum'.out]; exact own_base hown1 (by simp; have := hnx.size; omega)) (.inl ⟨g1, rfl, hg1b⟩) (by simp)
                clear hown1 hgrow1 tc1 tf1 tcell tfr
                go_wp2
                go_roundw
                case rel => exact ⟨k + 1, ls ++ [1 + 1], _, by omega, by go_num, hcut'.out, HG.out.1, by simp; omega, HG.out.2.1, HG.out.2.2, fun h => by omega⟩
                case measure => simp [intOf]; omega
            · obtain ⟨g0, cap0, rfl, hg0b, hg0l⟩ := htv.form hl0
              have hgg : ¬ gt = g0 := fun e => own_ne htv hl0 HOW.out (by simp [Value.ownBlock, e])
              have HTV : Hid (wr.ownsRow w.heap.size 31 4 (.slice (some ⟨g0, 0, none⟩) l cap0) l (mcs R C ls.sum l)) := htv
              have hll : l ≤ 65536 := by have := hsum'.out; omega
              clear htv
              go_wp2
              go_region_law ((refine step_append_lies _ (by rfl) (.tmp 38) (.tmp 40) 24 (by rfl) w.heap.size 31 j0 zmsg 4 72 Trym.underlying24 hj hy0 hy1 hy2 (by rfl) (by decide) (.slice (some ⟨g0, 0, none⟩) l cap0) l (mcs R C ls.sum l) (by rfl) (by exact ((HTV.out.alloc _).alloc _).drew) ⟨wr.heap.size + 1, 0, none⟩ 1 1 (mc R C k) (by rfl) (by rfl) (by exact news_at4 _ _ _ _ _ _ _) (mc_one R C k) (by omega) (by unfold maxLen; omega) (by omega) (by simp; have := hnx.size; omega) _ rfl ?_; intro g1 cap1 w1 hown1 hgrow1 hat1 hlt1; have tc1 := far2 tcell hgrow1 (by simpa [Value.ownBlock] using hgg); have tf1 := farf2 tfr hglt hgrow1 (by simpa [Value.ownBlock] using hgg)))
              all_goals
                have HG : Hid _ := grow_step htr.out HOW.out hgm hnx.size hnx hgrow1 (.inr ⟨rfl, by simp [Value.ownBlock]; omega⟩) (fun k h => by cases h; exact hg0b) (by unfold mcs; rw [hsum'.out]; exact hown1) (by
                  rcases hat1 with h | h
                  · exact .inr ⟨h.symm, by simp [Value.ownBlock]; omega⟩
                  · exact .inl ⟨g1, rfl, by rw [h]; exact Nat.le_refl _⟩) (by simpa [Value.ownBlock] using hgg)
                clear hown1 hgrow1 tc1 tf1 tcell tfr
                go_wp2
                go_roundw
                case rel => exact ⟨k + 1, ls ++ [l + 1], _, by omega, by go_num, hcut'.out, HG.out.1, by simp; omega, HG.out.2.1, HG.out.2.2, fun h => by omega⟩
                case measure => simp [intOf]; omega
          · rw [Bool.not_eq_true] at tp
            have hkp : (0 : Int) < (k : Int) := by omega
            have HC : Hid (Cut (fun i => toolB (R i)) (ls ++ [1]) (k + 1)) := hcut.out.push (fun _ h => by have := h.1; unfold toolB at this; rw [tp] at this; cases this)
            go_wp2_with (at_builtin; refine wpList_append_own _ rfl (.tmp 43) (.tmp 51) 26 rfl w.heap.size 24 i0 (.slice none 0 0) 1 24 Trym.underlying26 hi hz0 hz1 hz2 rfl (by decide) _ _ _ rfl ((hown.alloc _).alloc _) ⟨wr.heap.size + 1, 0, none⟩ 1 1 [.slice (some ⟨gm, k * 4, none⟩) 1 1] rfl rfl (news_at2 _ _ _ _) (by intro u hu; simp at hu; rcases hu with rfl; rfl) (by unfold maxLen; omega) (by omega) (by simp; have := hnx.size; omega) ?_; intro v1 w1 hown1 hgrow1 _)
            have HT : Hid _ := push_step htr.out hown hgrow1 hgm hcut.out.sum
            have HB : Hid _ := push_below hnx hown hgrow1
            have HO : Hid _ := push_own hown1
            clear hown hown1 hgrow1
            go_wp2
            go_roundw
            case rel => exact ⟨k + 1, ls ++ [1], _, by omega, by go_num, HC.out, HT.out, by simp; omega, HO.out, HB.out, fun h => by omega⟩
            case measure => simp [intOf]; omega
        · rw [Bool.not_eq_true] at tk
          have HC : Hid (Cut (fun i => toolB (R i)) (ls ++ [1]) (k + 1)) := hcut.out.push (fun _ h => by have := h.2; unfold toolB at this; rw [tk] at this; cases this)
          go_wp2_with (at_builtin; refine wpList_append_own _ rfl (.tmp 43) (.tmp 51) 26 rfl w.heap.size 24 i0 (.slice none 0 0) 1 24 Trym.underlying26 hi hz0 hz1 hz2 rfl (by decide) _ _ _ rfl ((hown.alloc _).alloc _) ⟨wr.heap.size + 1, 0, none⟩ 1 1 [.slice (some ⟨gm, k * 4, none⟩) 1 1] rfl rfl (news_at2 _ _ _ _) (by intro u hu; simp at hu; rcases hu with rfl; rfl) (by unfold maxLen; omega) (by omega) (by simp; have := hnx.size; omega) ?_; intro v1 w1 hown1 hgrow1 _)
          have HT : Hid _ := push_step htr.out hown hgrow1 hgm hcut.out.sum
          have HB : Hid _ := push_below hnx hown hgrow1
          have HO : Hid _ := push_own hown1
          clear hown hown1 hgrow1
          go_wp2
          go_roundw
          case rel => exact ⟨k + 1, ls ++ [1], _, by omega, by go_num, HC.out, HT.out, by simp; omega, HO.out, HB.out, fun h => by omega⟩
          case measure => simp [intOf]; omega
    · obtain rfl : k = n := by omega
      go_wp2
      go_ret
      exact ⟨_, ls, vs, rfl, hown, hcut.out, htr.out, hnx, hz.out⟩
end Go.Proofs.Qxb6601072aMods.trn
