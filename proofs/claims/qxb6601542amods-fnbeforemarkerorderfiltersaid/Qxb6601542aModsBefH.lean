import Derived.Test.Qxb6601542aModsBefG
set_option linter.unusedVariables false
namespace Go.Proofs.Qxb6601542aMods.bef
open Go.RowKit
attribute [local go_sem ↓] Go.wp_at_zero Go.wp_at_succ

theorem getD_take {T : List Txn} {k i : Nat} (h : i < k) : (T.take k).getD i t0 = T.getD i t0 := by simp [List.getD, h]

theorem own_below {w w' : World} {B e s n : Nat} {v : Value} {xs : List Value} (h : w.ownsRow B e s v n xs) (hb : Below w.heap.size w w') : w'.ownsRow B e s v n xs := by
  refine ⟨h.1, ?_⟩
  rcases h.2 with h | ⟨g, cap, cur, hv, hg, hh, r⟩
  · exact .inl h
  · exact .inr ⟨g, cap, cur, hv, hg, (hb.block g (blk_lt hh)).trans hh, r⟩

set_option maxHeartbeats 2000000 in
set_option maxRecDepth 100000 in
theorem walk1 (a0 : Option Addr) (len0 cap0 : Nat) (z0 : List Txn) (a1 : Option Addr) (len1 cap1 : Nat) (z1 : List Int) (o : Int) (w : World) (w0 : IsTRow w a0 len0 cap0 z0) (w1 : IsRow w a1 len1 cap1 z1) :
    Calls Trym.prog 4 #[.slice a0 len0 cap0, .slice a1 len1 cap1, .int .i64 o] w fun e w' => e = .returned (.bool true) ∧ Below w.heap.size w w' := by
  obtain ⟨l0, hn0, hf, g0, o0, v0⟩ := tview_of_row w0
  obtain ⟨l1, hn1, g1, o1, v1⟩ := iview_of_row w1
  clear w0 w1
  have V0 : Hid (TView w a0 len0 g0 o0 z0) := v0
  have V1 : Hid (IView w a1 len1 g1 o1 (z1.take len1)) := v1
  have HN0 : Hid (a0 = none → len0 = 0) := hn0
  have HN1 : Hid (a1 = none → len1 = 0) := hn1
  have HF : Hid (∀ i, i < len0 → (z0.getD i t0).f ≤ mx) := hf
  clear v0 v1 hn0 hn1 hf
  have hq : ∀ (w : World) (a : Option Addr) (n c : Nat), (binOp .neq 29 (.slice a n c) (.slice none 0 0)).run Trym.prog w = .ok (.bool (!a.isNone)) w := fun w a n c => run_neq_slice_nil_any w 29 _ a n c _ _ Trym.underlying29
  have hq2 : ∀ (w : World) (a : Option Addr) (n c : Nat), (binOp .neq 25 (.slice a n c) (.slice none 0 0)).run Trym.prog w = .ok (.bool (!a.isNone)) w := fun w a n c => run_neq_slice_nil_any w 25 _ a n c _ _ Trym.underlying25
  by_cases s0 : len0 ≤ 32768
  · by_cases s1 : len1 ≤ 32768
    · go_enter Trym.func4, Trym.ntmps4
      go_wp2_with fail
      refine (bytes9 a0 a1 len0 cap0 len1 cap1 o w l0 l1).mono ?_
      rintro e w' ⟨⟨b, rfl⟩, rfl⟩
      cases b
      · go_wp2_with fail
        go_ret
        exact ⟨rfl, Below.refl _ _⟩
      go_wp2_with fail
      refine (copy_any a0 len0 cap0 g0 o0 z0 w s0 V0.out).mono ?_
      rintro e wa ⟨va, rfl, hcp, hba⟩
      obtain ⟨ea, hva, hta, hea⟩ := tcopied_view hcp HN0.out V0.out.1
      have HTA : Hid (TView wa ea len0 w.heap.size 0 z0) := hta
      have HEA : Hid (ea = none → len0 = 0) := hea
      have HBA : Hid (Below w.heap.size w wa) := hba
      rw [hva]
      clear hva va hcp hta hea hba
      go_wp2_with fail
      refine (ints_any a1 len1 cap1 g1 o1 (z1.take len1) wa s1 (V1.out.later HBA.out)).mono ?_
      rintro e wb ⟨vb, rfl, hcp, hbb⟩
      obtain ⟨eb, hvb⟩ := icopied_shape hcp HN1.out
      have HBB : Hid (Below w.heap.size w wb) := HBA.out.trans (hbb.mono HBA.out.size)
      have HTB : Hid (TView wb ea len0 w.heap.size 0 z0) := HTA.out.later hbb
      rw [hvb]
      clear hvb vb hcp hbb
      go_wp2_with fail
      refine (store_any ea len0 len0 w.heap.size 0 z0 wb s0 HTB.out).mono ?_
      rintro e wc ⟨vc, rfl, hcp, hbc⟩
      obtain ⟨ec, hvc, htc, _⟩ := tcopied_view hcp HEA.out V0.out.1
      have HTC : Hid (TView wc ec len0 wb.heap.size 0 z0) := htc
      have HTX : Hid (TView wc ea len0 w.heap.size 0 z0) := HTB.out.later hbc
      have HBC : Hid (Below w.heap.size w wc) := HBB.out.trans (hbc.mono HBB.out.size)
      rw [hvc]
      clear hvc vc hcp htc hbc
      go_wp2_with fail
      refine (zz_any ec eb len0 len1 len1 wb.heap.size z0 o wc s0 HTC.out).mono ?_
      rintro e wd ⟨v, u, rfl, ⟨k, hcut, hov, hou, hnil⟩, hbd⟩
      have HTD : Hid (TView wd ea len0 w.heap.size 0 z0) := HTX.out.later hbd
      have HBD : Hid (Below w.heap.size w wd) := HBC.out.trans (hbd.mono HBC.out.size)
      have HCUT : Hid (Cut z0 o len0 k) := hcut
      have HOV : Hid (wd.ownsRow wc.heap.size 35 3 v k (tcs (z0.take k))) := hov
      have HOU : Hid (wd.ownsRow wc.heap.size 2 1 u k ((sm (z0.take k)).map (Value.int .i64))) := hou
      have HNIL : Hid (k = 0 → v = .slice none 0 0 ∧ u = .slice none 0 0) := hnil
      have hkl : k ≤ len0 := hcut.le
      obtain ⟨va, vc, rfl⟩ := own_slice hov
      obtain ⟨ua, uc, rfl⟩ := own_slice hou
      clear hov hou hnil hcut hbd
      have hkd : decide (len0 < k) = false := decide_eq_false (by omega)
      go_wp2_with fail
      go_loopw [10] (fun i wr => ∃ ii : Nat, ii ≤ k ∧ i = .int .i64 ii ∧ Below wd.heap.size wd wr) (fun i _ => k - (intOf i).toNat)
      case atStart => exact ⟨0, by omega, rfl, Below.refl _ _⟩
      case round =>
        obtain ⟨ii, hik, rfl, hnx⟩ := hrel
        by_cases hlt : ii < k
        · obtain ⟨gv, cv, hgv, _, _⟩ := HOV.out.form (by omega)
          obtain ⟨rfl, rfl⟩ : va = some ⟨gv, 0, none⟩ ∧ vc = cv := by simpa using hgv
          obtain rfl := HTD.out.2.1 (by omega)
          have hlen : (z0.take k).length = k := by have := V0.out.1; simp; omega
          have ce : ∀ f, f < 3 → wd.cell? ⟨gv, ii * 3 + f, none⟩ = (tc (z0.getD ii t0))[f]? := fun f hf => by
            rw [HOV.out.cellAt (ii * 3 + f) (by omega), tcs_get (z0.take k) ii f (by omega) hf, getD_take hlt]
          have ct : ∀ f, f < 3 → wd.cell? ⟨w.heap.size, ii * 3 + f, none⟩ = (tc (z0.getD ii t0))[f]? := fun f hf => by
            have := HTD.out.2.2 ii (by omega) f hf
            rwa [Nat.zero_add] at this
          have hxl : (z0.getD ii t0).l < o := HCUT.out.lo ii hlt
          generalize z0.getD ii t0 = x at ce ct hxl
          have c0 : wr.cell? ⟨gv, ii * 3, none⟩ = some (.int .i64 x.p) := cell_later hnx (ce 0 (by omega))
          have c1 : wr.cell? ⟨gv, ii * 3 + 1, none⟩ = some (.int .i64 x.f) := cell_later hnx (ce 1 (by omega))
          have c2 : wr.cell? ⟨gv, ii * 3 + 2, none⟩ = some (.int .i64 x.l) := cell_later hnx (ce 2 (by omega))
          have d0 : wr.cell? ⟨w.heap.size, ii * 3, none⟩ = some (.int .i64 x.p) := cell_later hnx (ct 0 (by omega))
          have d1 : wr.cell? ⟨w.heap.size, ii * 3 + 1, none⟩ = some (.int .i64 x.f) := cell_later hnx (ct 1 (by omega))
          have d2 : wr.cell? ⟨w.heap.size, ii * 3 + 2, none⟩ = some (.int .i64 x.l) := cell_later hnx (ct 2 (by omega))
          have q1 : (0 : Int) ≤ (ii : Int) := by omega
          have q2 : (ii : Int) < (k : Int) := by omega
          have q3 : (ii : Int) < (len0 : Int) := by omega
          clear ce ct hlen hgv
          go_wp2_with fail
          go_region_held3 (fun wy => wy.cell? ⟨gv, ii * 3, none⟩ = some (.int .i64 x.p) ∧ wy.cell? ⟨gv, ii * 3 + 1, none⟩ = some (.int .i64 x.f) ∧ wy.cell? ⟨gv, ii * 3 + 2, none⟩ = some (.int .i64 x.l) ∧ wy.cell? ⟨w.heap.size, ii * 3, none⟩ = some (.int .i64 x.p) ∧ wy.cell? ⟨w.heap.size, ii * 3 + 1, none⟩ = some (.int .i64 x.f) ∧ wy.cell? ⟨w.heap.size, ii * 3 + 2, none⟩ = some (.int .i64 x.l)) (first | go_keep | (refine ⟨cell_later hbs ?_, cell_later hbs ?_, cell_later hbs ?_, cell_later hbs ?_, cell_later hbs ?_, cell_later hbs ?_⟩ <;> simp [*])) (first | (go_at_call 14; refine (same_any _ _ _ _).mono ?_; rintro e w' ⟨rfl, hbs⟩))
          have HBN : Hid (Below wd.heap.size wd w') := hnx.drew.trans (hbs.mono hnx.size)
          clear c0 c1 c2 d0 d1 d2 hbs
          go_wp2
          go_roundw
          case rel => first | exact ⟨ii + 1, by omega, by go_num, HBN.out⟩ | ((repeat apply Exists.intro); exact ⟨⟨ii + 1, by omega, by go_num, HBN.out⟩, rfl⟩)
          case measure => simp [intOf]; omega
        · obtain rfl : ii = k := by omega
          have HOVR : Hid (wr.ownsRow wc.heap.size 35 3 (.slice va ii vc) ii (tcs (z0.take ii))) := own_below HOV.out hnx
          have HOUR : Hid (wr.ownsRow wc.heap.size 2 1 (.slice ua ii uc) ii ((sm (z0.take ii)).map (Value.int .i64))) := own_below HOU.out hnx
          have HBF : Hid (Below w.heap.size w wr) := HBD.out.trans (hnx.mono HBD.out.size)
          rcases Nat.eq_zero_or_pos ii with h0 | h0
          · obtain ⟨hv0, hu0⟩ := HNIL.out h0
            obtain ⟨rfl, -, rfl⟩ : va = none ∧ ii = 0 ∧ vc = 0 := by simpa using hv0
            obtain ⟨rfl, -, rfl⟩ : ua = none ∧ ii = 0 ∧ uc = 0 := by simpa using hu0
            subst h0
            clear hv0 hu0
            by_cases hkl1 : 0 < len0
            · obtain rfl := HTD.out.2.1 hkl1
              have dx : wr.cell? ⟨w.heap.size, 2, none⟩ = some (.int .i64 (z0.getD 0 t0).l) := by have := cell_later hnx (HTD.out.2.2 0 hkl1 2 (by omega)); simpa using this
              have hox : o ≤ (z0.getD 0 t0).l := HCUT.out.hi hkl1
              generalize z0.getD 0 t0 = x at dx hox
              go_wp2_with fail
              refine (suf_any _ _ 0 wc.heap.size wc.heap.size (z0.take 0) wr rfl (by omega) HOVR.out HOUR.out (fun j hj => by rw [getD_take hj]; exact HF.out j (by omega))).mono ?_
              rintro e w' ⟨rfl, rfl⟩
              go_wp2_with fail
              go_ret
              exact ⟨rfl, HBF.out⟩
            · go_wp2_with fail
              refine (suf_any _ _ 0 wc.heap.size wc.heap.size (z0.take 0) wr rfl (by omega) HOVR.out HOUR.out (fun j hj => by rw [getD_take hj]; exact HF.out j (by omega))).mono ?_
              rintro e w' ⟨rfl, rfl⟩
              go_wp2_with fail
              go_ret
              exact ⟨rfl, HBF.out⟩
          · have hz : ((ii : Int) == 0) = false := by rw [beq_eq_false_iff_ne]; omega
            by_cases hkl1 : ii < len0
            · obtain rfl := HTD.out.2.1 (by omega)
              have dx : wr.cell? ⟨w.heap.size, ii * 3 + 2, none⟩ = some (.int .i64 (z0.getD ii t0).l) := by have := cell_later hnx (HTD.out.2.2 ii hkl1 2 (by omega)); simpa using this
              have hox : o ≤ (z0.getD ii t0).l := HCUT.out.hi hkl1
              generalize z0.getD ii t0 = x at dx hox
              go_wp2_with fail
              refine (suf_any _ _ ii wc.heap.size wc.heap.size (z0.take ii) wr (by have := V0.out.1; simp; omega) (by omega) HOVR.out HOUR.out (fun j hj => by rw [getD_take hj]; exact HF.out j (by omega))).mono ?_
              rintro e w' ⟨rfl, rfl⟩
              go_wp2_with fail
              go_ret
              exact ⟨rfl, HBF.out⟩
            · go_wp2_with fail
              refine (suf_any _ _ ii wc.heap.size wc.heap.size (z0.take ii) wr (by have := V0.out.1; simp; omega) (by omega) HOVR.out HOUR.out (fun j hj => by rw [getD_take hj]; exact HF.out j (by omega))).mono ?_
              rintro e w' ⟨rfl, rfl⟩
              go_wp2_with fail
              go_ret
              exact ⟨rfl, HBF.out⟩
    · go_enter Trym.func4, Trym.ntmps4
      go_wp2_with fail
      refine (bytes9 a0 a1 len0 cap0 len1 cap1 o w l0 l1).mono ?_
      rintro e w' ⟨⟨b, rfl⟩, rfl⟩
      cases b
      · go_wp2_with fail
        go_ret
        exact ⟨rfl, Below.refl _ _⟩
      · go_wp2_with fail
        go_ret
        exact ⟨rfl, Below.refl _ _⟩
  · go_enter Trym.func4, Trym.ntmps4
    go_wp2_with fail
    refine (bytes9 a0 a1 len0 cap0 len1 cap1 o w l0 l1).mono ?_
    rintro e w' ⟨⟨b, rfl⟩, rfl⟩
    cases b
    · go_wp2_with fail
      go_ret
      exact ⟨rfl, Below.refl _ _⟩
    · go_wp2_with fail
      go_ret
      exact ⟨rfl, Below.refl _ _⟩
end Go.Proofs.Qxb6601542aMods.bef
