import Derived.Test.Qxb6601542aModsBefH
set_option linter.unusedVariables false
namespace Go.Proofs.Qxb6601542aMods.bef
open Go.RowKit
attribute [local go_sem ↓] Go.wp_at_zero Go.wp_at_succ

theorem srt_le {T : List Txn} {l : Nat} (h : ∀ j, 1 ≤ j → j < l → (T.getD (j - 1) t0).l ≤ (T.getD j t0).l) : ∀ d i, i + d < l → (T.getD i t0).l ≤ (T.getD (i + d) t0).l
  | 0, i, _ => Int.le_refl _
  | d + 1, i, hi => Int.le_trans (srt_le h d i (by omega)) (by have := h (i + d + 1) (by omega) (by omega); rw [Nat.add_sub_cancel] at this; exact this)

set_option maxHeartbeats 2000000 in
set_option maxRecDepth 100000 in
theorem walk2 (a0 : Option Addr) (len0 cap0 : Nat) (z0 : List Txn) (a1 : Option Addr) (len1 cap1 : Nat) (z1 : List Int) (o : Int) (w : World) (w0 : IsTRow w a0 len0 cap0 z0) (w1 : IsRow w a1 len1 cap1 z1) :
    Calls Trym.prog 5 #[.slice a0 len0 cap0, .slice a1 len1 cap1, .int .i64 o] w fun e w' => e = .returned (.bool true) ∧ Below w.heap.size w w' := by
  obtain ⟨l0, hn0, hf, g0, o0, v0⟩ := tview_of_row w0
  obtain ⟨l1, hn1, g1, o1, v1⟩ := iview_of_row w1
  clear w0 w1
  have U0 : Hid (TView w a0 len0 g0 o0 z0) := v0
  have U1 : Hid (IView w a1 len1 g1 o1 (z1.take len1)) := v1
  have HN0 : Hid (a0 = none → len0 = 0) := hn0
  have HN1 : Hid (a1 = none → len1 = 0) := hn1
  have HF : Hid (∀ i, i < len0 → (z0.getD i t0).f ≤ mx) := hf
  clear v0 v1 hn0 hn1 hf
  by_cases s0 : len0 ≤ 32768
  · by_cases s1 : len1 ≤ 32768
    · go_enter Trym.func5, Trym.ntmps5
      go_wp2_with fail
      refine (bytes16 a0 a1 len0 cap0 len1 cap1 o w l0 l1).mono ?_
      rintro e w' ⟨⟨b, rfl⟩, rfl⟩
      cases b
      · go_wp2_with fail
        go_ret
        exact ⟨rfl, Below.refl _ _⟩
      go_wp2_with fail
      go_loopw [7] (fun i wr => ∃ ii : Nat, 1 ≤ ii ∧ ii ≤ len0 + 1 ∧ i = .int .i64 ii ∧ Hid (∀ j, 1 ≤ j → j < ii → j < len0 → (z0.getD (j - 1) t0).l ≤ (z0.getD j t0).l) ∧ Below w.heap.size w wr) (fun i _ => len0 + 1 - (intOf i).toNat)
      case atStart => exact ⟨1, by omega, by omega, rfl, fun j h1 h2 => by omega, Below.refl _ _⟩
      case round =>
        obtain ⟨ii, hi1, hi2, rfl, hsr, hnx⟩ := hrel
        by_cases hlt : ii < len0
        · obtain rfl := U0.out.2.1 (by omega)
          have c0 : wr.cell? ⟨g0, o0 + ii * 3 + 2, none⟩ = some (.int .i64 (z0.getD ii t0).l) := cell_later hnx (U0.out.2.2 ii hlt 2 (by omega))
          have c1 : wr.cell? ⟨g0, o0 + (ii - 1) * 3 + 2, none⟩ = some (.int .i64 (z0.getD (ii - 1) t0).l) := cell_later hnx (U0.out.2.2 (ii - 1) (by omega) 2 (by omega))
          have q1 : (0 : Int) ≤ (ii : Int) := by omega
          have q2 : (ii : Int) < (len0 : Int) := by omega
          have q3 : (0 : Int) ≤ (ii : Int) - 1 := by omega
          have q4 : (ii : Int) - 1 < (len0 : Int) := by omega
          have q5 : ((ii : Int) - 1).toNat = ii - 1 := by omega
          by_cases hc : (z0.getD ii t0).l < (z0.getD (ii - 1) t0).l
          · generalize (z0.getD ii t0).l = p at c0 hc
            generalize (z0.getD (ii - 1) t0).l = q at c1 hc
            go_wp2_with fail
            go_quiet (fail)
            go_wp2
            go_ret
            exact ⟨rfl, below_drewN hnx _⟩
          · have hc' : (z0.getD (ii - 1) t0).l ≤ (z0.getD ii t0).l := by omega
            have HS : Hid (∀ j, 1 ≤ j → j < ii + 1 → j < len0 → (z0.getD (j - 1) t0).l ≤ (z0.getD j t0).l) := fun j h1 h2 h3 => by
              by_cases e : j = ii
              · subst e; exact hc'
              · exact hsr.out j h1 (by omega) h3
            clear hc
            generalize (z0.getD ii t0).l = p at c0 hc'
            generalize (z0.getD (ii - 1) t0).l = q at c1 hc'
            go_wp2_with fail
            go_quiet (fail)
            go_wp2
            go_roundw
            case rel => exact ⟨ii + 1, by omega, by omega, by go_num, HS, below_drewN hnx _⟩
            case measure => simp [intOf]; omega
        · have HSR : Hid (∀ j, 1 ≤ j → j < len0 → (z0.getD (j - 1) t0).l ≤ (z0.getD j t0).l) := fun j h1 h2 => hsr.out j h1 (by omega) h2
          obtain ⟨wx, rfl⟩ : ∃ wx, wx = wr := ⟨wr, rfl⟩
          have V0 : Hid (TView wx a0 len0 g0 o0 z0) := U0.out.later hnx
          have V1 : Hid (IView wx a1 len1 g1 o1 (z1.take len1)) := U1.out.later hnx
          have HWX : Hid (Below w.heap.size w wx) := hnx
          clear hnx hsr
          go_wp2_with fail
          refine (copy_any a0 len0 cap0 g0 o0 z0 wx s0 V0.out).mono ?_
          rintro e wa ⟨va, rfl, hcp, hba⟩
          obtain ⟨ea, hva, hta, hea⟩ := tcopied_view hcp HN0.out V0.out.1
          have HTA : Hid (TView wa ea len0 wx.heap.size 0 z0) := hta
          have HEA : Hid (ea = none → len0 = 0) := hea
          have HBA : Hid (Below wx.heap.size wx wa) := hba
          rw [hva]
          clear hva va hcp hta hea hba
          go_wp2_with fail
          refine (ints_any a1 len1 cap1 g1 o1 (z1.take len1) wa s1 (V1.out.later HBA.out)).mono ?_
          rintro e wb ⟨vb, rfl, hcp, hbb⟩
          obtain ⟨eb, hvb⟩ := icopied_shape hcp HN1.out
          have HBB : Hid (Below wx.heap.size wx wb) := HBA.out.trans (hbb.mono HBA.out.size)
          have HTB : Hid (TView wb ea len0 wx.heap.size 0 z0) := HTA.out.later hbb
          rw [hvb]
          clear hvb vb hcp hbb
          go_wp2_with fail
          refine (store_any ea len0 len0 wx.heap.size 0 z0 wb s0 HTB.out).mono ?_
          rintro e wc ⟨vc, rfl, hcp, hbc⟩
          obtain ⟨ec, hvc, htc, _⟩ := tcopied_view hcp HEA.out V0.out.1
          have HTC : Hid (TView wc ec len0 wb.heap.size 0 z0) := htc
          have HTX : Hid (TView wc ea len0 wx.heap.size 0 z0) := HTB.out.later hbc
          have HBC : Hid (Below wx.heap.size wx wc) := HBB.out.trans (hbc.mono HBB.out.size)
          rw [hvc]
          clear hvc vc hcp htc hbc
          go_wp2_with fail
          refine (zz_any ec eb len0 len1 len1 wb.heap.size z0 o wc s0 HTC.out).mono ?_
          rintro e wd ⟨v, u, rfl, ⟨k, hcut, hov, hou, hnil⟩, hbd⟩
          have HTD : Hid (TView wd ea len0 wx.heap.size 0 z0) := HTX.out.later hbd
          have HBD : Hid (Below wx.heap.size wx wd) := HBC.out.trans (hbd.mono HBC.out.size)
          have HCUT : Hid (Cut z0 o len0 k) := hcut
          have HOV : Hid (wd.ownsRow wc.heap.size 35 3 v k (tcs (z0.take k))) := hov
          have HOU : Hid (wd.ownsRow wc.heap.size 2 1 u k ((sm (z0.take k)).map (Value.int .i64))) := hou
          have HNIL : Hid (k = 0 → v = .slice none 0 0 ∧ u = .slice none 0 0) := hnil
          have hkl : k ≤ len0 := hcut.le
          obtain ⟨va, vc, rfl⟩ := own_slice hov
          obtain ⟨ua, uc, rfl⟩ := own_slice hou
          clear hov hou hnil hcut hbd
          go_wp2_with fail
          go_loopw [10, 11] (fun a b wr => ∃ ii jj : Nat, ii ≤ len0 ∧ jj ≤ k ∧ Hid (jj = min ii k) ∧ a = .int .i64 jj ∧ b = .int .i64 ii ∧ Below wd.heap.size wd wr) (fun _ b _ => len0 - (intOf b).toNat)
          case atStart => exact ⟨0, 0, by omega, by omega, by show 0 = min 0 k; omega, rfl, rfl, Below.refl _ _⟩
          case round =>
            obtain ⟨ii, jj, hin, hjk, hjj, rfl, rfl, hnx⟩ := hrel
            by_cases hlt : ii < len0
            · obtain rfl := HTD.out.2.1 (by omega)
              have ct : ∀ f, f < 3 → wd.cell? ⟨wx.heap.size, ii * 3 + f, none⟩ = (tc (z0.getD ii t0))[f]? := fun f hf => by
                have := HTD.out.2.2 ii (by omega) f hf
                rwa [Nat.zero_add] at this
              by_cases hik : ii < k
              · obtain rfl : jj = ii := by have := hjj.out; omega
                obtain ⟨gv, cv, hgv, _, _⟩ := HOV.out.form (by omega)
                obtain ⟨rfl, rfl⟩ : va = some ⟨gv, 0, none⟩ ∧ vc = cv := by simpa using hgv
                have hlen : (z0.take k).length = k := by have := V0.out.1; simp; omega
                have ce : ∀ f, f < 3 → wd.cell? ⟨gv, jj * 3 + f, none⟩ = (tc (z0.getD jj t0))[f]? := fun f hf => by
                  rw [HOV.out.cellAt (jj * 3 + f) (by omega), tcs_get (z0.take k) jj f (by omega) hf, getD_take hik]
                have hxl : (z0.getD jj t0).l < o := HCUT.out.lo jj hik
                generalize z0.getD jj t0 = x at ce ct hxl
                have c0 : wr.cell? ⟨gv, jj * 3, none⟩ = some (.int .i64 x.p) := cell_later hnx (ce 0 (by omega))
                have c1 : wr.cell? ⟨gv, jj * 3 + 1, none⟩ = some (.int .i64 x.f) := cell_later hnx (ce 1 (by omega))
                have c2 : wr.cell? ⟨gv, jj * 3 + 2, none⟩ = some (.int .i64 x.l) := cell_later hnx (ce 2 (by omega))
                have d0 : wr.cell? ⟨wx.heap.size, jj * 3, none⟩ = some (.int .i64 x.p) := cell_later hnx (ct 0 (by omega))
                have d1 : wr.cell? ⟨wx.heap.size, jj * 3 + 1, none⟩ = some (.int .i64 x.f) := cell_later hnx (ct 1 (by omega))
                have d2 : wr.cell? ⟨wx.heap.size, jj * 3 + 2, none⟩ = some (.int .i64 x.l) := cell_later hnx (ct 2 (by omega))
                have q1 : (0 : Int) ≤ (jj : Int) := by omega
                have q2 : (jj : Int) < (k : Int) := by omega
                have q3 : (jj : Int) < (len0 : Int) := by omega
                have q4 : decide (k ≤ jj) = false := decide_eq_false (by omega)
                have q5 : decide ((k : Int) ≤ (jj : Int)) = false := decide_eq_false (by omega)
                clear ce ct hlen hgv
                go_wp2_with fail
                go_region_held3 (fun wy => wy.cell? ⟨gv, jj * 3, none⟩ = some (.int .i64 x.p) ∧ wy.cell? ⟨gv, jj * 3 + 1, none⟩ = some (.int .i64 x.f) ∧ wy.cell? ⟨gv, jj * 3 + 2, none⟩ = some (.int .i64 x.l) ∧ wy.cell? ⟨wx.heap.size, jj * 3, none⟩ = some (.int .i64 x.p) ∧ wy.cell? ⟨wx.heap.size, jj * 3 + 1, none⟩ = some (.int .i64 x.f) ∧ wy.cell? ⟨wx.heap.size, jj * 3 + 2, none⟩ = some (.int .i64 x.l)) (first | go_keep | (refine ⟨cell_later hbs ?_, cell_later hbs ?_, cell_later hbs ?_, cell_later hbs ?_, cell_later hbs ?_, cell_later hbs ?_⟩ <;> simp [*])) (first | (go_at_call 14; refine (same_any _ _ _ _).mono ?_; rintro e w' ⟨rfl, hbs⟩))
                have HBN : Hid (Below wd.heap.size wd w') := hnx.drew.trans (hbs.mono hnx.size)
                clear c0 c1 c2 d0 d1 d2 hbs
                go_wp2
                go_roundw
                case rel => first | exact ⟨jj + 1, jj + 1, by omega, by omega, by show jj + 1 = min (jj + 1) k; omega, by go_num, by go_num, HBN.out⟩ | ((repeat apply Exists.intro); exact ⟨⟨jj + 1, jj + 1, by omega, by omega, by show jj + 1 = min (jj + 1) k; omega, by go_num, by go_num, HBN.out⟩, rfl⟩)
                case measure => simp [intOf]; omega
              · have hxl : o ≤ (z0.getD ii t0).l := by
                  have h1 := HCUT.out.hi (by omega)
                  have h2 := srt_le HSR.out (ii - k) k (by omega)
                  rw [show k + (ii - k) = ii by omega] at h2
                  exact Int.le_trans h1 h2
                generalize z0.getD ii t0 = x at ct hxl
                have d2 : wr.cell? ⟨wx.heap.size, ii * 3 + 2, none⟩ = some (.int .i64 x.l) := cell_later hnx (ct 2 (by omega))
                clear ct
                go_wp2_with fail
                go_roundw
                case rel => first | exact ⟨ii + 1, jj, by omega, by omega, by have := hjj.out; show jj = min (ii + 1) k; omega, rfl, by go_num, hnx⟩ | ((repeat apply Exists.intro); exact ⟨⟨ii + 1, jj, by omega, by omega, by have := hjj.out; show jj = min (ii + 1) k; omega, rfl, by go_num, hnx⟩, rfl⟩)
                case measure => simp [intOf]; omega
            · obtain rfl : jj = k := by have := hjj.out; omega
              have HOVR : Hid (wr.ownsRow wc.heap.size 35 3 (.slice va jj vc) jj (tcs (z0.take jj))) := own_below HOV.out hnx
              have HOUR : Hid (wr.ownsRow wc.heap.size 2 1 (.slice ua jj uc) jj ((sm (z0.take jj)).map (Value.int .i64))) := own_below HOU.out hnx
              have HBF : Hid (Below w.heap.size w wr) := HWX.out.trans ((HBD.out.trans (hnx.mono HBD.out.size)).mono HWX.out.size)
              go_wp2_with fail
              refine (suf_any _ _ jj wc.heap.size wc.heap.size (z0.take jj) wr (by have := V0.out.1; simp; omega) (by omega) HOVR.out HOUR.out (fun j hj => by rw [getD_take hj]; exact HF.out j (by omega))).mono ?_
              rintro e w' ⟨rfl, rfl⟩
              go_wp2_with fail
              go_ret
              exact ⟨rfl, HBF.out⟩
    · go_enter Trym.func5, Trym.ntmps5
      go_wp2_with fail
      refine (bytes16 a0 a1 len0 cap0 len1 cap1 o w l0 l1).mono ?_
      rintro e w' ⟨⟨b, rfl⟩, rfl⟩
      cases b
      · go_wp2_with fail
        go_ret
        exact ⟨rfl, Below.refl _ _⟩
      · go_wp2_with fail
        go_ret
        exact ⟨rfl, Below.refl _ _⟩
  · go_enter Trym.func5, Trym.ntmps5
    go_wp2_with fail
    refine (bytes16 a0 a1 len0 cap0 len1 cap1 o w l0 l1).mono ?_
    rintro e w' ⟨⟨b, rfl⟩, rfl⟩
    cases b
    · go_wp2_with fail
      go_ret
      exact ⟨rfl, Below.refl _ _⟩
    · go_wp2_with fail
      go_ret
      exact ⟨rfl, Below.refl _ _⟩
end Go.Proofs.Qxb6601542aMods.bef
