import Derived.Test.Qxb6601072aModsTrnE
set_option linter.unusedVariables false
namespace Go.Proofs.Qxb6601072aMods.trn
open Go.RowKit
attribute [local go_sem ↓] Go.wp_at_zero Go.wp_at_succ

set_option maxHeartbeats 2000000 in
set_option maxRecDepth 100000 in
theorem walk1 (a0 : Option Addr) (len0 cap0 : Nat) (z0 : List ByteArray) (a1 : Option Addr) (len1 cap1 : Nat) (z1 : List ByteArray) (w : World) (w0 : IsSRow w a0 len0 cap0 z0) (w1 : IsSRow w a1 len1 cap1 z1) :
    Calls Trym.prog 3 #[.slice a0 len0 cap0, .slice a1 len1 cap1] w fun e w' => e = .returned (.bool true) ∧ Below w.heap.size w w' := by
  obtain ⟨l0, g0, o0, R, v0⟩ := sview_of_row w0
  obtain ⟨l1, g1, o1, S, v1⟩ := sview_of_row w1
  clear w0 w1
  have V0 : Hid (SView w a0 len0 g0 o0 R) := v0
  have V1 : Hid (SView w a1 len1 g1 o1 S) := v1
  clear v0 v1
  have hq : ∀ (w : World) (a : Option Addr) (n c : Nat), (binOp .eql 26 (.slice a n c) (.slice none 0 0)).run Trym.prog w = .ok (.bool a.isNone) w := fun w a n c => Lib.run_eql_slice_nil w 26 _ a n c _ _ Trym.underlying26
  go_enter Trym.func3, Trym.ntmps3
  go_wp2_with fail
  refine (bytes6 a0 a1 len0 cap0 g0 o0 len1 cap1 g1 o1 R S w l0 l1 V0.out V1.out).mono ?_
  rintro e w' ⟨⟨b, rfl⟩, rfl⟩
  cases b
  · go_wp2_with fail
    go_ret
    exact ⟨rfl, Below.refl _ _⟩
  go_wp2_with fail
  refine (ok_any a0 a1 len0 cap0 g0 o0 len1 cap1 g1 o1 R S w l0 l1 V0.out V1.out).mono ?_
  rintro e w' ⟨⟨b, rfl, hb⟩, rfl⟩
  cases b
  · go_wp2_with fail
    go_ret
    exact ⟨rfl, Below.refl _ _⟩
  obtain ⟨s0, s1⟩ := hb rfl
  clear hb
  go_wp2_with fail
  refine (build_any a0 a1 len0 cap0 g0 o0 len1 cap1 g1 o1 R S w s0 s1 V0.out V1.out).mono ?_
  rintro e wa ⟨rfl, hms, hsz, hba⟩
  have HMS : Hid (Msgs R (cont len1 S) wa w.heap.size len0) := hms
  clear hms
  go_wp2_with fail
  refine (turns_any w.heap.size len0 R (cont len1 S) wa s0 hsz HMS.out).mono ?_
  rintro e wb ⟨v, ls, vs, rfl, hown, hcut, htr, hbb0, hnil⟩
  have HO : Hid (wb.ownsRow wa.heap.size 24 1 v ls.length vs) := hown
  have HC : Hid (Cut (fun i => toolB (R i)) ls len0) := hcut
  have HT : Hid (Trns R (cont len1 S) wb wa.heap.size w.heap.size ls vs) := htr
  have HMB : Hid (Msgs R (cont len1 S) wb w.heap.size len0) := HMS.out.later hsz hbb0
  have HBB : Hid (Below w.heap.size w wb) := hba.trans (hbb0.mono hba.size)
  have HN : Hid (len0 = 0 → v = .slice none 0 0) := hnil
  have hll : ls.length ≤ len0 := cut_len hcut
  clear hown hcut htr hbb0 hnil
  by_cases hz : len0 = 0
  · have hv := HN.out hz
    subst hz
    rw [hv]
    go_wp2_with fail
    go_ret
    exact ⟨by simp, HBB.out⟩
  · have hne : ((len0 : Int) == 0) = false := by rw [beq_eq_false_iff_ne]; omega
    go_wp2_with fail
    go_loopw [8, 9] (fun a b wr => ∃ kk ii : Nat, kk ≤ ls.length ∧ Hid (ii = offs ls kk) ∧ ii ≤ len0 ∧ a = .int .i64 kk ∧ b = .int .i64 ii ∧ Below wb.heap.size wb wr) (fun _ b _ => len0 - (intOf b).toNat)
    case atStart => exact ⟨0, 0, by omega, offs_zero ls, by omega, rfl, rfl, Below.refl _ _⟩
    case round =>
      obtain ⟨kk, ii, hkk, hii, hin, rfl, rfl, hnx⟩ := hrel
      by_cases hlt : ii < len0
      · have hk : kk < ls.length := cut_at HC.out hkk (by rw [← hii.out]; exact hlt)
        obtain rfl := V0.out.1 (by omega)
        obtain ⟨gt, capt, hv, hgb, hgl⟩ := HO.out.form (by omega)
        have hcr := cut_run HC.out hk
        rw [← hii.out] at hcr
        have hcl := cut_le HC.out kk hk
        rw [← hii.out] at hcl
        have hps := HC.out.pos kk hk
        obtain ⟨g, off, cap, hvk, hcell⟩ := turn_read (HT.out.each kk hk) HMB.out (by rw [← hii.out]; exact hcl)
        have hsucc : Hid (offs ls (kk + 1) = offs ls kk + ls.getD kk 0) := offs_succ ls kk hk
        rw [← hii.out] at hcell
        have htc : wb.cell? ⟨gt, kk, none⟩ = some (.slice (some ⟨g, off, none⟩) (ls.getD kk 0) cap) := by
          have h1 := HO.out
          rw [hv] at h1
          rw [h1.cellAt kk (by omega)]
          have := HT.out.len
          rw [← hvk]
          simp [List.getD, show kk < vs.length by omega]
        have HSU : Hid (offs ls (kk + 1) = ii + ls.getD kk 0) := by rw [← hii.out] at hsucc; exact hsucc
        clear hsucc
        generalize ls.getD kk 0 = l at hcr hcl hps hcell htc HSU hvk
        subst hv
        have HCE : Hid _ := hcell
        have HCR : Hid _ := hcr
        have htc' := cell_later hnx htc
        clear hcell hcr htc hvk
        have rc := cell_later hnx (cell_later HBB.out (V0.out.2 ii hlt))
        cases tk : toolB (R ii)
        · have tk' : ((R ii).toList == [116, 111, 111, 108]) = false := tk
          obtain rfl : l = 1 := HCR.out.1 tk
          clear tk
          go_wp2_with fail
          go_loopw [12] (fun p wx => ∃ pp : Nat, pp ≤ 1 ∧ p = .int .i64 pp ∧ Below wb.heap.size wb wx) (fun p _ => 1 - (intOf p).toNat)
          case atStart => exact ⟨0, by omega, rfl, hnx⟩
          case round =>
            clear htc' rc hnx
            obtain ⟨pp, hpl, rfl, hnx⟩ := hrel
            by_cases hpp : pp < 1
            · have c0 : wr.cell? ⟨g, off + pp * 4, none⟩ = some (.string (R (ii + pp))) := cell_later hnx (HCE.out pp hpp 0 (by omega))
              have c1 : wr.cell? ⟨g, off + pp * 4 + 1, none⟩ = some (.string (cont len1 S (ii + pp))) := cell_later hnx (HCE.out pp hpp 1 (by omega))
              have c2 : wr.cell? ⟨g, off + pp * 4 + 2, none⟩ = some (.slice none 0 0) := cell_later hnx (HCE.out pp hpp 2 (by omega))
              have c3 : wr.cell? ⟨g, off + pp * 4 + 3, none⟩ = some (.string ⟨#[]⟩) := cell_later hnx (HCE.out pp hpp 3 (by omega))
              have rc : wr.cell? ⟨g0, o0 + (ii + pp), none⟩ = some (.string (R (ii + pp))) := cell_later hnx (cell_later HBB.out (V0.out.2 (ii + pp) (by omega)))
              have HSV : Hid (SView wr a1 len1 g1 o1 S) := (V1.out.later HBB.out).later hnx
              have q1 : (0 : Int) ≤ (pp : Int) := by omega
              have q2 : (pp : Int) < (1 : Int) := by omega
              have q3 : (0 : Int) ≤ (ii : Int) + (pp : Int) := by omega
              have q4 : (ii : Int) + (pp : Int) < (len0 : Int) := by omega
              have q5 : IntKind.i64.wrap ((ii : Int) + (pp : Int)) = (ii : Int) + (pp : Int) := IntWalk.i64_in _ ⟨by omega, by omega⟩
              have q6 : ((ii : Int) + (pp : Int)).toNat = ii + pp := by omega
              go_wp2_with fail
              go_region_held3 (fun wy => wy.cell? ⟨g, off + pp * 4, none⟩ = some (.string (R (ii + pp))) ∧ wy.cell? ⟨g, off + pp * 4 + 1, none⟩ = some (.string (cont len1 S (ii + pp))) ∧ wy.cell? ⟨g, off + pp * 4 + 2, none⟩ = some (.slice none 0 0) ∧ wy.cell? ⟨g, off + pp * 4 + 3, none⟩ = some (.string ⟨#[]⟩) ∧ wy.cell? ⟨g0, o0 + (ii + pp), none⟩ = some (.string (R (ii + pp)))) (first | go_keep | (refine ⟨cell_later hbs ?_, cell_later hbs ?_, cell_later hbs ?_, cell_later hbs ?_, cell_later hbs ?_⟩ <;> simp [*])) (first | (go_at_call 11; refine (content_int a1 len1 cap1 g1 o1 S _ (ii + pp) _ (by omega) s1 (by omega) (by exact HSV.out)).mono ?_; rintro e w' ⟨rfl, rfl⟩) | (go_at_call 10; refine (same_any _ _ _).mono ?_; rintro e w' ⟨rfl, hbs⟩))
              have HBN : Hid (Below wb.heap.size wb w') := hnx.drew.trans (hbs.mono hnx.size)
              clear c0 c1 c2 c3 rc hbs q3 q4 q5 q6
              go_wp2
              go_roundw
              case rel => exact ⟨pp + 1, by omega, by go_num, HBN.out⟩
              case measure => simp [intOf]; omega
            · go_wp2
              go_roundw
              case rel => exact ⟨kk + 1, ii + 1, by omega, HSU.out.symm, by omega, by go_num, by go_num, hnx⟩
              case measure => simp [intOf]; omega
        · have tk' : ((R ii).toList == [116, 111, 111, 108]) = true := tk
          obtain ⟨hall, hend⟩ := HCR.out.2 tk
          have HAL : Hid (∀ p, p < l → toolB (R (ii + p)) = true) := hall
          have HEN : Hid (ii + l < len0 → toolB (R (ii + l)) = false) := hend
          clear tk hall hend
          go_wp2_with fail
          go_loop [10] (fun b => ∃ jj : Nat, ii + 1 ≤ jj ∧ jj ≤ ii + l ∧ b = .int .i64 jj) (fun b => ii + l - (intOf b).toNat)
          case atStart => exact ⟨ii + 1, by omega, by omega, by go_num⟩
          case round =>
            obtain ⟨jj, hj1, hj2, rfl⟩ := hrel
            by_cases hjl : jj < ii + l
            · have tj : ((R jj).toList == [116, 111, 111, 108]) = true := by
                have := HAL.out (jj - ii) (by omega)
                rw [show ii + (jj - ii) = jj by omega] at this
                exact this
              have rj := cell_later hnx (cell_later HBB.out (V0.out.2 jj (by omega)))
              go_wp2_with fail
              go_round
              case rel => exact ⟨jj + 1, by omega, by omega, by go_num⟩
              case measure => simp [intOf]; omega
            · obtain rfl : jj = ii + l := by omega
              by_cases hjn : ii + l < len0
              · have tj : ((R (ii + l)).toList == [116, 111, 111, 108]) = false := HEN.out hjn
                have rj := cell_later hnx (cell_later HBB.out (V0.out.2 (ii + l) hjn))
                go_wp2_with fail
                go_loopw [12] (fun p wx => ∃ pp : Nat, pp ≤ l ∧ p = .int .i64 pp ∧ Below wb.heap.size wb wx) (fun p _ => l - (intOf p).toNat)
                case atStart => exact ⟨0, by omega, rfl, hnx⟩
                case round =>
                  clear htc' rc rj hnx
                  obtain ⟨pp, hpl, rfl, hnx⟩ := hrel
                  by_cases hpp : pp < l
                  · have c0 : wr.cell? ⟨g, off + pp * 4, none⟩ = some (.string (R (ii + pp))) := cell_later hnx (HCE.out pp hpp 0 (by omega))
                    have c1 : wr.cell? ⟨g, off + pp * 4 + 1, none⟩ = some (.string (cont len1 S (ii + pp))) := cell_later hnx (HCE.out pp hpp 1 (by omega))
                    have c2 : wr.cell? ⟨g, off + pp * 4 + 2, none⟩ = some (.slice none 0 0) := cell_later hnx (HCE.out pp hpp 2 (by omega))
                    have c3 : wr.cell? ⟨g, off + pp * 4 + 3, none⟩ = some (.string ⟨#[]⟩) := cell_later hnx (HCE.out pp hpp 3 (by omega))
                    have rc : wr.cell? ⟨g0, o0 + (ii + pp), none⟩ = some (.string (R (ii + pp))) := cell_later hnx (cell_later HBB.out (V0.out.2 (ii + pp) (by omega)))
                    have HSV : Hid (SView wr a1 len1 g1 o1 S) := (V1.out.later HBB.out).later hnx
                    have q1 : (0 : Int) ≤ (pp : Int) := by omega
                    have q2 : (pp : Int) < (l : Int) := by omega
                    have q3 : (0 : Int) ≤ (ii : Int) + (pp : Int) := by omega
                    have q4 : (ii : Int) + (pp : Int) < (len0 : Int) := by omega
                    have q5 : IntKind.i64.wrap ((ii : Int) + (pp : Int)) = (ii : Int) + (pp : Int) := IntWalk.i64_in _ ⟨by omega, by omega⟩
                    have q6 : ((ii : Int) + (pp : Int)).toNat = ii + pp := by omega
                    go_wp2_with fail
                    go_region_held3 (fun wy => wy.cell? ⟨g, off + pp * 4, none⟩ = some (.string (R (ii + pp))) ∧ wy.cell? ⟨g, off + pp * 4 + 1, none⟩ = some (.string (cont len1 S (ii + pp))) ∧ wy.cell? ⟨g, off + pp * 4 + 2, none⟩ = some (.slice none 0 0) ∧ wy.cell? ⟨g, off + pp * 4 + 3, none⟩ = some (.string ⟨#[]⟩) ∧ wy.cell? ⟨g0, o0 + (ii + pp), none⟩ = some (.string (R (ii + pp)))) (first | go_keep | (refine ⟨cell_later hbs ?_, cell_later hbs ?_, cell_later hbs ?_, cell_later hbs ?_, cell_later hbs ?_⟩ <;> simp [*])) (first | (go_at_call 11; refine (content_int a1 len1 cap1 g1 o1 S _ (ii + pp) _ (by omega) s1 (by omega) (by exact HSV.out)).mono ?_; rintro e w' ⟨rfl, rfl⟩) | (go_at_call 10; refine (same_any _ _ _).mono ?_; rintro e w' ⟨rfl, hbs⟩))
                    have HBN : Hid (Below wb.heap.size wb w') := hnx.drew.trans (hbs.mono hnx.size)
                    clear c0 c1 c2 c3 rc hbs q3 q4 q5 q6
                    go_wp2
                    go_roundw
                    case rel => exact ⟨pp + 1, by omega, by go_num, HBN.out⟩
                    case measure => simp [intOf]; omega
                  · go_wp2
                    go_roundw
                    case rel => exact ⟨kk + 1, ii + l, by omega, HSU.out.symm, by omega, by go_num, by go_num, hnx⟩
                    case measure => simp [intOf]; omega
              · go_wp2_with fail
                go_loopw [12] (fun p wx => ∃ pp : Nat, pp ≤ l ∧ p = .int .i64 pp ∧ Below wb.heap.size wb wx) (fun p _ => l - (intOf p).toNat)
                case atStart => exact ⟨0, by omega, rfl, hnx⟩
                case round =>
                  clear htc' rc hnx
                  obtain ⟨pp, hpl, rfl, hnx⟩ := hrel
                  by_cases hpp : pp < l
                  · have c0 : wr.cell? ⟨g, off + pp * 4, none⟩ = some (.string (R (ii + pp))) := cell_later hnx (HCE.out pp hpp 0 (by omega))
                    have c1 : wr.cell? ⟨g, off + pp * 4 + 1, none⟩ = some (.string (cont len1 S (ii + pp))) := cell_later hnx (HCE.out pp hpp 1 (by omega))
                    have c2 : wr.cell? ⟨g, off + pp * 4 + 2, none⟩ = some (.slice none 0 0) := cell_later hnx (HCE.out pp hpp 2 (by omega))
                    have c3 : wr.cell? ⟨g, off + pp * 4 + 3, none⟩ = some (.string ⟨#[]⟩) := cell_later hnx (HCE.out pp hpp 3 (by omega))
                    have rc : wr.cell? ⟨g0, o0 + (ii + pp), none⟩ = some (.string (R (ii + pp))) := cell_later hnx (cell_later HBB.out (V0.out.2 (ii + pp) (by omega)))
                    have HSV : Hid (SView wr a1 len1 g1 o1 S) := (V1.out.later HBB.out).later hnx
                    have q1 : (0 : Int) ≤ (pp : Int) := by omega
                    have q2 : (pp : Int) < (l : Int) := by omega
                    have q3 : (0 : Int) ≤ (ii : Int) + (pp : Int) := by omega
                    have q4 : (ii : Int) + (pp : Int) < (len0 : Int) := by omega
                    have q5 : IntKind.i64.wrap ((ii : Int) + (pp : Int)) = (ii : Int) + (pp : Int) := IntWalk.i64_in _ ⟨by omega, by omega⟩
                    have q6 : ((ii : Int) + (pp : Int)).toNat = ii + pp := by omega
                    go_wp2_with fail
                    go_region_held3 (fun wy => wy.cell? ⟨g, off + pp * 4, none⟩ = some (.string (R (ii + pp))) ∧ wy.cell? ⟨g, off + pp * 4 + 1, none⟩ = some (.string (cont len1 S (ii + pp))) ∧ wy.cell? ⟨g, off + pp * 4 + 2, none⟩ = some (.slice none 0 0) ∧ wy.cell? ⟨g, off + pp * 4 + 3, none⟩ = some (.string ⟨#[]⟩) ∧ wy.cell? ⟨g0, o0 + (ii + pp), none⟩ = some (.string (R (ii + pp)))) (first | go_keep | (refine ⟨cell_later hbs ?_, cell_later hbs ?_, cell_later hbs ?_, cell_later hbs ?_, cell_later hbs ?_⟩ <;> simp [*])) (first | (go_at_call 11; refine (content_int a1 len1 cap1 g1 o1 S _ (ii + pp) _ (by omega) s1 (by omega) (by exact HSV.out)).mono ?_; rintro e w' ⟨rfl, rfl⟩) | (go_at_call 10; refine (same_any _ _ _).mono ?_; rintro e w' ⟨rfl, hbs⟩))
                    have HBN : Hid (Below wb.heap.size wb w') := hnx.drew.trans (hbs.mono hnx.size)
                    clear c0 c1 c2 c3 rc hbs q3 q4 q5 q6
                    go_wp2
                    go_roundw
                    case rel => exact ⟨pp + 1, by omega, by go_num, HBN.out⟩
                    case measure => simp [intOf]; omega
                  · go_wp2
                    go_roundw
                    case rel => exact ⟨kk + 1, ii + l, by omega, HSU.out.symm, by omega, by go_num, by go_num, hnx⟩
                    case measure => simp [intOf]; omega
      · have hfin : kk = ls.length := cut_end HC.out hkk (by rw [← hii.out]; exact hlt)
        have HB2 : Hid (Below w.heap.size w wr) := HBB.out.trans (hnx.mono HBB.out.size)
        have hbe : ((kk : Int) == (ls.length : Int)) = true := by rw [beq_iff_eq]; omega
        have HOF : Hid (∃ gg cc, v = .slice gg ls.length cc) := by
          rcases HO.out.2 with ⟨h1, h2⟩ | ⟨g, cap, cur, h, _⟩
          · exact ⟨none, 0, by rw [h1, h2]⟩
          · exact ⟨_, _, h⟩
        obtain ⟨gg, cc, rfl⟩ := HOF.out
        clear hfin
        go_wp2_with fail
        go_ret
        exact ⟨rfl, HB2.out⟩
end Go.Proofs.Qxb6601072aMods.trn
