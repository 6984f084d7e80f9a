import Derived.Test.Qxb6601072aModsTrnE
set_option linter.unusedVariables false
namespace Go.Proofs.Qxb6601072aMods.trn
open Go.RowKit
attribute [local go_sem ↓] Go.wp_at_zero Go.wp_at_succ

set_option maxHeartbeats 2000000 in
set_option maxRecDepth 100000 in
theorem walk2 (a0 : Option Addr) (len0 cap0 : Nat) (z0 : List ByteArray) (a1 : Option Addr) (len1 cap1 : Nat) (z1 : List ByteArray) (w : World) (w0 : IsSRow w a0 len0 cap0 z0) (w1 : IsSRow w a1 len1 cap1 z1) :
    Calls Trym.prog 4 #[.slice a0 len0 cap0, .slice a1 len1 cap1] w fun e w' => e = .returned (.bool true) ∧ Below w.heap.size w w' := by
  obtain ⟨l0, g0, o0, R, v0⟩ := sview_of_row w0
  obtain ⟨l1, g1, o1, S, v1⟩ := sview_of_row w1
  clear w0 w1
  have V0 : Hid (SView w a0 len0 g0 o0 R) := v0
  have V1 : Hid (SView w a1 len1 g1 o1 S) := v1
  clear v0 v1
  go_enter Trym.func4, Trym.ntmps4
  go_wp2_with fail
  refine (bytes12 a0 a1 len0 cap0 g0 o0 len1 cap1 g1 o1 R S w l0 l1 V0.out V1.out).mono ?_
  rintro e w' ⟨⟨b, rfl⟩, rfl⟩
  cases b
  · go_wp2_with fail
    go_ret
    exact ⟨rfl, Below.refl _ _⟩
  go_wp2_with fail
  refine (ok_any a0 a1 len0 cap0 g0 o0 len1 cap1 g1 o1 R S w l0 l1 V0.out V1.out).mono ?_
  rintro e w' ⟨⟨b, rfl, hb⟩, rfl⟩
  cases b
  · go_wp2_with fail
    go_ret
    exact ⟨rfl, Below.refl _ _⟩
  obtain ⟨s0, s1⟩ := hb rfl
  clear hb
  go_wp2_with fail
  refine (build_any a0 a1 len0 cap0 g0 o0 len1 cap1 g1 o1 R S w s0 s1 V0.out V1.out).mono ?_
  rintro e wa ⟨rfl, hms, hsz, hba⟩
  have HMS : Hid (Msgs R (cont len1 S) wa w.heap.size len0) := hms
  clear hms
  go_wp2_with fail
  refine (turns_any w.heap.size len0 R (cont len1 S) wa s0 hsz HMS.out).mono ?_
  rintro e wb ⟨v, ls, vs, rfl, hown, hcut, htr, hbb0, hnil⟩
  have HO : Hid (wb.ownsRow wa.heap.size 24 1 v ls.length vs) := hown
  have HC : Hid (Cut (fun i => toolB (R i)) ls len0) := hcut
  have HT : Hid (Trns R (cont len1 S) wb wa.heap.size w.heap.size ls vs) := htr
  have HMB : Hid (Msgs R (cont len1 S) wb w.heap.size len0) := HMS.out.later hsz hbb0
  have HBB : Hid (Below w.heap.size w wb) := hba.trans (hbb0.mono hba.size)
  have HN : Hid (len0 = 0 → v = .slice none 0 0) := hnil
  have hll : ls.length ≤ len0 := cut_len hcut
  clear hown hcut htr hbb0 hnil
  obtain ⟨gg, cc, hvv⟩ : ∃ gg cc, v = .slice gg ls.length cc := by
    rcases HO.out.2 with ⟨h1, h2⟩ | ⟨g, cap, cur, h, _⟩
    · exact ⟨none, 0, by rw [h1, h2]⟩
    · exact ⟨_, _, h⟩
  subst hvv
  go_wp2_with fail
  go_loopw [8, 9, 10] (fun a b c wr => ∃ (kk ii : Nat) (tb : Bool), kk ≤ ls.length ∧ Hid (ii = offs ls kk) ∧ ii ≤ len0 ∧ a = .int .i64 ii ∧ b = .bool tb ∧ c = .int .i64 kk ∧ Hid (0 < kk → tb = toolB (R (ii - 1))) ∧ Below wb.heap.size wb wr) (fun _ _ c _ => ls.length - (intOf c).toNat)
  case atStart => exact ⟨0, 0, false, by omega, offs_zero ls, by omega, rfl, rfl, rfl, fun h => by omega, Below.refl _ _⟩
  case round =>
    obtain ⟨kk, ii, tb, hkk, hii, hin, rfl, rfl, rfl, htb, hnx⟩ := hrel
    by_cases hk : kk < ls.length
    · have hlt : ii < len0 := by
        have := cut_le HC.out kk hk
        have := HC.out.pos kk hk
        have := hii.out
        omega
      obtain rfl := V0.out.1 (by omega)
      obtain ⟨gt, capt, hv, hgb, hgl⟩ := HO.out.form (by omega)
      obtain ⟨rfl, rfl⟩ : gg = some ⟨gt, 0, none⟩ ∧ cc = capt := by simpa using hv
      have hcl := cut_le HC.out kk hk
      rw [← hii.out] at hcl
      have hps := HC.out.pos kk hk
      obtain ⟨g, off, cap, hvk, hcell⟩ := turn_read (HT.out.each kk hk) HMB.out (by rw [← hii.out]; exact hcl)
      have HSU : Hid (offs ls (kk + 1) = ii + ls.getD kk 0) := by have := offs_succ ls kk hk; rw [← hii.out] at this; exact this
      have HTL : Hid (1 < ls.getD kk 0 → ∀ p, p < ls.getD kk 0 → toolB (R (ii + p)) = true) := by have := HC.out.tools kk hk; rw [← hii.out] at this; exact this
      have HBR : Hid (0 < kk → ¬ (toolB (R (ii - 1)) = true ∧ toolB (R ii) = true)) := fun h => by have := HC.out.brk kk h hk; rw [← hii.out] at this; exact this
      rw [← hii.out] at hcell
      have htc : wb.cell? ⟨gt, kk, none⟩ = some (.slice (some ⟨g, off, none⟩) (ls.getD kk 0) cap) := by
        rw [HO.out.cellAt kk (by omega)]
        have := HT.out.len
        rw [← hvk]
        simp [List.getD, show kk < vs.length by omega]
      generalize ls.getD kk 0 = l at hcl hps hcell htc HSU hvk HTL
      have HCE : Hid _ := hcell
      have htc' := cell_later hnx htc
      have hr0 : wr.cell? ⟨g, off, none⟩ = some (.string (R ii)) := by
        have := cell_later hnx (hcell 0 (by omega) 0 (by omega))
        simpa using this
      have hl0 : ((l : Int) == 0) = false := by rw [beq_eq_false_iff_ne]; omega
      have hl2 : (0 : Int) < (l : Int) := by omega
      clear hcell htc hvk hv
      rcases Nat.eq_zero_or_pos kk with h0 | h0
      · have h1 : kk ≤ 0 := by omega
        clear h0
        go_wp2_with fail
        go_loopw [8, 12] (fun a p wx => ∃ pp : Nat, pp ≤ l ∧ a = .int .i64 ((ii : Int) + (pp : Int)) ∧ p = .int .i64 pp ∧ Below wb.heap.size wb wx) (fun _ p _ => l - (intOf p).toNat)
        case atStart => exact ⟨0, by omega, by go_num, rfl, hnx⟩
        case round =>
          clear htc' hr0 hnx
          obtain ⟨pp, hpl, rfl, rfl, hnx⟩ := hrel
          by_cases hpp : pp < l
          · have c0 : wr.cell? ⟨g, off + pp * 4, none⟩ = some (.string (R (ii + pp))) := cell_later hnx (HCE.out pp hpp 0 (by omega))
            have c1 : wr.cell? ⟨g, off + pp * 4 + 1, none⟩ = some (.string (cont len1 S (ii + pp))) := cell_later hnx (HCE.out pp hpp 1 (by omega))
            have c2 : wr.cell? ⟨g, off + pp * 4 + 2, none⟩ = some (.slice none 0 0) := cell_later hnx (HCE.out pp hpp 2 (by omega))
            have c3 : wr.cell? ⟨g, off + pp * 4 + 3, none⟩ = some (.string ⟨#[]⟩) := cell_later hnx (HCE.out pp hpp 3 (by omega))
            have rc : wr.cell? ⟨g0, o0 + (ii + pp), none⟩ = some (.string (R (ii + pp))) := cell_later hnx (cell_later HBB.out (V0.out.2 (ii + pp) (by omega)))
            have HSV : Hid (SView wr a1 len1 g1 o1 S) := (V1.out.later HBB.out).later hnx
            have q1 : (0 : Int) ≤ (pp : Int) := by omega
            have q2 : (pp : Int) < (l : Int) := by omega
            have q3 : (0 : Int) ≤ (ii : Int) + (pp : Int) := by omega
            have q4 : (ii : Int) + (pp : Int) < (len0 : Int) := by omega
            have q6 : ((ii : Int) + (pp : Int)).toNat = ii + pp := by omega
            go_wp2_with fail
            go_region_held3 (fun wy => wy.cell? ⟨g, off + pp * 4, none⟩ = some (.string (R (ii + pp))) ∧ wy.cell? ⟨g, off + pp * 4 + 1, none⟩ = some (.string (cont len1 S (ii + pp))) ∧ wy.cell? ⟨g, off + pp * 4 + 2, none⟩ = some (.slice none 0 0) ∧ wy.cell? ⟨g, off + pp * 4 + 3, none⟩ = some (.string ⟨#[]⟩) ∧ wy.cell? ⟨g0, o0 + (ii + pp), none⟩ = some (.string (R (ii + pp)))) (first | go_keep | (refine ⟨cell_later hbs ?_, cell_later hbs ?_, cell_later hbs ?_, cell_later hbs ?_, cell_later hbs ?_⟩ <;> simp [*])) (first | (go_at_call 11; refine (content_int a1 len1 cap1 g1 o1 S _ (ii + pp) _ (by omega) s1 (by omega) (by exact HSV.out)).mono ?_; rintro e w' ⟨rfl, rfl⟩) | (go_at_call 10; refine (same_any _ _ _).mono ?_; rintro e w' ⟨rfl, hbs⟩))
            have HBN : Hid (Below wb.heap.size wb w') := hnx.drew.trans (hbs.mono hnx.size)
            clear c0 c1 c2 c3 rc hbs q3 q4 q6
            have d0 : w'.cell? ⟨g, off + pp * 4, none⟩ = some (.string (R (ii + pp))) := cell_later HBN.out (HCE.out pp hpp 0 (by omega))
            by_cases hl1 : 1 < l
            · have tj : ((R (ii + pp)).toList == [116, 111, 111, 108]) = true := HTL.out hl1 pp hpp
              go_wp2_with fail
              go_roundw
              case rel => exact ⟨pp + 1, by omega, by go_num, by go_num, HBN.out⟩
              case measure => simp [intOf]; omega
            · go_wp2_with fail
              go_roundw
              case rel => exact ⟨pp + 1, by omega, by go_num, by go_num, HBN.out⟩
              case measure => simp [intOf]; omega
          · obtain rfl : pp = l := by omega
            have d0 : wr.cell? ⟨g, off + (pp - 1) * 4, none⟩ = some (.string (R (ii + (pp - 1)))) := cell_later hnx (HCE.out (pp - 1) (by omega) 0 (by omega))
            go_wp2_with fail
            go_roundw
            case rel => exact ⟨kk + 1, ii + pp, _, by omega, HSU.out.symm, by omega, by go_num, rfl, by go_num, fun _ => by rw [show ii + pp - 1 = ii + (pp - 1) by omega]; rfl, hnx⟩
            case measure => simp [intOf]; omega
      · have HTB : Hid (tb = toolB (R (ii - 1))) := htb.out h0
        cases tb
        · go_wp2_with fail
          go_loopw [8, 12] (fun a p wx => ∃ pp : Nat, pp ≤ l ∧ a = .int .i64 ((ii : Int) + (pp : Int)) ∧ p = .int .i64 pp ∧ Below wb.heap.size wb wx) (fun _ p _ => l - (intOf p).toNat)
          case atStart => exact ⟨0, by omega, by go_num, rfl, hnx⟩
          case round =>
            clear htc' hr0 hnx
            obtain ⟨pp, hpl, rfl, rfl, hnx⟩ := hrel
            by_cases hpp : pp < l
            · have c0 : wr.cell? ⟨g, off + pp * 4, none⟩ = some (.string (R (ii + pp))) := cell_later hnx (HCE.out pp hpp 0 (by omega))
              have c1 : wr.cell? ⟨g, off + pp * 4 + 1, none⟩ = some (.string (cont len1 S (ii + pp))) := cell_later hnx (HCE.out pp hpp 1 (by omega))
              have c2 : wr.cell? ⟨g, off + pp * 4 + 2, none⟩ = some (.slice none 0 0) := cell_later hnx (HCE.out pp hpp 2 (by omega))
              have c3 : wr.cell? ⟨g, off + pp * 4 + 3, none⟩ = some (.string ⟨#[]⟩) := cell_later hnx (HCE.out pp hpp 3 (by omega))
              have rc : wr.cell? ⟨g0, o0 + (ii + pp), none⟩ = some (.string (R (ii + pp))) := cell_later hnx (cell_later HBB.out (V0.out.2 (ii + pp) (by omega)))
              have HSV : Hid (SView wr a1 len1 g1 o1 S) := (V1.out.later HBB.out).later hnx
              have q1 : (0 : Int) ≤ (pp : Int) := by omega
              have q2 : (pp : Int) < (l : Int) := by omega
              have q3 : (0 : Int) ≤ (ii : Int) + (pp : Int) := by omega
              have q4 : (ii : Int) + (pp : Int) < (len0 : Int) := by omega
              have q6 : ((ii : Int) + (pp : Int)).toNat = ii + pp := by omega
              go_wp2_with fail
              go_region_held3 (fun wy => wy.cell? ⟨g, off + pp * 4, none⟩ = some (.string (R (ii + pp))) ∧ wy.cell? ⟨g, off + pp * 4 + 1, none⟩ = some (.string (cont len1 S (ii + pp))) ∧ wy.cell? ⟨g, off + pp * 4 + 2, none⟩ = some (.slice none 0 0) ∧ wy.cell? ⟨g, off + pp * 4 + 3, none⟩ = some (.string ⟨#[]⟩) ∧ wy.cell? ⟨g0, o0 + (ii + pp), none⟩ = some (.string (R (ii + pp)))) (first | go_keep | (refine ⟨cell_later hbs ?_, cell_later hbs ?_, cell_later hbs ?_, cell_later hbs ?_, cell_later hbs ?_⟩ <;> simp [*])) (first | (go_at_call 11; refine (content_int a1 len1 cap1 g1 o1 S _ (ii + pp) _ (by omega) s1 (by omega) (by exact HSV.out)).mono ?_; rintro e w' ⟨rfl, rfl⟩) | (go_at_call 10; refine (same_any _ _ _).mono ?_; rintro e w' ⟨rfl, hbs⟩))
              have HBN : Hid (Below wb.heap.size wb w') := hnx.drew.trans (hbs.mono hnx.size)
              clear c0 c1 c2 c3 rc hbs q3 q4 q6
              have d0 : w'.cell? ⟨g, off + pp * 4, none⟩ = some (.string (R (ii + pp))) := cell_later HBN.out (HCE.out pp hpp 0 (by omega))
              by_cases hl1 : 1 < l
              · have tj : ((R (ii + pp)).toList == [116, 111, 111, 108]) = true := HTL.out hl1 pp hpp
                go_wp2_with fail
                go_roundw
                case rel => exact ⟨pp + 1, by omega, by go_num, by go_num, HBN.out⟩
                case measure => simp [intOf]; omega
              · go_wp2_with fail
                go_roundw
                case rel => exact ⟨pp + 1, by omega, by go_num, by go_num, HBN.out⟩
                case measure => simp [intOf]; omega
            · obtain rfl : pp = l := by omega
              have d0 : wr.cell? ⟨g, off + (pp - 1) * 4, none⟩ = some (.string (R (ii + (pp - 1)))) := cell_later hnx (HCE.out (pp - 1) (by omega) 0 (by omega))
              go_wp2_with fail
              go_roundw
              case rel => exact ⟨kk + 1, ii + pp, _, by omega, HSU.out.symm, by omega, by go_num, rfl, by go_num, fun _ => by rw [show ii + pp - 1 = ii + (pp - 1) by omega]; rfl, hnx⟩
              case measure => simp [intOf]; omega
        · have tz : ((R ii).toList == [116, 111, 111, 108]) = false := by
            have h1 := HBR.out h0
            cases hc : toolB (R ii)
            · exact hc
            · exact absurd ⟨HTB.out.symm, hc⟩ h1
          go_wp2_with fail
          go_loopw [8, 12] (fun a p wx => ∃ pp : Nat, pp ≤ l ∧ a = .int .i64 ((ii : Int) + (pp : Int)) ∧ p = .int .i64 pp ∧ Below wb.heap.size wb wx) (fun _ p _ => l - (intOf p).toNat)
          case atStart => exact ⟨0, by omega, by go_num, rfl, hnx⟩
          case round =>
            clear htc' hr0 hnx
            obtain ⟨pp, hpl, rfl, rfl, hnx⟩ := hrel
            by_cases hpp : pp < l
            · have c0 : wr.cell? ⟨g, off + pp * 4, none⟩ = some (.string (R (ii + pp))) := cell_later hnx (HCE.out pp hpp 0 (by omega))
              have c1 : wr.cell? ⟨g, off + pp * 4 + 1, none⟩ = some (.string (cont len1 S (ii + pp))) := cell_later hnx (HCE.out pp hpp 1 (by omega))
              have c2 : wr.cell? ⟨g, off + pp * 4 + 2, none⟩ = some (.slice none 0 0) := cell_later hnx (HCE.out pp hpp 2 (by omega))
              have c3 : wr.cell? ⟨g, off + pp * 4 + 3, none⟩ = some (.string ⟨#[]⟩) := cell_later hnx (HCE.out pp hpp 3 (by omega))
              have rc : wr.cell? ⟨g0, o0 + (ii + pp), none⟩ = some (.string (R (ii + pp))) := cell_later hnx (cell_later HBB.out (V0.out.2 (ii + pp) (by omega)))
              have HSV : Hid (SView wr a1 len1 g1 o1 S) := (V1.out.later HBB.out).later hnx
              have q1 : (0 : Int) ≤ (pp : Int) := by omega
              have q2 : (pp : Int) < (l : Int) := by omega
              have q3 : (0 : Int) ≤ (ii : Int) + (pp : Int) := by omega
              have q4 : (ii : Int) + (pp : Int) < (len0 : Int) := by omega
              have q6 : ((ii : Int) + (pp : Int)).toNat = ii + pp := by omega
              go_wp2_with fail
              go_region_held3 (fun wy => wy.cell? ⟨g, off + pp * 4, none⟩ = some (.string (R (ii + pp))) ∧ wy.cell? ⟨g, off + pp * 4 + 1, none⟩ = some (.string (cont len1 S (ii + pp))) ∧ wy.cell? ⟨g, off + pp * 4 + 2, none⟩ = some (.slice none 0 0) ∧ wy.cell? ⟨g, off + pp * 4 + 3, none⟩ = some (.string ⟨#[]⟩) ∧ wy.cell? ⟨g0, o0 + (ii + pp), none⟩ = some (.string (R (ii + pp)))) (first | go_keep | (refine ⟨cell_later hbs ?_, cell_later hbs ?_, cell_later hbs ?_, cell_later hbs ?_, cell_later hbs ?_⟩ <;> simp [*])) (first | (go_at_call 11; refine (content_int a1 len1 cap1 g1 o1 S _ (ii + pp) _ (by omega) s1 (by omega) (by exact HSV.out)).mono ?_; rintro e w' ⟨rfl, rfl⟩) | (go_at_call 10; refine (same_any _ _ _).mono ?_; rintro e w' ⟨rfl, hbs⟩))
              have HBN : Hid (Below wb.heap.size wb w') := hnx.drew.trans (hbs.mono hnx.size)
              clear c0 c1 c2 c3 rc hbs q3 q4 q6
              have d0 : w'.cell? ⟨g, off + pp * 4, none⟩ = some (.string (R (ii + pp))) := cell_later HBN.out (HCE.out pp hpp 0 (by omega))
              by_cases hl1 : 1 < l
              · have tj : ((R (ii + pp)).toList == [116, 111, 111, 108]) = true := HTL.out hl1 pp hpp
                go_wp2_with fail
                go_roundw
                case rel => exact ⟨pp + 1, by omega, by go_num, by go_num, HBN.out⟩
                case measure => simp [intOf]; omega
              · go_wp2_with fail
                go_roundw
                case rel => exact ⟨pp + 1, by omega, by go_num, by go_num, HBN.out⟩
                case measure => simp [intOf]; omega
            · obtain rfl : pp = l := by omega
              have d0 : wr.cell? ⟨g, off + (pp - 1) * 4, none⟩ = some (.string (R (ii + (pp - 1)))) := cell_later hnx (HCE.out (pp - 1) (by omega) 0 (by omega))
              go_wp2_with fail
              go_roundw
              case rel => exact ⟨kk + 1, ii + pp, _, by omega, HSU.out.symm, by omega, by go_num, rfl, by go_num, fun _ => by rw [show ii + pp - 1 = ii + (pp - 1) by omega]; rfl, hnx⟩
              case measure => simp [intOf]; omega
    · obtain rfl : kk = ls.length := by omega
      have hfin : ii = len0 := by have := hii.out; rw [offs_all, HC.out.sum] at this; exact this
      have HB2 : Hid (Below w.heap.size w wr) := HBB.out.trans (hnx.mono HBB.out.size)
      have hbe : ((ii : Int) == (len0 : Int)) = true := by rw [beq_iff_eq]; omega
      clear hfin
      go_wp2_with fail
      go_ret
      exact ⟨rfl, HB2.out⟩
end Go.Proofs.Qxb6601072aMods.trn
