import Derived.Test.Qxb6601072aModsTrnE
set_option linter.unusedVariables false
namespace Go.Proofs.Qxb6601072aMods.trn
open Go.RowKit
attribute [local go_sem ↓] Go.wp_at_zero Go.wp_at_succ

def zzs : ByteArray := ⟨#[122, 122, 45, 101, 120, 116, 114, 97]⟩
/-- The message that the caller appends. -/
def extra : List Value := [.string zzs, .string zzs, .slice none 0 0, .string ⟨#[]⟩]
theorem extra_one : ∀ u ∈ extra, u.oneCell' = true := by
  intro u hu
  simp [extra] at hu
  rcases hu with rfl | rfl | rfl | rfl <;> rfl
theorem mcs_cells {R C : Nat → ByteArray} {w : World} {g off s l : Nat} (h : ∀ p, p < l → ∀ f, f < 4 → w.cell? ⟨g, off + p * 4 + f, none⟩ = (mc R C (s + p))[f]?) :
    ∀ j u, (mcs R C s l)[j]? = some u → w.cell? ⟨g, off + j, none⟩ = some u := by
  intro j u hu
  have hj : j < 4 * l := by have := (List.getElem?_eq_some_iff.1 hu).1; rwa [mcs_len] at this
  have e : off + j = off + j / 4 * 4 + j % 4 := by omega
  have e2 : j = j / 4 * 4 + j % 4 := by omega
  rw [e, h (j / 4) (by omega) (j % 4) (by omega), ← mcs_get R C s l (j / 4) (j % 4) (by omega) (by omega), ← e2]
  exact hu
/-- What is owned up to a length is owned up to a lesser one. -/
theorem own_less {w : World} {B e size g n m cap : Nat} {xs ys : List Value} (h : w.ownsRow B e size (.slice (some ⟨g, 0, none⟩) (n + m) cap) (n + m) (xs ++ ys)) (hx : xs.length = n * size) : w.ownsRow B e size (.slice (some ⟨g, 0, none⟩) n cap) n xs := by
  refine ⟨hx, .inr ?_⟩
  rcases h.2 with ⟨h', _⟩ | ⟨g', cap', cur, h', hb, hg, hnc, hcm, hcs, htake⟩
  · cases h'
  · obtain ⟨rfl, rfl⟩ : g = g' ∧ cap = cap' := by simpa using h'
    refine ⟨g, cap, cur, rfl, hb, hg, by omega, hcm, hcs, ?_⟩
    have hle : n * size ≤ (n + m) * size := Nat.mul_le_mul_right _ (by omega)
    have h2 := congrArg (List.take (n * size)) htake
    rw [List.take_take, Nat.min_eq_left hle] at h2
    rw [h2, ← hx]
    simp
/-- A write into turn k's own spare room, or into new blocks: the turns read as they did. -/
theorem Trns.spare {R C : Nat → ByteArray} {w w' : World} {B gm k g cap : Nat} {ls : List Nat} {vs : List Value} (h : Trns R C w B gm ls vs) (hk : k < ls.length) (hv : vs.getD k undef = .slice (some ⟨g, 0, none⟩) (ls.getD k 0) cap) (hgB : B ≤ g) (hgm : gm < B)
    (hg : w.grownBy w' (some g)) (ho : w'.ownsRow B 31 4 (.slice (some ⟨g, 0, none⟩) (ls.getD k 0) cap) (ls.getD k 0) (mcs R C (offs ls k) (ls.getD k 0))) (hl : 0 < ls.getD k 0) : Trns R C w' B gm ls vs := by
  refine ⟨h.len, fun j hj => ?_, h.sep⟩
  by_cases e : j = k
  · subst e
    rw [hv]
    exact .inr ⟨ho, hl⟩
  · refine (h.each j hj).kept hg ?_ hgm
    by_cases c : (vs.getD j undef).ownBlock = some g
    · have := h.sep j k hj hk e (by rw [c, hv]; rfl)
      exact .inr this
    · exact .inl c
theorem holds_at {wr : World} {o : Obj} {g off : Nat} {L : List Value} (h : ∀ j u, L[j]? = some u → wr.cell? ⟨g, off + j, none⟩ = some u) : ∀ b, some (⟨g, off, none⟩ : Addr) = some b → ∀ j u, L[j]? = some u → (wr.alloc o).cell? (b.add j) = some u := by
  intro b hb j u hu
  obtain rfl := Option.some.inj hb
  rw [Addr.add_lit]
  exact cell_later ((Below.refl _ _).alloc (Nat.le_refl _) o) (h j u hu)
theorem own_gt_ne {w : World} {B g cap l n : Nat} {v : Value} {xs ys : List Value} (h : w.ownsRow B 31 4 (.slice (some ⟨g, 0, none⟩) l cap) l xs) (hl : 0 < l) (h' : w.ownsRow B 24 1 v n ys) : v.ownBlock ≠ some g := fun e => own_ne h hl h' (by rw [e]; rfl)

set_option maxHeartbeats 2000000 in
set_option maxRecDepth 100000 in
theorem walk3 (a0 : Option Addr) (len0 cap0 : Nat) (z0 : List ByteArray) (a1 : Option Addr) (len1 cap1 : Nat) (z1 : List ByteArray) (w : World) (w0 : IsSRow w a0 len0 cap0 z0) (w1 : IsSRow w a1 len1 cap1 z1) :
    Calls Trym.prog 5 #[.slice a0 len0 cap0, .slice a1 len1 cap1] w fun e w' => e = .returned (.bool true) ∧ Below w.heap.size w w' := by
  obtain ⟨l0, g0, o0, R, v0⟩ := sview_of_row w0
  obtain ⟨l1, g1, o1, S, v1⟩ := sview_of_row w1
  clear w0 w1
  have V0 : Hid (SView w a0 len0 g0 o0 R) := v0
  have V1 : Hid (SView w a1 len1 g1 o1 S) := v1
  clear v0 v1
  go_enter Trym.func5, Trym.ntmps5
  go_wp2_with fail
  refine (bytes13 a0 a1 len0 cap0 g0 o0 len1 cap1 g1 o1 R S w l0 l1 V0.out V1.out).mono ?_
  rintro e w' ⟨⟨b, rfl⟩, rfl⟩
  cases b
  · go_wp2_with fail
    go_ret
    exact ⟨rfl, Below.refl _ _⟩
  go_wp2_with fail
  refine (ok_any a0 a1 len0 cap0 g0 o0 len1 cap1 g1 o1 R S w l0 l1 V0.out V1.out).mono ?_
  rintro e w' ⟨⟨b, rfl, hb⟩, rfl⟩
  cases b
  · go_wp2_with fail
    go_ret
    exact ⟨rfl, Below.refl _ _⟩
  obtain ⟨s0, s1⟩ := hb rfl
  clear hb
  go_wp2_with fail
  refine (build_any a0 a1 len0 cap0 g0 o0 len1 cap1 g1 o1 R S w s0 s1 V0.out V1.out).mono ?_
  rintro e wa ⟨rfl, hms, hsz, hba⟩
  have HMS : Hid (Msgs R (cont len1 S) wa w.heap.size len0) := hms
  clear hms
  go_wp2_with fail
  refine (turns_any w.heap.size len0 R (cont len1 S) wa s0 hsz HMS.out).mono ?_
  rintro e wb ⟨v, ls, vs, rfl, hown, hcut, htr, hbb0, hnil⟩
  have HO : Hid (wb.ownsRow wa.heap.size 24 1 v ls.length vs) := hown
  have HC : Hid (Cut (fun i => toolB (R i)) ls len0) := hcut
  have HT : Hid (Trns R (cont len1 S) wb wa.heap.size w.heap.size ls vs) := htr
  have HMS' : Hid (Msgs R (cont len1 S) wa w.heap.size len0) := HMS
  have HBB : Hid (Below wa.heap.size wa wb) := hbb0
  have HBA : Hid (Below w.heap.size w wa) := hba
  have hll : ls.length ≤ len0 := cut_len hcut
  obtain ⟨gg, cc, hvv⟩ : ∃ gg cc, v = .slice gg ls.length cc := by
    rcases HO.out.2 with ⟨h1, h2⟩ | ⟨g, cap, cur, h, _⟩
    · exact ⟨none, 0, by rw [h1, h2]⟩
    · exact ⟨_, _, h⟩
  subst hvv
  obtain ⟨j0, hj, hy0, hy1, hy2⟩ := info_parts info31
  clear hown hcut htr hbb0 hnil hba
  go_wp2_with fail
  go_loopw [7] (fun a wr => ∃ kk : Nat, kk ≤ ls.length ∧ a = .int .i64 kk ∧ Hid (Trns R (cont len1 S) wr wa.heap.size w.heap.size ls vs) ∧ Hid (wr.ownsRow wa.heap.size 24 1 (.slice gg ls.length cc) ls.length vs) ∧ Hid (Below wa.heap.size wa wr)) (fun a _ => ls.length - (intOf a).toNat)
  case atStart => exact ⟨0, by omega, rfl, HT, HO, HBB⟩
  case round =>
    clear HT HO HBB
    obtain ⟨kk, hkk, rfl, HT, HO, HBB⟩ := hrel
    by_cases hk : kk < ls.length
    · have hcl := cut_le HC.out kk hk
      have hps := HC.out.pos kk hk
      have HMR : Hid (Msgs R (cont len1 S) wr w.heap.size len0) := HMS.out.later hsz HBB.out
      obtain ⟨gt, capt, hv, hgb, hgl⟩ := HO.out.form (by omega)
      obtain ⟨rfl, rfl⟩ : gg = some ⟨gt, 0, none⟩ ∧ cc = capt := by simpa using hv
      have HTU : Hid (Turn R (cont len1 S) wr wa.heap.size w.heap.size (vs.getD kk undef) (offs ls kk) (ls.getD kk 0)) := HT.out.each kk hk
      obtain ⟨g, off, cap, hvk, hcell⟩ := turn_read HTU.out HMR.out hcl
      have htc : wr.cell? ⟨gt, kk, none⟩ = some (.slice (some ⟨g, off, none⟩) (ls.getD kk 0) cap) := by
        rw [HO.out.cellAt kk (by omega), ← hvk]
        have := HT.out.len
        simp [List.getD, show kk < vs.length by omega]
      have HCE : Hid _ := hcell
      have HVK : Hid (vs.getD kk undef = .slice (some ⟨g, off, none⟩) (ls.getD kk 0) cap) := hvk
      have HOL : Hid (∀ j u, (mcs R (cont len1 S) (offs ls kk) (ls.getD kk 0))[j]? = some u → wr.cell? ⟨g, off + j, none⟩ = some u) := mcs_cells hcell
      have HLE : Hid (offs ls kk + ls.getD kk 0 ≤ len0) := hcl
      obtain ⟨l, hld⟩ : ∃ l, ls.getD kk 0 = l := ⟨_, rfl⟩
      have HLD : Hid (ls.getD kk 0 = l) := hld
      rw [hld] at htc hps
      have hl65 : l ≤ 65536 := by rw [hld] at hcl; omega
      clear hcell hvk hv hcl hld
      by_cases hroom : l < cap
      · obtain ⟨hown, h0⟩ : wr.ownsRow wa.heap.size 31 4 (vs.getD kk undef) (ls.getD kk 0) (mcs R (cont len1 S) (offs ls kk) (ls.getD kk 0)) ∧ 0 < ls.getD kk 0 := by
          rcases HTU.out with ⟨h1, h2⟩ | h
          · rw [HVK.out] at h1
            have h3 := HLD.out
            simp at h1
            omega
          · exact h
        obtain ⟨g', cap', hf, hgB, hgl2⟩ := hown.form h0
        rw [HVK.out] at hf
        obtain ⟨⟨rfl, rfl⟩, rfl⟩ : (g = g' ∧ off = 0) ∧ cap = cap' := by simpa using hf
        rw [HVK.out, HLD.out] at hown
        have HOWN : Hid (wr.ownsRow wa.heap.size 31 4 (.slice (some ⟨g, 0, none⟩) l cap) l (mcs R (cont len1 S) (offs ls kk) l)) := hown
        clear hown hf
        go_wp2_with (at_builtin; refine wpList_append_fits _ rfl (.tmp 43) (.tmp 45) 24 rfl wa.heap.size 31 j0 4 Trym.underlying24 hj hy1 g l cap _ rfl (HOWN.out.alloc _) ⟨wr.heap.size, 0, none⟩ 1 1 extra rfl rfl (by exact World.news_of_block (heap_alloc_new wr _)) extra_one (by omega) ?_; intro w1 hown1 hgrow1; have hx0 : w1.cell? ⟨g, l * 4, none⟩ = some (.string ⟨#[122, 122, 45, 101, 120, 116, 114, 97]⟩) := by rw [hown1.cellAt (l * 4) (by omega), List.getElem?_append_right (by rw [mcs_len]; omega), mcs_len, show l * 4 - 4 * l = 0 by omega]; rfl)
        have HT1 : Hid (Trns R (cont len1 S) w1 wa.heap.size w.heap.size ls vs) := (HT.out.kept HO.out (World.grownBy_alloc wr _ none) (.inl rfl) hsz).spare hk HVK.out hgB hsz hgrow1 (by rw [HLD.out]; exact own_less hown1 (by rw [mcs_len]; omega)) (by rw [HLD.out]; omega)
        have HO1 : Hid (w1.ownsRow wa.heap.size 24 1 (.slice (some ⟨gt, 0, none⟩) ls.length cc) ls.length vs) := (HO.out.alloc _).kept hgrow1 (.inr (own_gt_ne HOWN.out (by omega) HO.out))
        have HB1 : Hid (Below wa.heap.size wa w1) := (HBB.out.alloc HBB.out.size _).grown hgrow1 (by simp; have := HBB.out.size; omega) (fun k hk => by cases hk; exact hgB)
        go_roundw
        case rel => exact ⟨kk + 1, by omega, by go_num, HT1, HO1, HB1⟩
        case measure => simp [intOf]; omega
      · have HOL' : Hid (∀ j u, (mcs R (cont len1 S) (offs ls kk) l)[j]? = some u → wr.cell? ⟨g, off + j, none⟩ = some u) := by have := HOL.out; rw [HLD.out] at this; exact this
        go_wp2_with (at_builtin; refine wpList_append_grows _ rfl (.tmp 43) (.tmp 45) 24 rfl 31 j0 zmsg 4 72 Trym.underlying24 hj hy0 hy1 hy2 rfl (by decide) (some ⟨g, off, none⟩) l cap (mcs R (cont len1 S) (offs ls kk) l) rfl (by intro h; cases h) (by rw [mcs_len]; omega) (holds_at HOL'.out) ⟨wr.heap.size, 0, none⟩ 1 1 extra rfl rfl (by exact World.news_of_block (heap_alloc_new wr _)) extra_one (by omega) (by unfold maxLen; omega) (by omega) ?_; intro v1 w1 hown1 hgrow1; obtain ⟨gx, capx, rfl, hgx1, hgx2⟩ := hown1.form (by omega); have hx0 : w1.cell? ⟨gx, l * 4, none⟩ = some (.string ⟨#[122, 122, 45, 101, 120, 116, 114, 97]⟩) := by rw [hown1.cellAt (l * 4) (by omega), List.getElem?_append_right (by rw [mcs_len]; omega), mcs_len, show l * 4 - 4 * l = 0 by omega]; rfl)
        have HT1 : Hid (Trns R (cont len1 S) w1 wa.heap.size w.heap.size ls vs) := (HT.out.kept HO.out (World.grownBy_alloc wr _ none) (.inl rfl) hsz).kept (HO.out.alloc _) hgrow1 (.inl rfl) hsz
        have HO1 : Hid (w1.ownsRow wa.heap.size 24 1 (.slice (some ⟨gt, 0, none⟩) ls.length cc) ls.length vs) := (HO.out.alloc _).kept hgrow1 (.inr (by simp [Value.ownBlock]))
        have HB1 : Hid (Below wa.heap.size wa w1) := (HBB.out.alloc HBB.out.size _).grown hgrow1 (by simp; have := HBB.out.size; omega) (fun k hk => by cases hk)
        go_roundw
        case rel => exact ⟨kk + 1, by omega, by go_num, HT1, HO1, HB1⟩
        case measure => simp [intOf]; omega
    · obtain ⟨wx, rfl⟩ : ∃ wx, wx = wr := ⟨wr, rfl⟩
      have HBX : Hid (Below w.heap.size w wx) := HBA.out.trans (HBB.out.mono HBA.out.size)
      have HMX : Hid (Msgs R (cont len1 S) wx w.heap.size len0) := HMS.out.later hsz HBB.out
      go_wp2_with fail
      go_loopw [10] (fun a wr => ∃ ii : Nat, ii ≤ len0 ∧ a = .int .i64 ii ∧ Below wx.heap.size wx wr) (fun a _ => len0 - (intOf a).toNat)
      case atStart => exact ⟨0, by omega, rfl, Below.refl _ _⟩
      case round =>
        obtain ⟨ii, hin, rfl, hnx⟩ := hrel
        by_cases hlt : ii < len0
        · obtain rfl := V0.out.1 (by omega)
          have c0 : wr.cell? ⟨w.heap.size, ii * 4, none⟩ = some (.string (R ii)) := cell_later hnx (HMX.out ii hlt 0 (by omega))
          have c1 : wr.cell? ⟨w.heap.size, ii * 4 + 1, none⟩ = some (.string (cont len1 S ii)) := cell_later hnx (HMX.out ii hlt 1 (by omega))
          have c2 : wr.cell? ⟨w.heap.size, ii * 4 + 2, none⟩ = some (.slice none 0 0) := cell_later hnx (HMX.out ii hlt 2 (by omega))
          have c3 : wr.cell? ⟨w.heap.size, ii * 4 + 3, none⟩ = some (.string ⟨#[]⟩) := cell_later hnx (HMX.out ii hlt 3 (by omega))
          have rc : wr.cell? ⟨g0, o0 + ii, none⟩ = some (.string (R ii)) := cell_later hnx (cell_later HBX.out (V0.out.2 ii hlt))
          have HSV : Hid (SView wr a1 len1 g1 o1 S) := (V1.out.later HBX.out).later hnx
          have q1 : (0 : Int) ≤ (ii : Int) := by omega
          have q2 : (ii : Int) < (len0 : Int) := by omega
          go_wp2_with fail
          go_region_held3 (fun wy => wy.cell? ⟨w.heap.size, ii * 4, none⟩ = some (.string (R ii)) ∧ wy.cell? ⟨w.heap.size, ii * 4 + 1, none⟩ = some (.string (cont len1 S ii)) ∧ wy.cell? ⟨w.heap.size, ii * 4 + 2, none⟩ = some (.slice none 0 0) ∧ wy.cell? ⟨w.heap.size, ii * 4 + 3, none⟩ = some (.string ⟨#[]⟩) ∧ wy.cell? ⟨g0, o0 + ii, none⟩ = some (.string (R ii))) (first | go_keep | (refine ⟨cell_later hbs ?_, cell_later hbs ?_, cell_later hbs ?_, cell_later hbs ?_, cell_later hbs ?_⟩ <;> simp [*])) (first | (go_at_call 11; refine (content_int a1 len1 cap1 g1 o1 S _ ii _ (by omega) s1 (by omega) (by exact HSV.out)).mono ?_; rintro e w' ⟨rfl, rfl⟩) | (go_at_call 10; refine (same_any _ _ _).mono ?_; rintro e w' ⟨rfl, hbs⟩))
          have HBN : Hid (Below wx.heap.size wx w') := hnx.drew.trans (hbs.mono hnx.size)
          clear c0 c1 c2 c3 rc hbs
          go_wp2
          go_roundw
          case rel => first | exact ⟨ii + 1, by omega, by go_num, HBN.out⟩ | ((repeat apply Exists.intro); exact ⟨⟨ii + 1, by omega, by go_num, HBN.out⟩, rfl⟩)
          case measure => simp [intOf]; omega
        · obtain rfl : ii = len0 := by omega
          go_wp2_with fail
          go_loopw [12, 13] (fun a c wr => ∃ (kk jj : Nat), kk ≤ ls.length ∧ Hid (jj = offs ls kk) ∧ jj ≤ ii ∧ a = .int .i64 jj ∧ c = .int .i64 kk ∧ Below wx.heap.size wx wr) (fun _ c _ => ls.length - (intOf c).toNat)
          case atStart => exact ⟨0, 0, by omega, offs_zero ls, by omega, rfl, rfl, hnx⟩
          case round =>
            clear hnx
            obtain ⟨kk, jj, hkk, hjj, hjn, rfl, rfl, hnx⟩ := hrel
            by_cases hk : kk < ls.length
            · have hlt : jj < ii := by
                have := cut_le HC.out kk hk
                have := HC.out.pos kk hk
                have := hjj.out
                omega
              obtain rfl := V0.out.1 (by omega)
              obtain ⟨gt, capt, hv, hgb, hgl⟩ := HO.out.form (by omega)
              obtain ⟨rfl, rfl⟩ : gg = some ⟨gt, 0, none⟩ ∧ cc = capt := by simpa using hv
              have hcl := cut_le HC.out kk hk
              rw [← hjj.out] at hcl
              have hps := HC.out.pos kk hk
              obtain ⟨g, off, cap, hvk, hcell⟩ := turn_read (HT.out.each kk hk) HMX.out (by rw [← hjj.out]; exact hcl)
              have HSU : Hid (offs ls (kk + 1) = jj + ls.getD kk 0) := by have := offs_succ ls kk hk; rw [← hjj.out] at this; exact this
              rw [← hjj.out] at hcell
              have htc : wx.cell? ⟨gt, kk, none⟩ = some (.slice (some ⟨g, off, none⟩) (ls.getD kk 0) cap) := by
                rw [HO.out.cellAt kk (by omega)]
                have := HT.out.len
                rw [← hvk]
                simp [List.getD, show kk < vs.length by omega]
              generalize ls.getD kk 0 = l at hcl hps hcell htc HSU hvk
              have HCE : Hid _ := hcell
              have htc' := cell_later hnx htc
              clear hcell htc hvk hv
              go_wp2_with fail
              go_loopw [12, 15] (fun a p wr => ∃ pp : Nat, pp ≤ l ∧ a = .int .i64 ((jj : Int) + (pp : Int)) ∧ p = .int .i64 pp ∧ Below wx.heap.size wx wr) (fun _ p _ => l - (intOf p).toNat)
              case atStart => exact ⟨0, by omega, by go_num, rfl, hnx⟩
              case round =>
                clear htc' hnx
                obtain ⟨pp, hpl, rfl, rfl, hnx⟩ := hrel
                by_cases hpp : pp < l
                · have c0 : wr.cell? ⟨g, off + pp * 4, none⟩ = some (.string (R (jj + pp))) := cell_later hnx (HCE.out pp hpp 0 (by omega))
                  have c1 : wr.cell? ⟨g, off + pp * 4 + 1, none⟩ = some (.string (cont len1 S (jj + pp))) := cell_later hnx (HCE.out pp hpp 1 (by omega))
                  have c2 : wr.cell? ⟨g, off + pp * 4 + 2, none⟩ = some (.slice none 0 0) := cell_later hnx (HCE.out pp hpp 2 (by omega))
                  have c3 : wr.cell? ⟨g, off + pp * 4 + 3, none⟩ = some (.string ⟨#[]⟩) := cell_later hnx (HCE.out pp hpp 3 (by omega))
                  have rc : wr.cell? ⟨g0, o0 + (jj + pp), none⟩ = some (.string (R (jj + pp))) := cell_later hnx (cell_later HBX.out (V0.out.2 (jj + pp) (by omega)))
                  have HSV : Hid (SView wr a1 len1 g1 o1 S) := (V1.out.later HBX.out).later hnx
                  have q1 : (0 : Int) ≤ (pp : Int) := by omega
                  have q2 : (pp : Int) < (l : Int) := by omega
                  have q3 : (0 : Int) ≤ (jj : Int) + (pp : Int) := by omega
                  have q4 : (jj : Int) + (pp : Int) < (ii : Int) := by omega
                  have q6 : ((jj : Int) + (pp : Int)).toNat = jj + pp := by omega
                  go_wp2_with fail
                  go_region_held3 (fun wy => wy.cell? ⟨g, off + pp * 4, none⟩ = some (.string (R (jj + pp))) ∧ wy.cell? ⟨g, off + pp * 4 + 1, none⟩ = some (.string (cont len1 S (jj + pp))) ∧ wy.cell? ⟨g, off + pp * 4 + 2, none⟩ = some (.slice none 0 0) ∧ wy.cell? ⟨g, off + pp * 4 + 3, none⟩ = some (.string ⟨#[]⟩) ∧ wy.cell? ⟨g0, o0 + (jj + pp), none⟩ = some (.string (R (jj + pp)))) (first | go_keep | (refine ⟨cell_later hbs ?_, cell_later hbs ?_, cell_later hbs ?_, cell_later hbs ?_, cell_later hbs ?_⟩ <;> simp [*])) (first | (go_at_call 11; refine (content_int a1 len1 cap1 g1 o1 S _ (jj + pp) _ (by omega) s1 (by omega) (by exact HSV.out)).mono ?_; rintro e w' ⟨rfl, rfl⟩) | (go_at_call 10; refine (same_any _ _ _).mono ?_; rintro e w' ⟨rfl, hbs⟩))
                  have HBN : Hid (Below wx.heap.size wx w') := hnx.drew.trans (hbs.mono hnx.size)
                  clear c0 c1 c2 c3 rc hbs q3 q4 q6
                  go_wp2
                  go_roundw
                  case rel => first | exact ⟨pp + 1, by omega, by go_num, by go_num, HBN.out⟩ | ((repeat apply Exists.intro); exact ⟨⟨pp + 1, by omega, by go_num, by go_num, HBN.out⟩, rfl⟩)
                  case measure => simp [intOf]; omega
                · obtain rfl : pp = l := by omega
                  go_wp2
                  go_roundw
                  case rel => first | exact ⟨kk + 1, jj + pp, by omega, HSU.out.symm, by omega, by go_num, by go_num, hnx⟩ | ((repeat apply Exists.intro); exact ⟨⟨kk + 1, jj + pp, by omega, HSU.out.symm, by omega, by go_num, by go_num, hnx⟩, rfl⟩)
                  case measure => simp [intOf]; omega
            · obtain rfl : kk = ls.length := by omega
              have hfin : jj = ii := by have := hjj.out; rw [offs_all, HC.out.sum] at this; exact this
              have HB2 : Hid (Below w.heap.size w wr) := HBX.out.trans (hnx.mono HBX.out.size)
              have hbe : ((jj : Int) == (ii : Int)) = true := by rw [beq_iff_eq]; omega
              clear hfin
              go_wp2_with fail
              go_ret
              exact ⟨rfl, HB2.out⟩
end Go.Proofs.Qxb6601072aMods.trn
