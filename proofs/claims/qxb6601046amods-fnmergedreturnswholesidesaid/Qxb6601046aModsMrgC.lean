import Derived.Test.Qxb6601046aModsMrgB
import Derived.Lib.Builder
set_option linter.unusedVariables false
namespace Go.Proofs.Qxb6601046aMods.mrg
open Go.RowKit

def IsRow (k : IntKind) (w : World) (a : Option Addr) (len cap : Nat) (zs : List Int) : Prop :=
  (a = none ∧ len = 0 ∧ cap = 0 ∧ zs = []) ∨
  ∃ x, a = some x ∧ len ≤ cap ∧ cap ≤ maxLen ∧ zs.length = cap ∧ (∀ i, i < zs.length → w.cell? (x.add i) = some (.int k (zs.getD i 0))) ∧ ∀ n ∈ zs, (Lit.int k n).wf = true

theorem view_of_row {w : World} {a : Option Addr} {len cap : Nat} {zs : List Int} (h : IsRow .i64 w a len cap zs) : len ≤ maxLen ∧ (a = none → len = 0) ∧ ∃ g off, View w a len g off (zs.take len) := by
  rcases h with ⟨rfl, rfl, rfl, rfl⟩ | ⟨x, rfl, hl, hm, hz, hc, _⟩
  · exact ⟨Nat.zero_le _, fun _ => rfl, 0, 0, rfl, fun h => by omega, fun t h => by omega⟩
  · refine ⟨by omega, fun h => (by cases h), x.block, x.off, by simp; omega, fun h0 => ?_, fun t ht => ?_⟩
    · have := World.cell?_spot (hc 0 (by omega))
      obtain ⟨b, o, s⟩ := x
      have hs : s = none := by simpa [Addr.add] using this
      rw [hs]
    · have h0 := World.cell?_spot (hc 0 (by omega))
      obtain ⟨b, o, s⟩ := x
      have hs : s = none := by simpa [Addr.add] using h0
      subst hs
      have := hc t (by omega)
      rw [Addr.add_lit] at this
      rw [this]
      simp [List.getD, ht]

theorem copied_view {ao : Option Addr} {len : Nat} {zs : List Int} {w w' : World} {v : Value} (h : Copied ao len zs w v w') (hn : ao = none → len = 0) (hz : zs.length = len) :
    ∃ ea, v = .slice ea len len ∧ View w' ea len w.heap.size 0 zs ∧ (0 < len → ∃ cs, w'.heap[w.heap.size]? = some (.cells cs 30 (0, 0))) := by
  rcases h with ⟨rfl, h0⟩ | ⟨rfl, hown⟩
  · obtain rfl := hn h0
    exact ⟨none, rfl, ⟨hz, fun h => by omega, fun t h => by omega⟩, fun h => by omega⟩
  · refine ⟨_, rfl, ⟨hz, fun _ => rfl, fun t ht => ?_⟩, fun _ => ?_⟩
    · rw [Nat.zero_add, hown.cellAt t (by omega)]
      simp [List.getD, show t < zs.length by omega]
    · rcases hown.2 with ⟨h, _⟩ | ⟨g, cp, cur, h, _, hg, _⟩
      · cases h
      · obtain ⟨rfl, -⟩ : g = w.heap.size ∧ cp = len := by simpa using h.symm
        exact ⟨cur, hg⟩

theorem sub_nil_false {A B : List Int} (h : subB A B = false) : 0 < A.length := by
  cases A with
  | nil => cases h
  | cons x xs => simp

theorem block_lt {w : World} {b : Nat} {o : Obj} (h : w.heap[b]? = some o) : b < w.heap.size := (Array.getElem?_eq_some_iff.1 h).1

theorem ptr_neq {w : World} {a b : Nat} {ca cb : Array Value} (hne : a ≠ b) (ha : w.heap[a]? = some (.cells ca 30 (0, 0))) (hb : w.heap[b]? = some (.cells cb 30 (0, 0))) :
    (binOp .neq 32 (.pointer (some ⟨a, 0, none⟩)) (.pointer (some ⟨b, 0, none⟩))).run Trym.prog w = .ok (.bool true) w := by
  obtain ⟨i0, hi, hz0, hz1, hz2⟩ := info_parts info30
  have h : ∀ d : Nat, (Op.equalIn (d + 1) 32 (.pointer (some ⟨a, 0, none⟩)) (.pointer (some ⟨b, 0, none⟩))).run Trym.prog w = .ok false w := fun d => by
    simp [Op.equalIn, run_underlying Trym.underlying32, sizeOf, typeInfo, hi, hz1, run_sameAddr_other (P := Trym.prog) w (a := ⟨a, 0, none⟩) (b := ⟨b, 0, none⟩) (fun e => hne (congrArg Addr.block e)) ha hb]
  simp only [binOp]
  simp [Op.equal, Op.maxDepth, h 9999]

set_option maxHeartbeats 1000000 in
theorem walk (a0 : Option Addr) (len0 cap0 : Nat) (z0 : List Int) (a1 : Option Addr) (len1 cap1 : Nat) (z1 : List Int) (w : World) (w0 : IsRow .i64 w a0 len0 cap0 z0) (w1 : IsRow .i64 w a1 len1 cap1 z1) :
    Calls Trym.prog 4 #[.slice a0 len0 cap0, .slice a1 len1 cap1] w fun e w' => e = .returned (.bool true) ∧ Below w.heap.size w w' := by
  obtain ⟨hm0, hn0, g0, o0, v0⟩ := view_of_row w0
  obtain ⟨hm1, hn1, g1, o1, v1⟩ := view_of_row w1
  clear w0 w1
  have l0 : len0 ≤ 9223372036854775807 := by unfold maxLen at hm0; omega
  have l1 : len1 ≤ 9223372036854775807 := by unfold maxLen at hm1; omega
  generalize z0.take len0 = A at v0
  generalize z1.take len1 = B at v1
  have HN0 : Hid (a0 = none → len0 = 0) := hn0
  have HN1 : Hid (a1 = none → len1 = 0) := hn1
  have V0 : Hid (View w a0 len0 g0 o0 A) := v0
  have V1 : Hid (View w a1 len1 g1 o1 B) := v1
  clear hn0 hn1 v0 v1
  by_cases s0 : len0 ≤ 65536
  · by_cases s1 : len1 ≤ 65536
    · go_enter Trym.func4, Trym.ntmps4
      go_wp2_with fail
      refine (bytes_any a0 a1 len0 cap0 len1 cap1 w hm0 hm1).mono ?_
      rintro e w' ⟨⟨b, rfl⟩, rfl⟩
      cases b
      · go_wp2_with fail
        go_ret
        exact ⟨rfl, Below.refl _ _⟩
      go_wp2_with fail
      refine (inc_any a0 len0 cap0 g0 o0 A w s0 V0.out).mono ?_
      rintro e wa ⟨⟨b, rfl, hi0⟩, hba⟩
      have HI0 : Hid (b = true → Inc A) := hi0
      clear hi0
      cases b
      · go_wp2_with fail
        go_ret
        exact ⟨rfl, hba⟩
      have IA : Hid (Inc A) := HI0.out rfl
      clear HI0
      go_wp2_with fail
      refine (inc_any a1 len1 cap1 g1 o1 B wa s1 (V1.out.later hba)).mono ?_
      rintro e wb ⟨⟨b, rfl, hi1⟩, hbb0⟩
      have HI1 : Hid (b = true → Inc B) := hi1
      have hbb : Hid (Below w.heap.size w wb) := hba.trans (hbb0.mono hba.size)
      clear hi1 hbb0 hba
      cases b
      · go_wp2_with fail
        go_ret
        exact ⟨rfl, hbb.out⟩
      have IB : Hid (Inc B) := HI1.out rfl
      clear HI1
      go_wp2_with fail
      refine (events_any a0 len0 cap0 g0 o0 A wb s0 (V0.out.later hbb.out)).mono ?_
      rintro e wc ⟨va, rfl, hcp, hbc⟩
      obtain ⟨ea, hva, vA, hA⟩ := copied_view hcp HN0.out V0.out.1
      have EA : Hid (View wc ea len0 wb.heap.size 0 A) := vA
      have EC : Hid (0 < len0 → ∃ cs, wc.heap[wb.heap.size]? = some (.cells cs 30 (0, 0))) := hA
      have HBC : Hid (Below wb.heap.size wb wc) := hbc
      rw [hva]
      clear hva va hcp vA hA hbc
      go_wp2_with fail
      have HBC' : Hid (Below w.heap.size w wc) := hbb.out.trans (HBC.out.mono hbb.out.size)
      refine (events_any a1 len1 cap1 g1 o1 B wc s1 (V1.out.later HBC'.out)).mono ?_
      rintro e wd ⟨vb, rfl, hcp, hbd⟩
      obtain ⟨eb, hvb, vB, hB⟩ := copied_view hcp HN1.out V1.out.1
      have EB : Hid (View wd eb len1 wc.heap.size 0 B) := vB
      have ED : Hid (0 < len1 → ∃ cs, wd.heap[wc.heap.size]? = some (.cells cs 30 (0, 0))) := hB
      have HBD : Hid (Below wc.heap.size wc wd) := hbd
      have EA' : Hid (View wd ea len0 wb.heap.size 0 A) := EA.out.later hbd
      rw [hvb]
      clear hvb vb hcp vB hB hbd
      go_wp2_with fail
      refine (zz_any ea eb len0 len1 wb.heap.size wc.heap.size A B wd s0 s1 EA'.out EB.out (srt_of_inc IA.out) (srt_of_inc IB.out)).mono ?_
      rintro e we ⟨r, rfl, hmg, hbe⟩
      have HBE : Hid (Below wd.heap.size wd we) := hbe
      have HM : Hid (Merged ea eb len0 len1 A B wd r we) := hmg
      have HW : Hid (Below w.heap.size w we) := (HBC'.out.trans (HBD.out.mono HBC'.out.size)).trans (hbe.mono (Nat.le_trans HBC'.out.size HBD.out.size))
      clear hmg hbe
      go_wp2_with fail
      have hs1 := sub_any ea eb len0 len1 len0 len1 wb.heap.size wc.heap.size A B we s0 s1 (EA'.out.later HBE.out) (EB.out.later HBE.out) IB.out
      have hs2 := sub_any eb ea len1 len0 len1 len0 wc.heap.size wb.heap.size B A we s1 s0 (EB.out.later HBE.out) (EA'.out.later HBE.out) IA.out
      cases hab : subB A B
      · rw [hab] at hs1
        refine hs1.mono ?_
        rintro e w' ⟨rfl, rfl⟩
        clear hs1
        have HAB : Hid (subB A B = false) := hab
        clear hab
        go_wp2_with fail
        cases hba : subB B A
        · rw [hba] at hs2
          refine hs2.mono ?_
          rintro e w' ⟨rfl, rfl⟩
          clear hs2
          obtain ⟨n, cap, cs, hr, n0, n1, hG⟩ := HM.out.2.2 HAB.out hba
          rw [hr]
          have p0 : 0 < len0 := by have := sub_nil_false HAB.out; rw [V0.out.1] at this; exact this
          have p1 : 0 < len1 := by have := sub_nil_false hba; rw [V1.out.1] at this; exact this
          obtain rfl : ea = some ⟨wb.heap.size, 0, none⟩ := EA.out.2.1 p0
          obtain rfl : eb = some ⟨wc.heap.size, 0, none⟩ := EB.out.2.1 p1
          clear hba hr
          obtain ⟨csA, hA⟩ := EC.out p0
          obtain ⟨csB, hB⟩ := ED.out p1
          have sz1 : wb.heap.size < wc.heap.size := block_lt hA
          have sz2 : wc.heap.size < wd.heap.size := block_lt hB
          have hA' : we.heap[wb.heap.size]? = some (.cells csA 30 (0, 0)) := (HBE.out.block _ (by omega)).trans ((HBD.out.block _ sz1).trans hA)
          have hB' : we.heap[wc.heap.size]? = some (.cells csB 30 (0, 0)) := (HBE.out.block _ sz2).trans hB
          have hpa : ∀ nq, (binOp .neq 32 (.pointer (some ⟨wd.heap.size, 0, none⟩)) (.pointer (some ⟨wb.heap.size, 0, none⟩))).run Trym.prog (we.drewN nq) = .ok (.bool true) (we.drewN nq) := fun nq => ptr_neq (by omega) hG hA'
          have hpb : ∀ nq, (binOp .neq 32 (.pointer (some ⟨wd.heap.size, 0, none⟩)) (.pointer (some ⟨wc.heap.size, 0, none⟩))).run Trym.prog (we.drewN nq) = .ok (.bool true) (we.drewN nq) := fun nq => ptr_neq (by omega) hG hB'
          clear hG hA hB hA' hB'
          have q0 : (0 : Int) < (len0 : Int) := by omega
          have q1 : (0 : Int) < (len1 : Int) := by omega
          have q2 : (0 : Int) < (n : Int) := by omega
          go_wp2_with fail
          go_quiet (fail)
          go_wp2
          go_ret
          exact ⟨rfl, below_drewN HW.out _⟩
        · rw [hba] at hs2
          refine hs2.mono ?_
          rintro e w' ⟨rfl, rfl⟩
          clear hs2
          have hr := HM.out.2.1 HAB.out hba
          rw [hr]
          clear hr hba
          go_wp2_with fail
          refine (itself_any ea len0 wb.heap.size we s0 EA.out.2.1).mono ?_
          rintro e wf ⟨rfl, hbf⟩
          go_wp2_with fail
          go_ret
          exact ⟨rfl, HW.out.trans (hbf.mono HW.out.size)⟩
      · rw [hab] at hs1
        refine hs1.mono ?_
        rintro e w' ⟨rfl, rfl⟩
        clear hs1 hs2
        have hr := HM.out.1 hab
        rw [hr]
        clear hr hab
        go_wp2_with fail
        refine (itself_any eb len1 wc.heap.size we s1 EB.out.2.1).mono ?_
        rintro e wf ⟨rfl, hbf⟩
        go_wp2_with fail
        go_ret
        exact ⟨rfl, HW.out.trans (hbf.mono HW.out.size)⟩
    · go_enter Trym.func4, Trym.ntmps4
      go_wp2_with fail
      refine (bytes_any a0 a1 len0 cap0 len1 cap1 w hm0 hm1).mono ?_
      rintro e w' ⟨⟨b, rfl⟩, rfl⟩
      cases b
      · go_wp2_with fail
        go_ret
        exact ⟨rfl, Below.refl _ _⟩
      · go_wp2_with fail
        go_ret
        exact ⟨rfl, Below.refl _ _⟩
  · go_enter Trym.func4, Trym.ntmps4
    go_wp2_with fail
    refine (bytes_any a0 a1 len0 cap0 len1 cap1 w hm0 hm1).mono ?_
    rintro e w' ⟨⟨b, rfl⟩, rfl⟩
    cases b
    · go_wp2_with fail
      go_ret
      exact ⟨rfl, Below.refl _ _⟩
    · go_wp2_with fail
      go_ret
      exact ⟨rfl, Below.refl _ _⟩
end Go.Proofs.Qxb6601046aMods.mrg
