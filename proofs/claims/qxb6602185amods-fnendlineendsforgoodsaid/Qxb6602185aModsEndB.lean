import Derived.Test.Qxb6602185aModsEndA
import Derived.RowKit3
set_option linter.unusedVariables false
namespace Go.Proofs.Qxb6602185aMods.endl
open Go.RowKit

theorem ends_at (s : ByteArray) (h : s.size - 1 < s.size) : ((((s[s.size - 1]'h).toNat : Int)) != 10) = !endsB s := by
  have hl := len_data s
  have e : s.data.toList.getLast? = some (s[s.size - 1]'h) := by
    rw [List.getLast?_eq_getElem?, hl, List.getElem?_eq_getElem (by rw [hl]; exact h)]
    rfl
  unfold endsB
  rw [e]
  generalize s[s.size - 1]'h = b
  by_cases c : b = 10
  · subst c; rfl
  · have h1 : ((b.toNat : Int) != 10) = true := by
      rw [bne_iff_ne]
      intro h2
      exact c (UInt8.toNat_inj.1 (by have : b.toNat = 10 := by omega
                                     rw [this]; rfl))
    have h2 : (some b == some (10 : UInt8)) = false := by simp [c]
    rw [h1, h2]
    rfl
theorem endl_ends (s t : ByteArray) (ht : endsB t = true) : endsB (endl s t) = true := by
  unfold endl
  cases hb : endsB s
  · rw [if_neg (by simp)]
    unfold endsB at ht ⊢
    rw [beq_iff_eq] at ht ⊢
    rw [show (s ++ t).data.toList = s.data.toList ++ t.data.toList from by simp, List.getLast?_append, ht]
    rfl
  · rw [if_pos rfl]; exact hb
theorem endl_same (s t : ByteArray) (hs : endsB s = true) : endl s t = s := by unfold endl; rw [hs]; rfl
theorem endl_size (s t : ByteArray) : (endl s t).size ≤ s.size + t.size := by
  unfold endl
  split
  · omega
  · rw [ByteArray.size_append]; exact Nat.le_refl _
theorem ends_pos (s : ByteArray) (h : endsB s = true) : 1 ≤ s.size := by
  rcases Nat.lt_or_ge s.size 1 with c | c
  · have := ends_empty s (by omega); rw [this] at h; cases h
  · exact c

set_option maxHeartbeats 1000000 in
theorem walk (a0 : ByteArray) (a1 : ByteArray) (a2 : ByteArray) (w0 : a0.size ≤ maxLen) (w1 : a1.size ≤ maxLen) (w2 : a2.size ≤ maxLen) (w : World) :
    Calls Trym.prog 3 #[.string a0, .string a1, .string a2] w fun e w' => e = .returned (.bool true) ∧ Grown w w' := by
  unfold maxLen at w0 w1 w2
  by_cases s0 : a0.size ≤ 262144
  · by_cases s1 : a1.size ≤ 262144
    · by_cases s2 : a2.size ≤ 262144
      · go_enter Trym.func3, Trym.ntmps3
        go_wp2_with fail
        refine (bytes4 a0 a1 a2 w (by omega) (by omega) (by omega)).mono ?_
        rintro e w' ⟨⟨b, rfl⟩, rfl⟩
        cases b
        · go_wp2_with fail
          go_ret
          exact ⟨rfl, Grown.refl _⟩
        by_cases n1 : 1 ≤ a1.size
        · have hz : ((a1.size : Int) == 0) = false := by rw [beq_eq_false_iff_ne]; omega
          have he := ends_at a1 (by omega)
          have b1 : (1 : Int) ≤ (a1.size : Int) := by omega
          cases hb : endsB a1
          · rw [hb] at he
            have he' : ((((a1[a1.size - 1]'(by omega)).toNat : Int)) != 10) = true := he
            clear he hb
            go_wp2_with fail
            go_ret
            exact ⟨rfl, Grown.refl _⟩
          · rw [hb] at he
            have he' : ((((a1[a1.size - 1]'(by omega)).toNat : Int)) != 10) = false := he
            have HG : Hid (endsB (endl a0 a1) = true) := endl_ends a0 a1 hb
            have HS : Hid ((endl a0 a1).size ≤ a0.size + a1.size) := endl_size a0 a1
            clear he hb
            go_wp2_with fail
            refine (line5 a0 a1 w (by omega)).mono ?_
            rintro e w' ⟨rfl, rfl⟩
            generalize endl a0 a1 = g at HG HS ⊢
            have hl := line5 g a2 w (by have := HS.out; omega)
            rw [endl_same g a2 HG.out] at hl
            have n2 := ends_pos g HG.out
            have n3 : g.size ≤ 1048576 := by have := HS.out; omega
            have hz2 : ((g.size : Int) == 0) = false := by rw [beq_eq_false_iff_ne]; omega
            have hg := ends_at g (by omega)
            rw [HG.out] at hg
            have hg' : ((((g[g.size - 1]'(by omega)).toNat : Int)) != 10) = false := hg
            have b2 : (1 : Int) ≤ (g.size : Int) := by omega
            clear hg
            go_wp2_with fail
            refine hl.mono ?_
            rintro e w' ⟨rfl, rfl⟩
            clear hl
            go_wp2_with fail
            go_ret
            exact ⟨by simp, Grown.refl _⟩
        · have hz : ((a1.size : Int) == 0) = true := by rw [beq_iff_eq]; omega
          go_wp2_with fail
          go_ret
          exact ⟨rfl, Grown.refl _⟩
      · go_enter Trym.func3, Trym.ntmps3
        go_wp2_with fail
        refine (bytes4 a0 a1 a2 w (by omega) (by omega) (by omega)).mono ?_
        rintro e w' ⟨⟨b, rfl⟩, rfl⟩
        cases b
        · go_wp2_with fail
          go_ret
          exact ⟨rfl, Grown.refl _⟩
        · go_wp2_with fail
          go_ret
          exact ⟨rfl, Grown.refl _⟩
    · go_enter Trym.func3, Trym.ntmps3
      go_wp2_with fail
      refine (bytes4 a0 a1 a2 w (by omega) (by omega) (by omega)).mono ?_
      rintro e w' ⟨⟨b, rfl⟩, rfl⟩
      cases b
      · go_wp2_with fail
        go_ret
        exact ⟨rfl, Grown.refl _⟩
      · go_wp2_with fail
        go_ret
        exact ⟨rfl, Grown.refl _⟩
  · go_enter Trym.func3, Trym.ntmps3
    go_wp2_with fail
    refine (bytes4 a0 a1 a2 w (by omega) (by omega) (by omega)).mono ?_
    rintro e w' ⟨⟨b, rfl⟩, rfl⟩
    cases b
    · go_wp2_with fail
      go_ret
      exact ⟨rfl, Grown.refl _⟩
    · go_wp2_with fail
      go_ret
      exact ⟨rfl, Grown.refl _⟩
end Go.Proofs.Qxb6602185aMods.endl
