import Derived.Test.Qxb6602185aModsRows
import Derived.WalkKit
import Derived.WalkSpells
import Derived.Below
import Derived.Lib.Strings
set_option linter.unusedVariables false
namespace Go.Proofs.Qxb6602185aMods.endl
open Go.RowKit

/-- Does s end in a line feed? -/
def endsB (s : ByteArray) : Bool := s.data.toList.getLast? == some 10
theorem len_data (s : ByteArray) : s.data.toList.length = s.size := by simp
theorem ends_extract (s : ByteArray) (h : 1 ≤ s.size) : ((s.extract (s.size - 1) s.size).toList == [10]) = endsB s := by
  have hl := len_data s
  rw [Lib.extract_toList]
  unfold endsB
  generalize s.data.toList = l at *
  generalize s.size = n at *
  subst hl
  rcases List.eq_nil_or_concat l with rfl | ⟨l', x, rfl⟩
  · simp at h
  · rw [List.concat_eq_append]
    simp
theorem ends_empty (s : ByteArray) (h : ¬ 1 ≤ s.size) : endsB s = false := by
  have hl := len_data s
  have : s.data.toList = [] := List.eq_nil_of_length_eq_zero (by omega)
  unfold endsB
  rw [this]
  rfl
theorem ret_bool {a b : Bool} (h : a = b) : Ending.returned (.bool a) = .returned (.bool b) := by rw [h]

theorem suf8 (s : ByteArray) (w : World) (hs : s.size ≤ 9223372036854775807) :
    Calls Trym.prog 8 #[.string s, .string ⟨#[10]⟩] w fun e w' => e = .returned (.bool (endsB s)) ∧ w = w' := by
  by_cases h : 1 ≤ s.size
  · have HE : Hid _ := ends_extract s h
    go_enter Trym.func8, Trym.ntmps8
    go_wp2
    go_ret
    exact ⟨ret_bool HE.out, rfl⟩
  · have HE : Hid _ := ends_empty s h
    go_enter Trym.func8, Trym.ntmps8
    go_wp2
    go_ret
    exact ⟨ret_bool HE.out.symm, rfl⟩
theorem suf7 (s : ByteArray) (w : World) (hs : s.size ≤ 9223372036854775807) :
    Calls Trym.prog 7 #[.string s, .string ⟨#[10]⟩] w fun e w' => e = .returned (.bool (endsB s)) ∧ w = w' := by
  go_enter Trym.func7, Trym.ntmps7
  go_wp2_with (go_at_call 8; refine (suf8 s _ hs).mono ?_; rintro e w' ⟨rfl, rfl⟩)
  go_ret
  exact ⟨rfl, rfl⟩
theorem bytes4 (a b c : ByteArray) (w : World) (h0 : a.size ≤ 9223372036854775807) (h1 : b.size ≤ 9223372036854775807) (h2 : c.size ≤ 9223372036854775807) :
    Calls Trym.prog 4 #[.string a, .string b, .string c] w fun e w' => (∃ b, e = .returned (.bool b)) ∧ w = w' := by
  go_enter Trym.func4, Trym.ntmps4
  go_wp2
  all_goals
    go_ret
    exact ⟨⟨_, rfl⟩, rfl⟩

/-- What endLine makes. -/
def endl (s t : ByteArray) : ByteArray := if endsB s then s else s ++ t
theorem line6 (s t : ByteArray) (w : World) (hs : s.size + t.size ≤ 9223372036854775807) :
    Calls Trym.prog 6 #[.string s, .string t] w fun e w' => e = .returned (.string (endl s t)) ∧ w = w' := by
  have hc := suf7 s w (by omega)
  cases hb : endsB s
  · rw [hb] at hc
    have HE : Hid (endl s t = s ++ t) := by show endl s t = _; unfold endl; rw [hb]; rfl
    clear hb
    go_enter Trym.func6, Trym.ntmps6
    go_wp2_with (go_at_call 7; refine hc.mono ?_; rintro e w' ⟨rfl, rfl⟩)
    go_ret
    exact ⟨by rw [HE.out]; rfl, rfl⟩
  · rw [hb] at hc
    have HE : Hid (endl s t = s) := by show endl s t = _; unfold endl; rw [hb]; rfl
    clear hb
    go_enter Trym.func6, Trym.ntmps6
    go_wp2_with (go_at_call 7; refine hc.mono ?_; rintro e w' ⟨rfl, rfl⟩)
    go_ret
    exact ⟨by rw [HE.out]; rfl, rfl⟩
theorem line5 (s t : ByteArray) (w : World) (hs : s.size + t.size ≤ 9223372036854775807) :
    Calls Trym.prog 5 #[.string s, .string t] w fun e w' => e = .returned (.string (endl s t)) ∧ w = w' := by
  have hc := line6 s t w hs
  generalize endl s t = r at hc ⊢
  go_enter Trym.func5, Trym.ntmps5
  go_wp2_with (go_at_call 6; refine hc.mono ?_; rintro e w' ⟨rfl, rfl⟩)
  go_ret
  exact ⟨rfl, rfl⟩
end Go.Proofs.Qxb6602185aMods.endl
