import Derived.Test.Qxb6601046aModsMrgA
set_option linter.unusedVariables false
namespace Go.Proofs.Qxb6601046aMods.mrg
open Go.RowKit

/-! ### THE PLAIN LAW: how many elements two increasing lists share -/
def Srt (A : List Int) : Prop := A.Pairwise (· < ·)
theorem srt_of_inc {A : List Int} (h : Inc A) : Srt A := by
  unfold Srt
  rw [List.pairwise_iff_getElem]
  intro i j hi hj hij
  have := inc_lt h (j - i - 1) i (by omega)
  rw [show i + (j - i - 1) + 1 = j by omega] at this
  simpa [List.getD, hi, hj] using this

def com (A B : List Int) : Nat := A.countP (hasB B)

theorem hasB_mem (A : List Int) (e : Int) : hasB A e = true ↔ e ∈ A := by unfold hasB; exact List.contains_iff_mem

theorem com_le (A B : List Int) : com A B ≤ A.length := List.countP_le_length
theorem com_sub (A B : List Int) : com A B = A.length ↔ subB A B = true := by
  unfold com subB
  rw [List.countP_eq_length, List.all_eq_true]
theorem com_nil_left (B : List Int) : com [] B = 0 := rfl
theorem com_nil_right (A : List Int) : com A [] = 0 := by
  unfold com
  rw [List.countP_eq_zero]
  intro a _ h
  rw [hasB_mem] at h
  cases h

theorem com_lt {x y : Int} {xs ys : List Int} (hB : Srt (y :: ys)) (h : x < y) : com (x :: xs) (y :: ys) = com xs (y :: ys) := by
  unfold com
  rw [List.countP_cons_of_neg]
  intro e
  rw [hasB_mem] at e
  rcases List.mem_cons.1 e with rfl | hm
  · omega
  · have := (List.pairwise_cons.1 hB).1 x hm
    omega
theorem com_gt {x y : Int} {xs ys : List Int} (hA : Srt (x :: xs)) (h : y < x) : com (x :: xs) (y :: ys) = com (x :: xs) ys := by
  unfold com
  apply List.countP_congr
  intro e he
  have hne : e ≠ y := by
    rcases List.mem_cons.1 he with rfl | hm
    · omega
    · have := (List.pairwise_cons.1 hA).1 e hm
      omega
  rw [hasB_mem, hasB_mem, List.mem_cons]
  exact ⟨fun h => h.resolve_left hne, .inr⟩
theorem com_eq {x : Int} {xs ys : List Int} (hA : Srt (x :: xs)) : com (x :: xs) (x :: ys) = com xs ys + 1 := by
  unfold com
  rw [List.countP_cons_of_pos (by rw [hasB_mem]; exact List.mem_cons_self)]
  congr 1
  apply List.countP_congr
  intro e he
  have hne : e ≠ x := by have := (List.pairwise_cons.1 hA).1 e he; omega
  rw [hasB_mem, hasB_mem, List.mem_cons]
  exact ⟨fun h => h.resolve_left hne, .inr⟩

theorem drop_at {A : List Int} {i : Nat} (h : i < A.length) : A.drop i = A.getD i 0 :: A.drop (i + 1) := by
  rw [List.drop_eq_getElem_cons h]
  simp [List.getD, h]
theorem srt_drop {A : List Int} (h : Srt A) (i : Nat) : Srt (A.drop i) := List.Pairwise.sublist (List.drop_sublist i A) h

/-- Behind m steps of the merge: i of A and j of B are used up. -/
structure Inv (A B : List Int) (la lb i j m : Nat) : Prop where
  hi : i ≤ la
  hj : j ≤ lb
  room : m ≤ i + j
  ab : m + (la - i) + (lb - j) + com A B = la + lb + com (A.drop i) (B.drop j)
  ba : m + (la - i) + (lb - j) + com B A = la + lb + com (B.drop j) (A.drop i)

theorem Inv.start (A B : List Int) (la lb : Nat) : Inv A B la lb 0 0 0 := ⟨by omega, by omega, by omega, by simp, by simp⟩
theorem Inv.a {A B : List Int} {la lb i j m : Nat} (h : Inv A B la lb i j m) (hA : A.length = la) (hB : B.length = lb) (sA : Srt A) (sB : Srt B) (hi : i < la) (hj : j < lb) (hlt : A.getD i 0 < B.getD j 0) : Inv A B la lb (i + 1) j (m + 1) := by
  have e1 := h.ab
  have e2 := h.ba
  have sA' := srt_drop sA i
  have sB' := srt_drop sB j
  rw [drop_at (show i < A.length by omega), drop_at (show j < B.length by omega)] at e1 e2
  rw [drop_at (show i < A.length by omega)] at sA'
  rw [drop_at (show j < B.length by omega)] at sB'
  rw [com_lt sB' hlt] at e1
  rw [com_gt sB' hlt] at e2
  rw [← drop_at (show j < B.length by omega)] at e1 e2
  have := h.room
  exact ⟨by omega, by omega, by omega, by omega, by omega⟩
theorem Inv.b {A B : List Int} {la lb i j m : Nat} (h : Inv A B la lb i j m) (hA : A.length = la) (hB : B.length = lb) (sA : Srt A) (sB : Srt B) (hi : i < la) (hj : j < lb) (hlt : B.getD j 0 < A.getD i 0) : Inv A B la lb i (j + 1) (m + 1) := by
  have k : Inv B A lb la j i m := ⟨h.hj, h.hi, by have := h.room; omega, by have := h.ba; omega, by have := h.ab; omega⟩
  have k' := k.a hB hA sB sA hj hi hlt
  exact ⟨k'.hj, k'.hi, by have := k'.room; omega, by have := k'.ba; omega, by have := k'.ab; omega⟩
theorem Inv.e {A B : List Int} {la lb i j m : Nat} (h : Inv A B la lb i j m) (hA : A.length = la) (hB : B.length = lb) (sA : Srt A) (sB : Srt B) (hi : i < la) (hj : j < lb) (h1 : ¬ A.getD i 0 < B.getD j 0) (h2 : ¬ B.getD j 0 < A.getD i 0) : Inv A B la lb (i + 1) (j + 1) (m + 1) := by
  have e1 := h.ab
  have e2 := h.ba
  have sA' := srt_drop sA i
  have sB' := srt_drop sB j
  have eq : A.getD i 0 = B.getD j 0 := by omega
  rw [drop_at (show i < A.length by omega), drop_at (show j < B.length by omega), eq] at e1 e2
  rw [drop_at (show i < A.length by omega), eq] at sA'
  rw [drop_at (show j < B.length by omega)] at sB'
  rw [com_eq sA'] at e1
  rw [com_eq sB'] at e2
  have := h.room
  exact ⟨by omega, by omega, by omega, by omega, by omega⟩
theorem Inv.fin {A B : List Int} {la lb i j m : Nat} (h : Inv A B la lb i j m) (hA : A.length = la) (hB : B.length = lb) (hn : ¬ (i < la ∧ j < lb)) :
    m + (la - i) + (lb - j) + com A B = la + lb ∧ m + (la - i) + (lb - j) + com B A = la + lb := by
  have e1 := h.ab
  have e2 := h.ba
  have := h.hi
  have := h.hj
  by_cases c : i < la
  · have hj : j = lb := by omega
    have : B.drop j = [] := List.drop_eq_nil_of_le (by omega)
    rw [this, com_nil_right] at e1
    rw [this, com_nil_left] at e2
    exact ⟨by omega, by omega⟩
  · have hi : i = la := by omega
    have : A.drop i = [] := List.drop_eq_nil_of_le (by omega)
    rw [this, com_nil_left] at e1
    rw [this, com_nil_right] at e2
    exact ⟨by omega, by omega⟩

/-- What the length of the union says. -/
theorem union_len {A B : List Int} {la lb n : Nat} (hA : A.length = la) (hB : B.length = lb) (h1 : n + com A B = la + lb) (h2 : n + com B A = la + lb) :
    la ≤ n ∧ lb ≤ n ∧ (n = lb ↔ subB A B = true) ∧ (n = la ↔ subB B A = true) := by
  have a := com_le A B
  have b := com_le B A
  have c := com_sub A B
  have d := com_sub B A
  refine ⟨by omega, by omega, ?_, ?_⟩
  · rw [← c]; omega
  · rw [← d]; omega
end Go.Proofs.Qxb6601046aMods.mrg
