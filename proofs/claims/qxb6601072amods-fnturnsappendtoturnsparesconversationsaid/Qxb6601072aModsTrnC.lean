import Derived.Test.Qxb6601072aModsTrnB
import Derived.Deep.AppendLies
set_option linter.unusedVariables false
namespace Go.Proofs.Qxb6601072aMods.trn
open Go.RowKit

/-! ### THE PLAIN LAW: the lengths of the turns -/
/-- Where turn k begins. -/
def offs (ls : List Nat) (k : Nat) : Nat := (ls.take k).sum
theorem offs_zero (ls : List Nat) : offs ls 0 = 0 := rfl
theorem offs_succ (ls : List Nat) (k : Nat) (h : k < ls.length) : offs ls (k + 1) = offs ls k + ls.getD k 0 := by
  unfold offs
  rw [List.take_succ_eq_append_getElem h, List.sum_append]
  simp [List.getD, h]
theorem offs_app {ls : List Nat} {k : Nat} (h : k ≤ ls.length) (r : List Nat) : offs (ls ++ r) k = offs ls k := by
  unfold offs
  rw [List.take_append_of_le_length h]
theorem offs_all (ls : List Nat) : offs ls ls.length = ls.sum := by simp [offs]
theorem getD_app {ls : List Nat} {k : Nat} (h : k < ls.length) (r : List Nat) : (ls ++ r).getD k 0 = ls.getD k 0 := by
  simp [List.getD, List.getElem?_append_left h]
theorem getD_last (ls : List Nat) (l : Nat) : (ls ++ [l]).getD ls.length 0 = l := by simp [List.getD]

structure Cut (tool : Nat → Bool) (ls : List Nat) (i : Nat) : Prop where
  sum : ls.sum = i
  pos : ∀ k, k < ls.length → 1 ≤ ls.getD k 0
  tools : ∀ k, k < ls.length → 1 < ls.getD k 0 → ∀ p, p < ls.getD k 0 → tool (offs ls k + p) = true
  brk : ∀ k, 0 < k → k < ls.length → ¬ (tool (offs ls k - 1) = true ∧ tool (offs ls k) = true)

theorem Cut.start (tool : Nat → Bool) : Cut tool [] 0 := ⟨rfl, fun k h => (by cases h), fun k h => (by cases h), fun k _ h => (by cases h)⟩
theorem Cut.push {tool : Nat → Bool} {ls : List Nat} {i : Nat} (h : Cut tool ls i) (hb : 0 < i → ¬ (tool (i - 1) = true ∧ tool i = true)) : Cut tool (ls ++ [1]) (i + 1) := by
  have hs := h.sum
  refine ⟨by simp [hs], fun k hk => ?_, fun k hk h1 p hp => ?_, fun k h0 hk => ?_⟩
  · by_cases e : k < ls.length
    · rw [getD_app e]; exact h.pos k e
    · have : k = ls.length := by simp at hk; omega
      subst this
      rw [getD_last]; exact Nat.le_refl _
  · by_cases e : k < ls.length
    · rw [getD_app e] at h1 hp
      rw [offs_app (by omega)]
      exact h.tools k e h1 p hp
    · have : k = ls.length := by simp at hk; omega
      subst this
      rw [getD_last] at h1
      omega
  · by_cases e : k < ls.length
    · rw [offs_app (by omega)]; exact h.brk k h0 e
    · have : k = ls.length := by simp at hk; omega
      subst this
      rw [offs_app (Nat.le_refl _), offs_all, hs]
      refine hb ?_
      have h1 := h.pos 0 h0
      have h2 := offs_succ ls 0 h0
      rw [offs_zero] at h2
      have h3 : offs ls 1 ≤ ls.sum := by
        unfold offs
        conv => rhs; rw [← List.take_append_drop 1 ls, List.sum_append]
        omega
      have : offs ls (0 + 1) = offs ls 1 := rfl
      omega
theorem Cut.grow {tool : Nat → Bool} {ls : List Nat} {l i : Nat} (h : Cut tool (ls ++ [l]) i) (h1 : tool (i - 1) = true) (h2 : tool i = true) : Cut tool (ls ++ [l + 1]) (i + 1) := by
  have hs := h.sum
  have hsum : ls.sum + l = i := by simpa using hs
  have hlp : 1 ≤ l := by have := h.pos ls.length (by simp); rwa [getD_last] at this
  refine ⟨by simp; omega, fun k hk => ?_, fun k hk h1' p hp => ?_, fun k h0 hk => ?_⟩
  · by_cases e : k < ls.length
    · rw [getD_app e]; have := h.pos k (by simp; omega); rwa [getD_app e] at this
    · have : k = ls.length := by simp at hk; omega
      subst this
      rw [getD_last]; omega
  · by_cases e : k < ls.length
    · rw [getD_app e] at h1' hp
      rw [offs_app (by omega)]
      have := h.tools k (by simp; omega)
      rw [getD_app e, offs_app (by omega)] at this
      exact this h1' p hp
    · have : k = ls.length := by simp at hk; omega
      subst this
      rw [getD_last] at hp
      rw [offs_app (Nat.le_refl _), offs_all]
      by_cases ep : p = l
      · rw [ep, hsum]; exact h2
      · by_cases el : l = 1
        · have : ls.sum + p = i - 1 := by omega
          rw [this]; exact h1
        · have := h.tools ls.length (by simp)
          rw [getD_last, offs_app (Nat.le_refl _), offs_all] at this
          exact this (by omega) p (by omega)
  · have := h.brk k h0 (by simp at hk ⊢; omega)
    have hk' : k ≤ ls.length := by simp at hk; omega
    rw [offs_app hk'] at this ⊢
    exact this
theorem cut_len {tool : Nat → Bool} {ls : List Nat} {i : Nat} (h : Cut tool ls i) : ls.length ≤ i := by
  have hs := h.sum
  have hp := h.pos
  clear h
  subst hs
  induction ls with
  | nil => simp
  | cons x xs ih =>
    have h0 := hp 0 (by simp)
    have := ih (fun k hk => by have := hp (k + 1) (by simpa using hk); simpa using this)
    simp at h0 ⊢
    omega
theorem cut_le {tool : Nat → Bool} {ls : List Nat} {i : Nat} (h : Cut tool ls i) (k : Nat) (hk : k < ls.length) : offs ls k + ls.getD k 0 ≤ i := by
  rw [← offs_succ ls k hk, ← h.sum]
  unfold offs
  conv => rhs; rw [← List.take_append_drop (k + 1) ls, List.sum_append]
  omega

/-! ### The turns in memory -/
section
variable (R C : Nat → ByteArray)
/-- Turn v shows messages s, .. s + l - 1: one message in the conversation's own row, with no room behind it; or a row of its own. -/
def Turn (w : World) (B gm : Nat) (v : Value) (s l : Nat) : Prop :=
  (v = .slice (some ⟨gm, s * 4, none⟩) 1 1 ∧ l = 1) ∨ (w.ownsRow B 31 4 v l (mcs R C s l) ∧ 0 < l)
structure Trns (w : World) (B gm : Nat) (ls : List Nat) (vs : List Value) : Prop where
  len : vs.length = ls.length
  each : ∀ k, k < ls.length → Turn R C w B gm (vs.getD k undef) (offs ls k) (ls.getD k 0)
  sep : ∀ k k', k < ls.length → k' < ls.length → k ≠ k' → (vs.getD k undef).ownBlock = (vs.getD k' undef).ownBlock → (vs.getD k undef).ownBlock = some gm
end
variable {R C : Nat → ByteArray}

/-- Rows of other element types lie in other blocks. -/
theorem own_ne {w : World} {B B' l n : Nat} {v v' : Value} {xs ys : List Value} (h : w.ownsRow B 31 4 v l xs) (hl : 0 < l) (h' : w.ownsRow B' 24 1 v' n ys) : v.ownBlock ≠ v'.ownBlock := by
  rcases h.2 with ⟨_, h0⟩ | ⟨g, cap, cur, rfl, _, hg, _⟩
  · omega
  · rcases h'.2 with ⟨rfl, _⟩ | ⟨g', cap', cur', rfl, _, hg', _⟩
    · simp [Value.ownBlock]
    · intro e
      simp [Value.ownBlock] at e
      subst e
      rw [hg] at hg'
      simp at hg'
theorem Turn.kept {w w' : World} {B gm s l : Nat} {v : Value} {row : Option Nat} (h : Turn R C w B gm v s l) (hg : w.grownBy w' row) (hne : v.ownBlock ≠ row ∨ v.ownBlock = some gm) (hgm : gm < B) : Turn R C w' B gm v s l := by
  rcases h with h | ⟨h, hl⟩
  · exact .inl h
  · refine .inr ⟨h.kept hg ?_, hl⟩
    rcases hne with h1 | h1
    · exact .inr h1
    · have := (h.lt gm h1).1
      omega
theorem Turn.own {w : World} {B gm s l : Nat} {v : Value} (h : Turn R C w B gm v s l) : (v.ownBlock = some gm) ∨ (w.ownsRow B 31 4 v l (mcs R C s l) ∧ 0 < l) := by
  rcases h with ⟨rfl, _⟩ | h
  · exact .inl rfl
  · exact .inr h
/-- A change in the row of turns, or in new blocks. -/
theorem Trns.kept {w w' : World} {B gm n : Nat} {ls : List Nat} {vs ys : List Value} {v : Value} {row : Option Nat} (h : Trns R C w B gm ls vs) (hv : w.ownsRow B 24 1 v n ys) (hg : w.grownBy w' row) (hr : row = none ∨ row = v.ownBlock) (hgm : gm < B) : Trns R C w' B gm ls vs := by
  refine ⟨h.len, fun k hk => (h.each k hk).kept hg ?_ hgm, h.sep⟩
  rcases (h.each k hk).own with e | ⟨ho, hl⟩
  · exact .inr e
  · left
    rcases hr with rfl | rfl
    · rcases ho.form hl with ⟨g, cap, hv', _⟩
      rw [hv']; simp [Value.ownBlock]
    · exact own_ne ho hl hv
theorem vget_app {vs : List Value} {k : Nat} (h : k < vs.length) (r : List Value) : (vs ++ r).getD k undef = vs.getD k undef := by simp [List.getD, List.getElem?_append_left h]
theorem vget_last (vs : List Value) (v : Value) : (vs ++ [v]).getD vs.length undef = v := by simp [List.getD]
/-- A new turn of one message. -/
theorem Trns.push {w : World} {B gm : Nat} {ls : List Nat} {vs : List Value} (h : Trns R C w B gm ls vs) : Trns R C w B gm (ls ++ [1]) (vs ++ [.slice (some ⟨gm, ls.sum * 4, none⟩) 1 1]) := by
  have hl := h.len
  refine ⟨by simp [hl], fun k hk => ?_, fun k k' hk hk' hne e => ?_⟩
  · by_cases c : k < ls.length
    · rw [vget_app (by omega), getD_app c, offs_app (by omega)]
      exact h.each k c
    · have : k = ls.length := by simp at hk; omega
      subst this
      rw [getD_last, offs_app (Nat.le_refl _), offs_all, ← hl, vget_last]
      exact .inl ⟨rfl, rfl⟩
  · by_cases c : k < ls.length
    · rw [vget_app (by omega)] at e ⊢
      by_cases c' : k' < ls.length
      · rw [vget_app (by omega)] at e
        exact h.sep k k' c c' hne e
      · have : k' = vs.length := by simp at hk'; omega
        subst this
        rw [vget_last] at e
        exact e
    · have : k = vs.length := by simp at hk; omega
      subst this
      rw [vget_last]
      rfl
/-- One message more in the last turn: its new row is the old one, or lies in a new block. -/
theorem Trns.grow {w w' : World} {B gm l : Nat} {ls : List Nat} {vs : List Value} {v v' : Value} {row : Option Nat} (h : Trns R C w B gm (ls ++ [l]) (vs ++ [v])) (hg : w.grownBy w' row) (hgm : gm < B)
    (hr : row = none ∨ (row = v.ownBlock ∧ v.ownBlock ≠ some gm)) (ho : w'.ownsRow B 31 4 v' (l + 1) (mcs R C ls.sum (l + 1)))
    (hat : (∃ g, v'.ownBlock = some g ∧ w.heap.size ≤ g) ∨ (v'.ownBlock = v.ownBlock ∧ v.ownBlock ≠ some gm)) : Trns R C w' B gm (ls ++ [l + 1]) (vs ++ [v']) := by
  have hl : vs.length = ls.length := by have := h.len; simpa using this
  have hv' : v'.ownBlock ≠ some gm := by
    rcases ho.form (by omega) with ⟨g, cap, e, hb, _⟩
    rw [e]
    simp [Value.ownBlock]
    omega
  have hlt : ∀ k, k < ls.length → (vs.getD k undef).ownBlock = v'.ownBlock → False := by
    intro k hk e
    have hk1 : k < (ls ++ [l]).length := by simp; omega
    rcases hat with ⟨g, a, hge⟩ | ⟨a, b⟩
    · rcases (h.each k hk1).own with c | ⟨c, d⟩
      · rw [vget_app (by omega)] at c
        rw [c] at e
        exact hv' e.symm
      · rw [vget_app (by omega)] at c
        have := (c.lt g (by rw [e, a])).2
        omega
    · have := h.sep k ls.length hk1 (by simp) (by omega)
      rw [vget_app (by omega), ← hl, vget_last] at this
      have := this (by rw [e, a])
      rw [e] at this
      exact hv' this
  refine ⟨by simp [hl], fun k hk => ?_, fun k k' hk hk' hne e => ?_⟩
  · by_cases c : k < ls.length
    · have := h.each k (by simp; omega)
      rw [vget_app (by omega), getD_app c, offs_app (by omega)] at this ⊢
      refine this.kept hg ?_ hgm
      rcases hr with rfl | ⟨rfl, hn⟩
      · left
        rcases this.own with q | ⟨q, q'⟩
        · rw [q]; simp
        · rcases q.form q' with ⟨g, cap, qe, _⟩
          rw [qe]; simp [Value.ownBlock]
      · have sp := h.sep k ls.length (by simp; omega) (by simp) (by omega)
        rw [vget_app (by omega), ← hl, vget_last] at sp
        by_cases q : (vs.getD k undef).ownBlock = v.ownBlock
        · exact .inr (sp q)
        · exact .inl q
    · have : k = ls.length := by simp at hk; omega
      subst this
      rw [getD_last, offs_app (Nat.le_refl _), offs_all, ← hl, vget_last]
      exact .inr ⟨ho, by omega⟩
  · by_cases c : k < ls.length
    · rw [vget_app (by omega)] at e ⊢
      by_cases c' : k' < ls.length
      · rw [vget_app (by omega)] at e
        have := h.sep k k' (by simp; omega) (by simp; omega) hne
        rw [vget_app (by omega), vget_app (by omega)] at this
        exact this e
      · have : k' = vs.length := by simp at hk'; omega
        subst this
        rw [vget_last] at e
        exact (hlt k c e).elim
    · have : k = vs.length := by simp at hk; omega
      subst this
      by_cases c' : k' < ls.length
      · rw [vget_last, vget_app (by omega)] at e
        exact (hlt k' c' e.symm).elim
      · simp at hk'
        omega
end Go.Proofs.Qxb6601072aMods.trn
