import Derived.Test.Qxb6601072aModsTrnD
set_option linter.unusedVariables false
namespace Go.Proofs.Qxb6601072aMods.trn
open Go.RowKit

/-- What the walk is told of a slice of strings that came in. -/
def IsSRow (w : World) (a : Option Addr) (len cap : Nat) (ss : List ByteArray) : Prop :=
  (a = none ∧ len = 0 ∧ cap = 0 ∧ ss = []) ∨
  ∃ x, a = some x ∧ len ≤ cap ∧ cap ≤ maxLen ∧ ss.length = cap ∧ ∀ i, i < ss.length → w.cell? (x.add i) = some (.string (ss.getD i ByteArray.empty))

theorem sview_of_row {w : World} {a : Option Addr} {len cap : Nat} {ss : List ByteArray} (h : IsSRow w a len cap ss) : len ≤ 9223372036854775807 ∧ ∃ g off S, SView w a len g off S := by
  rcases h with ⟨rfl, rfl, rfl, rfl⟩ | ⟨x, rfl, hl, hm, hz, hc⟩
  · exact ⟨by omega, 0, 0, fun _ => ByteArray.empty, fun h => by omega, fun t h => by omega⟩
  · unfold maxLen at hm
    refine ⟨by omega, x.block, x.off, fun i => ss.getD i ByteArray.empty, fun h0 => ?_, fun t ht => ?_⟩
    · have := World.cell?_spot (hc 0 (by omega))
      obtain ⟨b, o, s⟩ := x
      have hs : s = none := by simpa [Addr.add] using this
      rw [hs]
    · have h0 := World.cell?_spot (hc 0 (by omega))
      obtain ⟨b, o, s⟩ := x
      have hs : s = none := by simpa [Addr.add] using h0
      subst hs
      have := hc t (by omega)
      rw [Addr.add_lit] at this
      exact this

theorem content_int (co : Option Addr) (lc cc g off : Nat) (S : Nat → ByteArray) (x : Int) (i : Nat) (w : World) (hx : x = i) (hl : lc ≤ 65536) (hi : i ≤ 65536) (hv : SView w co lc g off S) :
    Calls Trym.prog 11 #[.slice co lc cc, .int .i64 x] w fun e w' => e = .returned (.string (cont lc S i)) ∧ w = w' := by
  subst hx
  exact content_any co lc cc g off S i w hl hi hv

theorem Msgs.later {R C : Nat → ByteArray} {w w' : World} {gm n : Nat} (h : Msgs R C w gm n) (hgm : gm < w.heap.size) (hb : Below w.heap.size w w') : Msgs R C w' gm n :=
  fun i hi f hf => (hb.cell (by exact hgm)).trans (h i hi f hf)

/-- A turn's messages, as cells. -/
theorem turn_read {R C : Nat → ByteArray} {w : World} {B gm n s l : Nat} {v : Value} (h : Turn R C w B gm v s l) (hm : Msgs R C w gm n) (hs : s + l ≤ n) :
    ∃ g off cap, v = .slice (some ⟨g, off, none⟩) l cap ∧ ∀ p, p < l → ∀ f, f < 4 → w.cell? ⟨g, off + p * 4 + f, none⟩ = (mc R C (s + p))[f]? := by
  rcases h with ⟨rfl, rfl⟩ | ⟨h, hl⟩
  · refine ⟨gm, s * 4, 1, rfl, fun p hp f hf => ?_⟩
    obtain rfl : p = 0 := by omega
    rw [Nat.zero_mul, Nat.add_zero, Nat.add_zero]
    exact hm s (by omega) f hf
  · obtain ⟨g, cap, rfl, _, _⟩ := h.form hl
    refine ⟨g, 0, cap, rfl, fun p hp f hf => ?_⟩
    rw [Nat.zero_add, h.cellAt (p * 4 + f) (by omega), mcs_get R C s l p f hp hf]

theorem cut_at {tool : Nat → Bool} {ls : List Nat} {n k : Nat} (h : Cut tool ls n) (hk : k ≤ ls.length) (ho : offs ls k < n) : k < ls.length := by
  rcases Nat.lt_or_ge k ls.length with a | a
  · exact a
  · have : k = ls.length := by omega
    subst this
    rw [offs_all, h.sum] at ho
    omega
theorem cut_end {tool : Nat → Bool} {ls : List Nat} {n k : Nat} (h : Cut tool ls n) (hk : k ≤ ls.length) (ho : ¬ offs ls k < n) : k = ls.length := by
  rcases Nat.lt_or_ge k ls.length with a | a
  · have := cut_le h k a
    have := h.pos k a
    omega
  · omega
theorem cut_bd {tool : Nat → Bool} {ls : List Nat} {n k : Nat} (h : Cut tool ls n) (hk : k ≤ ls.length) : offs ls k ≤ n := by
  rcases Nat.lt_or_ge k ls.length with a | a
  · have := cut_le h k a
    omega
  · have : k = ls.length := by omega
    subst this
    rw [offs_all, h.sum]
    exact Nat.le_refl _
/-- The run from turn k's start. -/
theorem cut_run {tool : Nat → Bool} {ls : List Nat} {n k : Nat} (h : Cut tool ls n) (hk : k < ls.length) :
    (tool (offs ls k) = false → ls.getD k 0 = 1) ∧ (tool (offs ls k) = true → (∀ p, p < ls.getD k 0 → tool (offs ls k + p) = true) ∧ (offs ls k + ls.getD k 0 < n → tool (offs ls k + ls.getD k 0) = false)) := by
  have hp := h.pos k hk
  refine ⟨fun ht => ?_, fun ht => ?_⟩
  · rcases Nat.lt_or_ge 1 (ls.getD k 0) with a | a
    · have := h.tools k hk a 0 (by omega)
      rw [Nat.add_zero, ht] at this
      cases this
    · omega
  · have hall : ∀ p, p < ls.getD k 0 → tool (offs ls k + p) = true := by
      intro p hp'
      rcases Nat.lt_or_ge 1 (ls.getD k 0) with a | a
      · exact h.tools k hk a p hp'
      · obtain rfl : p = 0 := by omega
        exact ht
    refine ⟨hall, fun hlt => ?_⟩
    rw [← offs_succ ls k hk] at hlt ⊢
    have hk1 : k + 1 < ls.length := cut_at h (by omega) hlt
    have hb := h.brk (k + 1) (by omega) hk1
    rcases hb' : tool (offs ls (k + 1)) with _ | _
    · rfl
    · refine absurd ⟨?_, hb'⟩ hb
      rw [offs_succ ls k hk, show offs ls k + ls.getD k 0 - 1 = offs ls k + (ls.getD k 0 - 1) by omega]
      exact hall _ (by omega)
end Go.Proofs.Qxb6601072aMods.trn
