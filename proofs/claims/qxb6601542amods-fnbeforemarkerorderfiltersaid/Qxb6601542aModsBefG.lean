import Derived.Test.Qxb6601542aModsBefF
import Derived.OpenShut
import Derived.Deep.Strs
set_option linter.unusedVariables false
namespace Go.Proofs.Qxb6601542aMods.bef
open Go.RowKit

/-- What the walk is told of a slice of transactions that came in. -/
def IsTRow (w : World) (a : Option Addr) (len cap : Nat) (T : List Txn) : Prop :=
  (a = none ∧ len = 0 ∧ cap = 0 ∧ T = []) ∨
  ∃ x, a = some x ∧ len ≤ cap ∧ cap ≤ maxLen ∧ T.length = len ∧ (∀ i, i < len → ∀ f, f < 3 → w.cell? (x.add (i * 3 + f)) = (tc (T.getD i t0))[f]?) ∧ ∀ i, i < len → (T.getD i t0).f ≤ mx
def IsRow (w : World) (a : Option Addr) (len cap : Nat) (zs : List Int) : Prop :=
  (a = none ∧ len = 0 ∧ cap = 0 ∧ zs = []) ∨
  ∃ x, a = some x ∧ len ≤ cap ∧ cap ≤ maxLen ∧ zs.length = cap ∧ ∀ i, i < zs.length → w.cell? (x.add i) = some (.int .i64 (zs.getD i 0))

theorem addr_plain {w : World} {x : Addr} {v : Value} (h : w.cell? (x.add 0) = some v) : ∃ b off, x = ⟨b, off, none⟩ := by
  obtain ⟨b, off, spot⟩ := x
  have hs : spot = none := by simpa [Addr.add] using World.cell?_spot h
  exact ⟨b, off, by rw [hs]⟩

theorem tview_of_row {w : World} {a : Option Addr} {len cap : Nat} {T : List Txn} (h : IsTRow w a len cap T) : len ≤ 9223372036854775807 ∧ (a = none → len = 0) ∧ (∀ i, i < len → (T.getD i t0).f ≤ mx) ∧ ∃ g off, TView w a len g off T := by
  rcases h with ⟨rfl, rfl, rfl, rfl⟩ | ⟨x, rfl, hl, hm, hz, hc, hf⟩
  · exact ⟨by omega, fun _ => rfl, fun i h => by omega, 0, 0, rfl, fun h => by omega, fun t h => by omega⟩
  · unfold maxLen at hm
    refine ⟨by omega, fun h => (by cases h), hf, ?_⟩
    by_cases h0 : 0 < len
    · obtain ⟨b, off, rfl⟩ := addr_plain (hc 0 h0 0 (by omega))
      refine ⟨b, off, hz, fun _ => rfl, fun t ht f hf => ?_⟩
      have := hc t ht f hf
      rw [Addr.add_lit] at this
      rw [Nat.add_assoc]
      exact this
    · exact ⟨0, 0, hz, fun h => absurd h h0, fun t h => by omega⟩
theorem iview_of_row {w : World} {a : Option Addr} {len cap : Nat} {zs : List Int} (h : IsRow w a len cap zs) : len ≤ 9223372036854775807 ∧ (a = none → len = 0) ∧ ∃ g off, IView w a len g off (zs.take len) := by
  rcases h with ⟨rfl, rfl, rfl, rfl⟩ | ⟨x, rfl, hl, hm, hz, hc⟩
  · exact ⟨by omega, fun _ => rfl, 0, 0, rfl, fun h => by omega, fun t h => by omega⟩
  · unfold maxLen at hm
    refine ⟨by omega, fun h => (by cases h), ?_⟩
    by_cases h0 : 0 < len
    · obtain ⟨b, off, rfl⟩ := addr_plain (hc 0 (by omega))
      refine ⟨b, off, by simp; omega, fun _ => rfl, fun t ht => ?_⟩
      have := hc t (by omega)
      rw [Addr.add_lit] at this
      rw [this]
      simp [List.getD, ht]
    · exact ⟨0, 0, by simp; omega, fun h => absurd h h0, fun t h => by omega⟩

theorem tcopied_view {ao : Option Addr} {l : Nat} {T : List Txn} {w w' : World} {v : Value} (h : TCopied ao l T w v w') (hn : ao = none → l = 0) (hT : T.length = l) : ∃ ea, v = .slice ea l l ∧ TView w' ea l w.heap.size 0 T ∧ (ea = none → l = 0) := by
  rcases h with ⟨rfl, h0⟩ | ⟨rfl, hv⟩
  · obtain rfl := hn h0
    exact ⟨none, rfl, ⟨hT, fun h => by omega, fun t h => by omega⟩, fun _ => rfl⟩
  · exact ⟨_, rfl, hv, fun h => by cases h⟩
theorem icopied_shape {ao : Option Addr} {l : Nat} {w : World} {v : Value} (h : ICopied ao l w v) (hn : ao = none → l = 0) : ∃ ea, v = .slice ea l l := by
  rcases h with ⟨rfl, h0⟩ | rfl
  · obtain rfl := hn h0
    exact ⟨none, rfl⟩
  · exact ⟨_, rfl⟩

open Go.ChangeShapes Go.WideShapes in
/-- A slice of transactions among the arguments, opened. -/
theorem open_txns {H : Type} {enc : TypeId × Value → H} {w : World} {fuel len cap : Nat} {a : Option Addr} {x : DataW H × List MemPlace}
    (h : DataW.trod enc Trym.prog w 0 (fun _ => true) true fuel 24 [.slice a len cap] = some x) : ∃ T, IsTRow w a len cap T := by
  have hc36 : Trym.prog.cellsOf 36 = 3 := by kernel_rfl
  have hc2 : Trym.prog.cellsOf 2 = 1 := by kernel_rfl
  rcases Go.Deep.open_slice Trym.underlying24 h with ⟨hcs, _⟩ | ⟨y, l, c, m, n, D, Pl, hcs, _, hl, hm, hmm, _, hel⟩
  · simp at hcs
    obtain ⟨rfl, rfl, rfl⟩ := hcs
    exact ⟨[], .inl ⟨rfl, rfl, rfl, rfl⟩⟩
  · simp at hcs
    obtain ⟨rfl, rfl, rfl⟩ := hcs
    have hlm : len ≤ m := by rw [hmm]; simpa using hl
    have each : ∀ i, i < len → ∃ t : Txn, (∀ f, f < 3 → w.cell? (y.add (i * 3 + f)) = (tc t)[f]?) ∧ t.f ≤ mx := by
      intro i hi
      obtain ⟨cs', hcells, htr⟩ := hel i (by omega)
      rw [hc36] at hcells
      obtain ⟨y0, y1, y2, n', _, hlen, h0, h1, h2⟩ := Go.Deep.trod_struct3 Trym.underlying36 htr
      rw [hc36] at hlen
      simp only [hc2] at h0 h1 h2
      match cs', hlen with
      | [c0, c1, c2], _ =>
        obtain ⟨a0, e0, _, _⟩ := DataW.trod_int Trym.underlying2 h0
        obtain ⟨a1, e1, _, w1⟩ := DataW.trod_int Trym.underlying2 h1
        obtain ⟨a2, e2, _, _⟩ := DataW.trod_int Trym.underlying2 h2
        simp at e0 e1 e2
        subst e0 e1 e2
        obtain ⟨_, _, hcell⟩ := World.cells?_some hcells
        refine ⟨⟨a0, a1, a2⟩, fun f hf => ?_, (bounds_i64 w1).2⟩
        rw [← Go.Deep.add_add]
        exact hcell f hf
    obtain ⟨F, hF⟩ := @Go.Deep.choose_lt Txn ⟨t0⟩ _ _ each
    refine ⟨(List.range len).map F, .inr ⟨y, rfl, hl, hm, by simp, fun i hi f hf => ?_, fun i hi => ?_⟩⟩
    · have e : ((List.range len).map F).getD i t0 = F i := by simp [List.getD, hi]
      rw [e]
      exact (hF i hi).1 f hf
    · have e : ((List.range len).map F).getD i t0 = F i := by simp [List.getD, hi]
      rw [e]
      exact (hF i hi).2
end Go.Proofs.Qxb6601542aMods.bef
