import Derived.Test.Qxb6601542aModsRows
import Derived.WalkKit
import Derived.WalkSpells
import Derived.Below
import Derived.Deep.QuietTactic
import Derived.BigQuiet
import Derived.Deep.RegionWith
import Derived.Deep.RegionLaw
import Derived.Deep.RegionHeld3
import Derived.Deep.DrawnRows
import Derived.Deep.AppendLies
set_option linter.unusedVariables false
namespace Go.Proofs.Qxb6601542aMods.bef
open Go.RowKit

theorem below_drewN {B : Nat} {a w : World} (h : Below B a w) (n : Nat) : Below B a (w.drewN n) := h.trans ⟨rfl, rfl, rfl, Nat.le_refl _, fun _ _ => rfl⟩

/-- A transaction: producer, first offset, last offset (its marker's). -/
structure Txn where
  p : Int
  f : Int
  l : Int

def tc (t : Txn) : List Value := [.int .i64 t.p, .int .i64 t.f, .int .i64 t.l]
/-- Transactions as cells. -/
def tcs : List Txn → List Value
  | [] => []
  | t :: ts => tc t ++ tcs ts
theorem tcs_len : ∀ ts : List Txn, (tcs ts).length = 3 * ts.length
  | [] => rfl
  | t :: ts => by simp [tcs, tc, tcs_len ts]; omega
theorem tcs_app : ∀ (ts us : List Txn), tcs (ts ++ us) = tcs ts ++ tcs us
  | [], us => rfl
  | t :: ts, us => by simp [tcs, tcs_app ts us]
def t0 : Txn := ⟨0, 0, 0⟩
theorem tcs_get : ∀ (ts : List Txn) (i f : Nat), i < ts.length → f < 3 → (tcs ts)[i * 3 + f]? = (tc (ts.getD i t0))[f]?
  | [], i, f, h, _ => by cases h
  | t :: ts, 0, f, _, hf => by
    rw [Nat.zero_mul, Nat.zero_add]
    unfold tcs
    rw [List.getElem?_append_left (by simpa [tc] using hf)]
    rfl
  | t :: ts, i + 1, f, h, hf => by
    unfold tcs
    rw [List.getElem?_append_right (by simp [tc]; omega)]
    have := tcs_get ts i f (by simpa using h) hf
    rw [show (i + 1) * 3 + f - (tc t).length = i * 3 + f by simp [tc]; omega, this]
    rfl

/-- The slice value '.slice ao l _' shows the transactions T: in the cells of block g from off on. -/
def TView (w : World) (ao : Option Addr) (l g off : Nat) (T : List Txn) : Prop :=
  T.length = l ∧ (0 < l → ao = some ⟨g, off, none⟩) ∧ ∀ t, t < l → ∀ f, f < 3 → w.cell? ⟨g, off + t * 3 + f, none⟩ = (tc (T.getD t t0))[f]?
theorem TView.later {w w' : World} {ao : Option Addr} {l g off : Nat} {T : List Txn} (h : TView w ao l g off T) (hb : Below w.heap.size w w') : TView w' ao l g off T :=
  ⟨h.1, h.2.1, fun t ht f hf => by
    have hc := h.2.2 t ht f hf
    have hx : f < (tc (T.getD t t0)).length := by simpa [tc] using hf
    rw [List.getElem?_eq_getElem hx] at hc ⊢
    exact cell_later hb hc⟩
/-- The slice value '.slice ao l _' shows the numbers A. -/
def IView (w : World) (ao : Option Addr) (l g off : Nat) (A : List Int) : Prop :=
  A.length = l ∧ (0 < l → ao = some ⟨g, off, none⟩) ∧ ∀ t, t < l → w.cell? ⟨g, off + t, none⟩ = some (.int .i64 (A.getD t 0))
theorem IView.later {w w' : World} {ao : Option Addr} {l g off : Nat} {A : List Int} (h : IView w ao l g off A) (hb : Below w.heap.size w w') : IView w' ao l g off A :=
  ⟨h.1, h.2.1, fun t ht => cell_later hb (h.2.2 t ht)⟩

def AnyBool (e : Ending) : Prop := ∃ b, e = .returned (.bool b)
theorem AnyBool.mk (b : Bool) : AnyBool (.returned (.bool b)) := ⟨_, rfl⟩

theorem bytes9 (a0 a1 : Option Addr) (l0 c0 l1 c1 : Nat) (o : Int) (w : World) (h0 : l0 ≤ 9223372036854775807) (h1 : l1 ≤ 9223372036854775807) :
    Calls Trym.prog 9 #[.slice a0 l0 c0, .slice a1 l1 c1, .int .i64 o] w fun e w' => AnyBool e ∧ w = w' := by
  go_enter Trym.func9, Trym.ntmps9
  go_wp2
  all_goals
    go_ret
    exact ⟨AnyBool.mk _, rfl⟩

theorem bytes16 (a0 a1 : Option Addr) (l0 c0 l1 c1 : Nat) (o : Int) (w : World) (h0 : l0 ≤ 9223372036854775807) (h1 : l1 ≤ 9223372036854775807) :
    Calls Trym.prog 16 #[.slice a0 l0 c0, .slice a1 l1 c1, .int .i64 o] w fun e w' => AnyBool e ∧ w = w' := by
  go_enter Trym.func16, Trym.ntmps16
  go_wp2
  all_goals
    go_ret
    exact ⟨AnyBool.mk _, rfl⟩

theorem same_any (p f l : Int) (w : World) :
    Calls Trym.prog 14 #[.agg #[.int .i64 p, .int .i64 f, .int .i64 l], .agg #[.int .i64 p, .int .i64 f, .int .i64 l]] w fun e w' => e = .returned (.bool true) ∧ Below w.heap.size w w' := by
  go_enter Trym.func14, Trym.ntmps14
  go_wp2
  go_ret
  exact ⟨by simp, ((Below.refl _ _).alloc (Nat.le_refl _) _).alloc (by simp) _⟩

def ztx : Value := .agg #[.int .i64 0, .int .i64 0, .int .i64 0]
theorem info36 : (Trym.prog.info? 36).map (fun i => (i.zero, i.size, i.bytes)) = some (some ztx, 3, 24) := by kernel_rfl
theorem info35 : (Trym.prog.info? 35).map (fun i => (i.zero, i.size, i.bytes)) = some (some ztx, 3, 24) := by kernel_rfl
theorem info2 : (Trym.prog.info? 2).map (fun i => (i.zero, i.size, i.bytes)) = some (some (.int .i64 0), 1, 8) := by kernel_rfl
end Go.Proofs.Qxb6601542aMods.bef
