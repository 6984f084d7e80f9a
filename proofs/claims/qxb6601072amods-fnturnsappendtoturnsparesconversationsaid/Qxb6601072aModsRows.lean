/-
  No cell of these rows narrows 'for every input' (looked for: loops, veiled, ifaces, maps, wideKeys, modest, calm, conditions, laid).
  DERIVED. THE GIVEN ROWS OF THIS SEAT. 3 by the template 'for every input the law returns true; each argument reads behind the call as it read before'; 0 by the template 'total and deterministic' (their statements: Qxb6601072aModsTotals.lean).
  GIVEN WITH THE SEED: the statements are not yours to turn. If you find one false, say at which input.
  Laid BY PROGRAM, IN A SANDBOX (cutbox-rows.mjs): the forced cells as the released guide's own fill.sh prints them over the translation ae9d4eaa3cfa1e09… (all of the seat's roots in one cut). By AI agents, Wed Nov 11 2026. No macro, syntax, notation, axiom, sorry.
-/
import Derived.Test.Qxb6601072aModsChecked
import GoSem.Claim
import GoSem.ClaimJoined
import GoSem.ClaimMapViews
import Derived.JoinedTies
import Derived.KernelRfl
namespace Go.Proofs.Qxb6601072aMods
/- THE CELL 'sum', in the pinned program and in every row, IS THE sha256 OF THE DUMP (.gsa) THAT Qxb6601072aModsProg.lean LOADS. Nothing in Lean hashes anything: it is a label: what it is worth is what the hold of that sum in a sandbox is worth. -/
noncomputable def Trym.pinned : Pinned := { name := "qxb6601072amods", sum := "ae9d4eaa3cfa1e09396e95bd033723398702a4ddd81654861c8fed4ca06978a9", checked := Trym.checked }
namespace Rows
def none {H : Type} : Left H := { results := [], args := [] }

/-- 'zzlaws_internal_provider_b1.FnTurnsMatchesRunModel': WHATEVER THE INPUT: true; the input reads as it did. -/
def fnTurnsMatchesRunModelSpec : ChangeSpec := { name := "fnTurnsMatchesRunModel", fn := fun _ => fun
  | [d1, d2] => { results := [.lit (.bool true)], args := [d1, d2] }
  | _ => none }
def fnTurnsMatchesRunModelRow : OpenClaim := { program := "qxb6601072amods", sum := "ae9d4eaa3cfa1e09396e95bd033723398702a4ddd81654861c8fed4ca06978a9", func := "example.com/banyan/banyan/zzlaws_internal_provider_b1.FnTurnsMatchesRunModel", spec := "fnTurnsMatchesRunModel", make := .lifted ["publicsums"], apart := false }
def FnTurnsMatchesRunModelSaid : Prop := fnTurnsMatchesRunModelRow.holds Trym.pinned (OpenSpec.ofChange fnTurnsMatchesRunModelSpec)

/-- ITS FALSE NEIGHBOUR: 'it returns false'. Refute it at one input. -/
def fnTurnsMatchesRunModelWrong : ChangeSpec := { name := "fnTurnsMatchesRunModel", fn := fun _ => fun
  | [d1, d2] => { results := [.lit (.bool false)], args := [d1, d2] }
  | _ => none }
def FnTurnsMatchesRunModelWrongFalsely : Prop := fnTurnsMatchesRunModelRow.holds Trym.pinned (OpenSpec.ofChange fnTurnsMatchesRunModelWrong)

/-- 'zzlaws_internal_provider_b1.FnTurnsPartitionCharacterised': WHATEVER THE INPUT: true; the input reads as it did. -/
def fnTurnsPartitionCharacterisedSpec : ChangeSpec := { name := "fnTurnsPartitionCharacterised", fn := fun _ => fun
  | [d1, d2] => { results := [.lit (.bool true)], args := [d1, d2] }
  | _ => none }
def fnTurnsPartitionCharacterisedRow : OpenClaim := { program := "qxb6601072amods", sum := "ae9d4eaa3cfa1e09396e95bd033723398702a4ddd81654861c8fed4ca06978a9", func := "example.com/banyan/banyan/zzlaws_internal_provider_b1.FnTurnsPartitionCharacterised", spec := "fnTurnsPartitionCharacterised", make := .lifted ["publicsums"], apart := false }
def FnTurnsPartitionCharacterisedSaid : Prop := fnTurnsPartitionCharacterisedRow.holds Trym.pinned (OpenSpec.ofChange fnTurnsPartitionCharacterisedSpec)

/-- ITS FALSE NEIGHBOUR: 'it returns false'. Refute it at one input. -/
def fnTurnsPartitionCharacterisedWrong : ChangeSpec := { name := "fnTurnsPartitionCharacterised", fn := fun _ => fun
  | [d1, d2] => { results := [.lit (.bool false)], args := [d1, d2] }
  | _ => none }
def FnTurnsPartitionCharacterisedWrongFalsely : Prop := fnTurnsPartitionCharacterisedRow.holds Trym.pinned (OpenSpec.ofChange fnTurnsPartitionCharacterisedWrong)

/-- 'zzlaws_internal_provider_b1.FnTurnsAppendToTurnSparesConversation': WHATEVER THE INPUT: true; the input reads as it did. -/
def fnTurnsAppendToTurnSparesConversationSpec : ChangeSpec := { name := "fnTurnsAppendToTurnSparesConversation", fn := fun _ => fun
  | [d1, d2] => { results := [.lit (.bool true)], args := [d1, d2] }
  | _ => none }
def fnTurnsAppendToTurnSparesConversationRow : OpenClaim := { program := "qxb6601072amods", sum := "ae9d4eaa3cfa1e09396e95bd033723398702a4ddd81654861c8fed4ca06978a9", func := "example.com/banyan/banyan/zzlaws_internal_provider_b1.FnTurnsAppendToTurnSparesConversation", spec := "fnTurnsAppendToTurnSparesConversation", make := .lifted ["publicsums"], apart := false }
def FnTurnsAppendToTurnSparesConversationSaid : Prop := fnTurnsAppendToTurnSparesConversationRow.holds Trym.pinned (OpenSpec.ofChange fnTurnsAppendToTurnSparesConversationSpec)

/-- ITS FALSE NEIGHBOUR: 'it returns false'. Refute it at one input. -/
def fnTurnsAppendToTurnSparesConversationWrong : ChangeSpec := { name := "fnTurnsAppendToTurnSparesConversation", fn := fun _ => fun
  | [d1, d2] => { results := [.lit (.bool false)], args := [d1, d2] }
  | _ => none }
def FnTurnsAppendToTurnSparesConversationWrongFalsely : Prop := fnTurnsAppendToTurnSparesConversationRow.holds Trym.pinned (OpenSpec.ofChange fnTurnsAppendToTurnSparesConversationWrong)

end Rows
end Go.Proofs.Qxb6601072aMods
