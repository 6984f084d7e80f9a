/-
  No cell of these rows narrows 'for every input' (looked for: loops, veiled, ifaces, maps, wideKeys, modest, calm, conditions, laid).
  DERIVED. THE GIVEN ROWS OF THIS SEAT. 1 by the template 'for every input the law returns true; each argument reads behind the call as it read before'; 0 by the template 'total and deterministic' (their statements: Qxb6602185aModsTotals.lean).
  GIVEN WITH THE SEED: the statements are not yours to turn. If you find one false, say at which input.
  Laid BY PROGRAM, IN A SANDBOX (cutbox-rows.mjs): the forced cells as the released guide's own fill.sh prints them over the translation d8af742ea9aeddcb… (all of the seat's roots in one cut). By AI agents, Wed Nov 11 2026. No macro, syntax, notation, axiom, sorry.
-/
import Derived.Test.Qxb6602185aModsChecked
import GoSem.Claim
import GoSem.ClaimJoined
import GoSem.ClaimMapViews
import Derived.JoinedTies
import Derived.KernelRfl
namespace Go.Proofs.Qxb6602185aMods
/- THE CELL 'sum', in the pinned program and in every row, IS THE sha256 OF THE DUMP (.gsa) THAT Qxb6602185aModsProg.lean LOADS. Nothing in Lean hashes anything: it is a label: what it is worth is what the hold of that sum in a sandbox is worth. -/
noncomputable def Trym.pinned : Pinned := { name := "qxb6602185amods", sum := "d8af742ea9aeddcb6d5c69790c99b136def69732809b4c0589df56f4b72448c9", checked := Trym.checked }
namespace Rows
def none {H : Type} : Left H := { results := [], args := [] }

/-- 'zzlaws_credentialsfile_b1.FnEndLineEndsForGood': WHATEVER THE INPUT: true; the input reads as it did. -/
def fnEndLineEndsForGoodSpec : ChangeSpec := { name := "fnEndLineEndsForGood", fn := fun _ => fun
  | [d1, d2, d3] => { results := [.lit (.bool true)], args := [d1, d2, d3] }
  | _ => none }
def fnEndLineEndsForGoodRow : OpenClaim := { program := "qxb6602185amods", sum := "d8af742ea9aeddcb6d5c69790c99b136def69732809b4c0589df56f4b72448c9", func := "example.com/cert-credential-helper/cert-credential-helper/zzlaws_credentialsfile_b1.FnEndLineEndsForGood", spec := "fnEndLineEndsForGood", make := .lifted ["publicsums"], apart := false }
def FnEndLineEndsForGoodSaid : Prop := fnEndLineEndsForGoodRow.holds Trym.pinned (OpenSpec.ofChange fnEndLineEndsForGoodSpec)

/-- ITS FALSE NEIGHBOUR: 'it returns false'. Refute it at one input. -/
def fnEndLineEndsForGoodWrong : ChangeSpec := { name := "fnEndLineEndsForGood", fn := fun _ => fun
  | [d1, d2, d3] => { results := [.lit (.bool false)], args := [d1, d2, d3] }
  | _ => none }
def FnEndLineEndsForGoodWrongFalsely : Prop := fnEndLineEndsForGoodRow.holds Trym.pinned (OpenSpec.ofChange fnEndLineEndsForGoodWrong)

end Rows
end Go.Proofs.Qxb6602185aMods
