/-
  No cell of these rows narrows 'for every input' (looked for: loops, veiled, ifaces, maps, wideKeys, modest, calm, conditions, laid).
  DERIVED. THE GIVEN ROWS OF THIS SEAT. 4 by the template 'for every input the law returns true; each argument reads behind the call as it read before'; 0 by the template 'total and deterministic' (their statements: Qxb6601542aModsTotals.lean).
  GIVEN WITH THE SEED: the statements are not yours to turn. If you find one false, say at which input.
  Laid BY PROGRAM, IN A SANDBOX (cutbox-rows.mjs): the forced cells as the released guide's own fill.sh prints them over the translation 2a77da1ee3b23fff… (all of the seat's roots in one cut). By AI agents, Wed Nov 11 2026. No macro, syntax, notation, axiom, sorry.
-/
import Derived.Test.Qxb6601542aModsChecked
import GoSem.Claim
import GoSem.ClaimJoined
import GoSem.ClaimMapViews
import Derived.JoinedTies
import Derived.KernelRfl
namespace Go.Proofs.Qxb6601542aMods
/- THE CELL 'sum', in the pinned program and in every row, IS THE sha256 OF THE DUMP (.gsa) THAT Qxb6601542aModsProg.lean LOADS. Nothing in Lean hashes anything: it is a label: what it is worth is what the hold of that sum in a sandbox is worth. -/
noncomputable def Trym.pinned : Pinned := { name := "qxb6601542amods", sum := "2a77da1ee3b23fffafd9f8be6ca38416964d92fe9ca1dc5d4c47236488f44321", checked := Trym.checked }
namespace Rows
def none {H : Type} : Left H := { results := [], args := [] }

/-- 'zzlaws_internal_store_b1.FnValidTopicNameSubstringsStayValid': WHATEVER THE INPUT: true; the input reads as it did. -/
def fnValidTopicNameSubstringsStayValidSpec : ChangeSpec := { name := "fnValidTopicNameSubstringsStayValid", fn := fun _ => fun
  | [d1, d2, d3] => { results := [.lit (.bool true)], args := [d1, d2, d3] }
  | _ => none }
def fnValidTopicNameSubstringsStayValidRow : OpenClaim := { program := "qxb6601542amods", sum := "2a77da1ee3b23fffafd9f8be6ca38416964d92fe9ca1dc5d4c47236488f44321", func := "example.com/fenceline/fenceline/zzlaws_internal_store_b1.FnValidTopicNameSubstringsStayValid", spec := "fnValidTopicNameSubstringsStayValid", make := .lifted ["publicsums"], apart := false }
def FnValidTopicNameSubstringsStayValidSaid : Prop := fnValidTopicNameSubstringsStayValidRow.holds Trym.pinned (OpenSpec.ofChange fnValidTopicNameSubstringsStayValidSpec)

/-- ITS FALSE NEIGHBOUR: 'it returns false'. Refute it at one input. -/
def fnValidTopicNameSubstringsStayValidWrong : ChangeSpec := { name := "fnValidTopicNameSubstringsStayValid", fn := fun _ => fun
  | [d1, d2, d3] => { results := [.lit (.bool false)], args := [d1, d2, d3] }
  | _ => none }
def FnValidTopicNameSubstringsStayValidWrongFalsely : Prop := fnValidTopicNameSubstringsStayValidRow.holds Trym.pinned (OpenSpec.ofChange fnValidTopicNameSubstringsStayValidWrong)

/-- 'zzlaws_internal_store_b1.FnBeforeExact': WHATEVER THE INPUT: true; the input reads as it did. -/
def fnBeforeExactSpec : ChangeSpec := { name := "fnBeforeExact", fn := fun _ => fun
  | [d1, d2, d3] => { results := [.lit (.bool true)], args := [d1, d2, d3] }
  | _ => none }
def fnBeforeExactRow : OpenClaim := { program := "qxb6601542amods", sum := "2a77da1ee3b23fffafd9f8be6ca38416964d92fe9ca1dc5d4c47236488f44321", func := "example.com/fenceline/fenceline/zzlaws_internal_store_b1.FnBeforeExact", spec := "fnBeforeExact", make := .lifted ["publicsums"], apart := false }
def FnBeforeExactSaid : Prop := fnBeforeExactRow.holds Trym.pinned (OpenSpec.ofChange fnBeforeExactSpec)

/-- ITS FALSE NEIGHBOUR: 'it returns false'. Refute it at one input. -/
def fnBeforeExactWrong : ChangeSpec := { name := "fnBeforeExact", fn := fun _ => fun
  | [d1, d2, d3] => { results := [.lit (.bool false)], args := [d1, d2, d3] }
  | _ => none }
def FnBeforeExactWrongFalsely : Prop := fnBeforeExactRow.holds Trym.pinned (OpenSpec.ofChange fnBeforeExactWrong)

/-- 'zzlaws_internal_store_b1.FnBeforeMarkerOrderFilter': WHATEVER THE INPUT: true; the input reads as it did. -/
def fnBeforeMarkerOrderFilterSpec : ChangeSpec := { name := "fnBeforeMarkerOrderFilter", fn := fun _ => fun
  | [d1, d2, d3] => { results := [.lit (.bool true)], args := [d1, d2, d3] }
  | _ => none }
def fnBeforeMarkerOrderFilterRow : OpenClaim := { program := "qxb6601542amods", sum := "2a77da1ee3b23fffafd9f8be6ca38416964d92fe9ca1dc5d4c47236488f44321", func := "example.com/fenceline/fenceline/zzlaws_internal_store_b1.FnBeforeMarkerOrderFilter", spec := "fnBeforeMarkerOrderFilter", make := .lifted ["publicsums"], apart := false }
def FnBeforeMarkerOrderFilterSaid : Prop := fnBeforeMarkerOrderFilterRow.holds Trym.pinned (OpenSpec.ofChange fnBeforeMarkerOrderFilterSpec)

/-- ITS FALSE NEIGHBOUR: 'it returns false'. Refute it at one input. -/
def fnBeforeMarkerOrderFilterWrong : ChangeSpec := { name := "fnBeforeMarkerOrderFilter", fn := fun _ => fun
  | [d1, d2, d3] => { results := [.lit (.bool false)], args := [d1, d2, d3] }
  | _ => none }
def FnBeforeMarkerOrderFilterWrongFalsely : Prop := fnBeforeMarkerOrderFilterRow.holds Trym.pinned (OpenSpec.ofChange fnBeforeMarkerOrderFilterWrong)

/-- 'zzlaws_internal_store_b1.FnBeforeComposes': WHATEVER THE INPUT: true; the input reads as it did. -/
def fnBeforeComposesSpec : ChangeSpec := { name := "fnBeforeComposes", fn := fun _ => fun
  | [d1, d2, d3, d4] => { results := [.lit (.bool true)], args := [d1, d2, d3, d4] }
  | _ => none }
def fnBeforeComposesRow : OpenClaim := { program := "qxb6601542amods", sum := "2a77da1ee3b23fffafd9f8be6ca38416964d92fe9ca1dc5d4c47236488f44321", func := "example.com/fenceline/fenceline/zzlaws_internal_store_b1.FnBeforeComposes", spec := "fnBeforeComposes", make := .lifted ["publicsums"], apart := false }
def FnBeforeComposesSaid : Prop := fnBeforeComposesRow.holds Trym.pinned (OpenSpec.ofChange fnBeforeComposesSpec)

/-- ITS FALSE NEIGHBOUR: 'it returns false'. Refute it at one input. -/
def fnBeforeComposesWrong : ChangeSpec := { name := "fnBeforeComposes", fn := fun _ => fun
  | [d1, d2, d3, d4] => { results := [.lit (.bool false)], args := [d1, d2, d3, d4] }
  | _ => none }
def FnBeforeComposesWrongFalsely : Prop := fnBeforeComposesRow.holds Trym.pinned (OpenSpec.ofChange fnBeforeComposesWrong)

end Rows
end Go.Proofs.Qxb6601542aMods
