/-
  No cell of these rows narrows 'for every input' (looked for: loops, veiled, ifaces, maps, wideKeys, modest, calm, conditions, laid).
  DERIVED. THE GIVEN ROWS OF THIS SEAT. 7 by the template 'for every input the law returns true; each argument reads behind the call as it read before'; 0 by the template 'total and deterministic' (their statements: Qxb6601046aModsTotals.lean).
  GIVEN WITH THE SEED: the statements are not yours to turn. If you find one false, say at which input.
  Laid BY PROGRAM, IN A SANDBOX (cutbox-rows.mjs): the forced cells as the released guide's own fill.sh prints them over the translation d7c5ad1673d7d463… (all of the seat's roots in one cut). By AI agents, Wed Nov 11 2026. No macro, syntax, notation, axiom, sorry.
-/
import Derived.Test.Qxb6601046aModsChecked
import GoSem.Claim
import GoSem.ClaimJoined
import GoSem.ClaimMapViews
import Derived.JoinedTies
import Derived.KernelRfl
namespace Go.Proofs.Qxb6601046aMods
/- THE CELL 'sum', in the pinned program and in every row, IS THE sha256 OF THE DUMP (.gsa) THAT Qxb6601046aModsProg.lean LOADS. Nothing in Lean hashes anything: it is a label: what it is worth is what the hold of that sum in a sandbox is worth. -/
noncomputable def Trym.pinned : Pinned := { name := "qxb6601046amods", sum := "d7c5ad1673d7d463db197238b0726b8a2afa09a49bc4f32b1bc740cdadd83a01", checked := Trym.checked }
namespace Rows
def none {H : Type} : Left H := { results := [], args := [] }

/-- 'zzlaws_root_b1.FnMergedIsSortedUnion': WHATEVER THE INPUT: true; the input reads as it did. -/
def fnMergedIsSortedUnionSpec : ChangeSpec := { name := "fnMergedIsSortedUnion", fn := fun _ => fun
  | [d1, d2] => { results := [.lit (.bool true)], args := [d1, d2] }
  | _ => none }
def fnMergedIsSortedUnionRow : OpenClaim := { program := "qxb6601046amods", sum := "d7c5ad1673d7d463db197238b0726b8a2afa09a49bc4f32b1bc740cdadd83a01", func := "example.com/trustory/trustory/zzlaws_root_b1.FnMergedIsSortedUnion", spec := "fnMergedIsSortedUnion", make := .lifted ["publicsums"], apart := false }
def FnMergedIsSortedUnionSaid : Prop := fnMergedIsSortedUnionRow.holds Trym.pinned (OpenSpec.ofChange fnMergedIsSortedUnionSpec)

/-- ITS FALSE NEIGHBOUR: 'it returns false'. Refute it at one input. -/
def fnMergedIsSortedUnionWrong : ChangeSpec := { name := "fnMergedIsSortedUnion", fn := fun _ => fun
  | [d1, d2] => { results := [.lit (.bool false)], args := [d1, d2] }
  | _ => none }
def FnMergedIsSortedUnionWrongFalsely : Prop := fnMergedIsSortedUnionRow.holds Trym.pinned (OpenSpec.ofChange fnMergedIsSortedUnionWrong)

/-- 'zzlaws_root_b1.FnMergedReturnsWholeSide': WHATEVER THE INPUT: true; the input reads as it did. -/
def fnMergedReturnsWholeSideSpec : ChangeSpec := { name := "fnMergedReturnsWholeSide", fn := fun _ => fun
  | [d1, d2] => { results := [.lit (.bool true)], args := [d1, d2] }
  | _ => none }
def fnMergedReturnsWholeSideRow : OpenClaim := { program := "qxb6601046amods", sum := "d7c5ad1673d7d463db197238b0726b8a2afa09a49bc4f32b1bc740cdadd83a01", func := "example.com/trustory/trustory/zzlaws_root_b1.FnMergedReturnsWholeSide", spec := "fnMergedReturnsWholeSide", make := .lifted ["publicsums"], apart := false }
def FnMergedReturnsWholeSideSaid : Prop := fnMergedReturnsWholeSideRow.holds Trym.pinned (OpenSpec.ofChange fnMergedReturnsWholeSideSpec)

/-- ITS FALSE NEIGHBOUR: 'it returns false'. Refute it at one input. -/
def fnMergedReturnsWholeSideWrong : ChangeSpec := { name := "fnMergedReturnsWholeSide", fn := fun _ => fun
  | [d1, d2] => { results := [.lit (.bool false)], args := [d1, d2] }
  | _ => none }
def FnMergedReturnsWholeSideWrongFalsely : Prop := fnMergedReturnsWholeSideRow.holds Trym.pinned (OpenSpec.ofChange fnMergedReturnsWholeSideWrong)

/-- 'zzlaws_root_b1.FnMergedCommutesAndAbsorbs': WHATEVER THE INPUT: true; the input reads as it did. -/
def fnMergedCommutesAndAbsorbsSpec : ChangeSpec := { name := "fnMergedCommutesAndAbsorbs", fn := fun _ => fun
  | [d1, d2] => { results := [.lit (.bool true)], args := [d1, d2] }
  | _ => none }
def fnMergedCommutesAndAbsorbsRow : OpenClaim := { program := "qxb6601046amods", sum := "d7c5ad1673d7d463db197238b0726b8a2afa09a49bc4f32b1bc740cdadd83a01", func := "example.com/trustory/trustory/zzlaws_root_b1.FnMergedCommutesAndAbsorbs", spec := "fnMergedCommutesAndAbsorbs", make := .lifted ["publicsums"], apart := false }
def FnMergedCommutesAndAbsorbsSaid : Prop := fnMergedCommutesAndAbsorbsRow.holds Trym.pinned (OpenSpec.ofChange fnMergedCommutesAndAbsorbsSpec)

/-- ITS FALSE NEIGHBOUR: 'it returns false'. Refute it at one input. -/
def fnMergedCommutesAndAbsorbsWrong : ChangeSpec := { name := "fnMergedCommutesAndAbsorbs", fn := fun _ => fun
  | [d1, d2] => { results := [.lit (.bool false)], args := [d1, d2] }
  | _ => none }
def FnMergedCommutesAndAbsorbsWrongFalsely : Prop := fnMergedCommutesAndAbsorbsRow.holds Trym.pinned (OpenSpec.ofChange fnMergedCommutesAndAbsorbsWrong)

/-- 'zzlaws_root_b1.FnEscapedRuneExact': WHATEVER THE INPUT: true; the input reads as it did. -/
def fnEscapedRuneExactSpec : ChangeSpec := { name := "fnEscapedRuneExact", fn := fun _ => fun
  | [d] => { results := [.lit (.bool true)], args := [d] }
  | _ => none }
def fnEscapedRuneExactRow : OpenClaim := { program := "qxb6601046amods", sum := "d7c5ad1673d7d463db197238b0726b8a2afa09a49bc4f32b1bc740cdadd83a01", func := "example.com/trustory/trustory/zzlaws_root_b1.FnEscapedRuneExact", spec := "fnEscapedRuneExact", make := .lifted ["publicsums"], apart := false }
def FnEscapedRuneExactSaid : Prop := fnEscapedRuneExactRow.holds Trym.pinned (OpenSpec.ofChange fnEscapedRuneExactSpec)

/-- ITS FALSE NEIGHBOUR: 'it returns false'. Refute it at one input. -/
def fnEscapedRuneExactWrong : ChangeSpec := { name := "fnEscapedRuneExact", fn := fun _ => fun
  | [d] => { results := [.lit (.bool false)], args := [d] }
  | _ => none }
def FnEscapedRuneExactWrongFalsely : Prop := fnEscapedRuneExactRow.holds Trym.pinned (OpenSpec.ofChange fnEscapedRuneExactWrong)

/-- 'zzlaws_root_b1.FnEscapedRuneRoundTrip': WHATEVER THE INPUT: true; the input reads as it did. -/
def fnEscapedRuneRoundTripSpec : ChangeSpec := { name := "fnEscapedRuneRoundTrip", fn := fun _ => fun
  | [d1, d2, d3] => { results := [.lit (.bool true)], args := [d1, d2, d3] }
  | _ => none }
def fnEscapedRuneRoundTripRow : OpenClaim := { program := "qxb6601046amods", sum := "d7c5ad1673d7d463db197238b0726b8a2afa09a49bc4f32b1bc740cdadd83a01", func := "example.com/trustory/trustory/zzlaws_root_b1.FnEscapedRuneRoundTrip", spec := "fnEscapedRuneRoundTrip", make := .lifted ["publicsums"], apart := false }
def FnEscapedRuneRoundTripSaid : Prop := fnEscapedRuneRoundTripRow.holds Trym.pinned (OpenSpec.ofChange fnEscapedRuneRoundTripSpec)

/-- ITS FALSE NEIGHBOUR: 'it returns false'. Refute it at one input. -/
def fnEscapedRuneRoundTripWrong : ChangeSpec := { name := "fnEscapedRuneRoundTrip", fn := fun _ => fun
  | [d1, d2, d3] => { results := [.lit (.bool false)], args := [d1, d2, d3] }
  | _ => none }
def FnEscapedRuneRoundTripWrongFalsely : Prop := fnEscapedRuneRoundTripRow.holds Trym.pinned (OpenSpec.ofChange fnEscapedRuneRoundTripWrong)

/-- 'zzlaws_root_b1.FnEscapedRuneReadsOnlySix': WHATEVER THE INPUT: true; the input reads as it did. -/
def fnEscapedRuneReadsOnlySixSpec : ChangeSpec := { name := "fnEscapedRuneReadsOnlySix", fn := fun _ => fun
  | [d1, d2] => { results := [.lit (.bool true)], args := [d1, d2] }
  | _ => none }
def fnEscapedRuneReadsOnlySixRow : OpenClaim := { program := "qxb6601046amods", sum := "d7c5ad1673d7d463db197238b0726b8a2afa09a49bc4f32b1bc740cdadd83a01", func := "example.com/trustory/trustory/zzlaws_root_b1.FnEscapedRuneReadsOnlySix", spec := "fnEscapedRuneReadsOnlySix", make := .lifted ["publicsums"], apart := false }
def FnEscapedRuneReadsOnlySixSaid : Prop := fnEscapedRuneReadsOnlySixRow.holds Trym.pinned (OpenSpec.ofChange fnEscapedRuneReadsOnlySixSpec)

/-- ITS FALSE NEIGHBOUR: 'it returns false'. Refute it at one input. -/
def fnEscapedRuneReadsOnlySixWrong : ChangeSpec := { name := "fnEscapedRuneReadsOnlySix", fn := fun _ => fun
  | [d1, d2] => { results := [.lit (.bool false)], args := [d1, d2] }
  | _ => none }
def FnEscapedRuneReadsOnlySixWrongFalsely : Prop := fnEscapedRuneReadsOnlySixRow.holds Trym.pinned (OpenSpec.ofChange fnEscapedRuneReadsOnlySixWrong)

/-- 'zzlaws_root_b1.FnOpFieldStableAndDistinct': WHATEVER THE INPUT: true; the input reads as it did. -/
def fnOpFieldStableAndDistinctSpec : ChangeSpec := { name := "fnOpFieldStableAndDistinct", fn := fun _ => fun
  | [d1, d2] => { results := [.lit (.bool true)], args := [d1, d2] }
  | _ => none }
def fnOpFieldStableAndDistinctRow : OpenClaim := { program := "qxb6601046amods", sum := "d7c5ad1673d7d463db197238b0726b8a2afa09a49bc4f32b1bc740cdadd83a01", func := "example.com/trustory/trustory/zzlaws_root_b1.FnOpFieldStableAndDistinct", spec := "fnOpFieldStableAndDistinct", make := .lifted ["publicsums"], apart := false }
def FnOpFieldStableAndDistinctSaid : Prop := fnOpFieldStableAndDistinctRow.holds Trym.pinned (OpenSpec.ofChange fnOpFieldStableAndDistinctSpec)

/-- ITS FALSE NEIGHBOUR: 'it returns false'. Refute it at one input. -/
def fnOpFieldStableAndDistinctWrong : ChangeSpec := { name := "fnOpFieldStableAndDistinct", fn := fun _ => fun
  | [d1, d2] => { results := [.lit (.bool false)], args := [d1, d2] }
  | _ => none }
def FnOpFieldStableAndDistinctWrongFalsely : Prop := fnOpFieldStableAndDistinctRow.holds Trym.pinned (OpenSpec.ofChange fnOpFieldStableAndDistinctWrong)

end Rows
end Go.Proofs.Qxb6601046aMods
