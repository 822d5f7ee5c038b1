/-
  No cell of these rows narrows 'for every input' (looked for: loops, veiled, ifaces, maps, wideKeys, modest, calm, conditions, laid).
  DERIVED. THE GIVEN ROWS OF THIS SEAT. 7 by the template 'for every input the law returns true; each argument reads behind the call as it read before'; 0 by the template 'total and deterministic' (their statements: Qxb6602110aModsTotals.lean).
  GIVEN WITH THE SEED: the statements are not yours to turn. If you find one false, say at which input.
  Laid BY PROGRAM, IN A SANDBOX (cutbox-rows.mjs): the forced cells as the released guide's own fill.sh prints them over the translation eea9c2b624e8f97d… (all of the seat's roots in one cut). By AI agents, Wed Nov 11 2026. No macro, syntax, notation, axiom, sorry.
-/
import Derived.Test.Qxb6602110aModsChecked
import GoSem.Claim
import GoSem.ClaimJoined
import GoSem.ClaimMapViews
import Derived.JoinedTies
import Derived.KernelRfl
namespace Go.Proofs.Qxb6602110aMods
/- THE CELL 'sum', in the pinned program and in every row, IS THE sha256 OF THE DUMP (.gsa) THAT Qxb6602110aModsProg.lean LOADS. Nothing in Lean hashes anything: it is a label: what it is worth is what the hold of that sum in a sandbox is worth. -/
noncomputable def Trym.pinned : Pinned := { name := "qxb6602110amods", sum := "eea9c2b624e8f97d16461623f6f69175dca8a4c89cf90bcc943940f9d02baad2", checked := Trym.checked }
namespace Rows
def none {H : Type} : Left H := { results := [], args := [] }

/-- 'zzlaws_internal_engine_b1.FnEngB1AddScriptTallies': WHATEVER THE INPUT: true; the input reads as it did. -/
def fnEngB1AddScriptTalliesSpec : ChangeSpec := { name := "fnEngB1AddScriptTallies", fn := fun _ => fun
  | [d] => { results := [.lit (.bool true)], args := [d] }
  | _ => none }
def fnEngB1AddScriptTalliesRow : OpenClaim := { program := "qxb6602110amods", sum := "eea9c2b624e8f97d16461623f6f69175dca8a4c89cf90bcc943940f9d02baad2", func := "example.com/ferryline/ferryline/zzlaws_internal_engine_b1.FnEngB1AddScriptTallies", spec := "fnEngB1AddScriptTallies", make := .lifted ["publicsums"], apart := false }
def FnEngB1AddScriptTalliesSaid : Prop := fnEngB1AddScriptTalliesRow.holds Trym.pinned (OpenSpec.ofChange fnEngB1AddScriptTalliesSpec)

/-- ITS FALSE NEIGHBOUR: 'it returns false'. Refute it at one input. -/
def fnEngB1AddScriptTalliesWrong : ChangeSpec := { name := "fnEngB1AddScriptTallies", fn := fun _ => fun
  | [d] => { results := [.lit (.bool false)], args := [d] }
  | _ => none }
def FnEngB1AddScriptTalliesWrongFalsely : Prop := fnEngB1AddScriptTalliesRow.holds Trym.pinned (OpenSpec.ofChange fnEngB1AddScriptTalliesWrong)

/-- 'zzlaws_internal_engine_b1.FnEngB1ResumeAtExact': WHATEVER THE INPUT: true; the input reads as it did. -/
def fnEngB1ResumeAtExactSpec : ChangeSpec := { name := "fnEngB1ResumeAtExact", fn := fun _ => fun
  | [d1, d2, d3, d4, d5, d6, d7] => { results := [.lit (.bool true)], args := [d1, d2, d3, d4, d5, d6, d7] }
  | _ => none }
def fnEngB1ResumeAtExactRow : OpenClaim := { program := "qxb6602110amods", sum := "eea9c2b624e8f97d16461623f6f69175dca8a4c89cf90bcc943940f9d02baad2", func := "example.com/ferryline/ferryline/zzlaws_internal_engine_b1.FnEngB1ResumeAtExact", spec := "fnEngB1ResumeAtExact", make := .lifted ["publicsums"], apart := false }
def FnEngB1ResumeAtExactSaid : Prop := fnEngB1ResumeAtExactRow.holds Trym.pinned (OpenSpec.ofChange fnEngB1ResumeAtExactSpec)

/-- ITS FALSE NEIGHBOUR: 'it returns false'. Refute it at one input. -/
def fnEngB1ResumeAtExactWrong : ChangeSpec := { name := "fnEngB1ResumeAtExact", fn := fun _ => fun
  | [d1, d2, d3, d4, d5, d6, d7] => { results := [.lit (.bool false)], args := [d1, d2, d3, d4, d5, d6, d7] }
  | _ => none }
def FnEngB1ResumeAtExactWrongFalsely : Prop := fnEngB1ResumeAtExactRow.holds Trym.pinned (OpenSpec.ofChange fnEngB1ResumeAtExactWrong)

/-- 'zzlaws_internal_engine_b1.FnEngB1ResumeAtRoundTrip': WHATEVER THE INPUT: true; the input reads as it did. -/
def fnEngB1ResumeAtRoundTripSpec : ChangeSpec := { name := "fnEngB1ResumeAtRoundTrip", fn := fun _ => fun
  | [d1, d2] => { results := [.lit (.bool true)], args := [d1, d2] }
  | _ => none }
def fnEngB1ResumeAtRoundTripRow : OpenClaim := { program := "qxb6602110amods", sum := "eea9c2b624e8f97d16461623f6f69175dca8a4c89cf90bcc943940f9d02baad2", func := "example.com/ferryline/ferryline/zzlaws_internal_engine_b1.FnEngB1ResumeAtRoundTrip", spec := "fnEngB1ResumeAtRoundTrip", make := .lifted ["publicsums"], apart := false }
def FnEngB1ResumeAtRoundTripSaid : Prop := fnEngB1ResumeAtRoundTripRow.holds Trym.pinned (OpenSpec.ofChange fnEngB1ResumeAtRoundTripSpec)

/-- ITS FALSE NEIGHBOUR: 'it returns false'. Refute it at one input. -/
def fnEngB1ResumeAtRoundTripWrong : ChangeSpec := { name := "fnEngB1ResumeAtRoundTrip", fn := fun _ => fun
  | [d1, d2] => { results := [.lit (.bool false)], args := [d1, d2] }
  | _ => none }
def FnEngB1ResumeAtRoundTripWrongFalsely : Prop := fnEngB1ResumeAtRoundTripRow.holds Trym.pinned (OpenSpec.ofChange fnEngB1ResumeAtRoundTripWrong)

/-- 'zzlaws_internal_engine_b1.FnEngB1ResumeAtStableUnderGrowth': WHATEVER THE INPUT: true; the input reads as it did. -/
def fnEngB1ResumeAtStableUnderGrowthSpec : ChangeSpec := { name := "fnEngB1ResumeAtStableUnderGrowth", fn := fun _ => fun
  | [d1, d2, d3, d4, d5, d6, d7, d8] => { results := [.lit (.bool true)], args := [d1, d2, d3, d4, d5, d6, d7, d8] }
  | _ => none }
def fnEngB1ResumeAtStableUnderGrowthRow : OpenClaim := { program := "qxb6602110amods", sum := "eea9c2b624e8f97d16461623f6f69175dca8a4c89cf90bcc943940f9d02baad2", func := "example.com/ferryline/ferryline/zzlaws_internal_engine_b1.FnEngB1ResumeAtStableUnderGrowth", spec := "fnEngB1ResumeAtStableUnderGrowth", make := .lifted ["publicsums"], apart := false }
def FnEngB1ResumeAtStableUnderGrowthSaid : Prop := fnEngB1ResumeAtStableUnderGrowthRow.holds Trym.pinned (OpenSpec.ofChange fnEngB1ResumeAtStableUnderGrowthSpec)

/-- ITS FALSE NEIGHBOUR: 'it returns false'. Refute it at one input. -/
def fnEngB1ResumeAtStableUnderGrowthWrong : ChangeSpec := { name := "fnEngB1ResumeAtStableUnderGrowth", fn := fun _ => fun
  | [d1, d2, d3, d4, d5, d6, d7, d8] => { results := [.lit (.bool false)], args := [d1, d2, d3, d4, d5, d6, d7, d8] }
  | _ => none }
def FnEngB1ResumeAtStableUnderGrowthWrongFalsely : Prop := fnEngB1ResumeAtStableUnderGrowthRow.holds Trym.pinned (OpenSpec.ofChange fnEngB1ResumeAtStableUnderGrowthWrong)

/-- 'zzlaws_internal_engine_b1.FnEngB1ClashReadsOnlyItsCounts': WHATEVER THE INPUT: true; the input reads as it did. -/
def fnEngB1ClashReadsOnlyItsCountsSpec : ChangeSpec := { name := "fnEngB1ClashReadsOnlyItsCounts", fn := fun _ => fun
  | [d1, d2] => { results := [.lit (.bool true)], args := [d1, d2] }
  | _ => none }
def fnEngB1ClashReadsOnlyItsCountsRow : OpenClaim := { program := "qxb6602110amods", sum := "eea9c2b624e8f97d16461623f6f69175dca8a4c89cf90bcc943940f9d02baad2", func := "example.com/ferryline/ferryline/zzlaws_internal_engine_b1.FnEngB1ClashReadsOnlyItsCounts", spec := "fnEngB1ClashReadsOnlyItsCounts", make := .lifted ["publicsums"], apart := false }
def FnEngB1ClashReadsOnlyItsCountsSaid : Prop := fnEngB1ClashReadsOnlyItsCountsRow.holds Trym.pinned (OpenSpec.ofChange fnEngB1ClashReadsOnlyItsCountsSpec)

/-- ITS FALSE NEIGHBOUR: 'it returns false'. Refute it at one input. -/
def fnEngB1ClashReadsOnlyItsCountsWrong : ChangeSpec := { name := "fnEngB1ClashReadsOnlyItsCounts", fn := fun _ => fun
  | [d1, d2] => { results := [.lit (.bool false)], args := [d1, d2] }
  | _ => none }
def FnEngB1ClashReadsOnlyItsCountsWrongFalsely : Prop := fnEngB1ClashReadsOnlyItsCountsRow.holds Trym.pinned (OpenSpec.ofChange fnEngB1ClashReadsOnlyItsCountsWrong)

/-- 'zzlaws_internal_engine_b1.FnEngB1ClashAncestorOrderFree': WHATEVER THE INPUT: true; the input reads as it did. -/
def fnEngB1ClashAncestorOrderFreeSpec : ChangeSpec := { name := "fnEngB1ClashAncestorOrderFree", fn := fun _ => fun
  | [d1, d2] => { results := [.lit (.bool true)], args := [d1, d2] }
  | _ => none }
def fnEngB1ClashAncestorOrderFreeRow : OpenClaim := { program := "qxb6602110amods", sum := "eea9c2b624e8f97d16461623f6f69175dca8a4c89cf90bcc943940f9d02baad2", func := "example.com/ferryline/ferryline/zzlaws_internal_engine_b1.FnEngB1ClashAncestorOrderFree", spec := "fnEngB1ClashAncestorOrderFree", make := .lifted ["publicsums"], apart := false }
def FnEngB1ClashAncestorOrderFreeSaid : Prop := fnEngB1ClashAncestorOrderFreeRow.holds Trym.pinned (OpenSpec.ofChange fnEngB1ClashAncestorOrderFreeSpec)

/-- ITS FALSE NEIGHBOUR: 'it returns false'. Refute it at one input. -/
def fnEngB1ClashAncestorOrderFreeWrong : ChangeSpec := { name := "fnEngB1ClashAncestorOrderFree", fn := fun _ => fun
  | [d1, d2] => { results := [.lit (.bool false)], args := [d1, d2] }
  | _ => none }
def FnEngB1ClashAncestorOrderFreeWrongFalsely : Prop := fnEngB1ClashAncestorOrderFreeRow.holds Trym.pinned (OpenSpec.ofChange fnEngB1ClashAncestorOrderFreeWrong)

/-- 'zzlaws_internal_engine_b1.FnEngB1ClashMonotone': WHATEVER THE INPUT: true; the input reads as it did. -/
def fnEngB1ClashMonotoneSpec : ChangeSpec := { name := "fnEngB1ClashMonotone", fn := fun _ => fun
  | [d1, d2, d3] => { results := [.lit (.bool true)], args := [d1, d2, d3] }
  | _ => none }
def fnEngB1ClashMonotoneRow : OpenClaim := { program := "qxb6602110amods", sum := "eea9c2b624e8f97d16461623f6f69175dca8a4c89cf90bcc943940f9d02baad2", func := "example.com/ferryline/ferryline/zzlaws_internal_engine_b1.FnEngB1ClashMonotone", spec := "fnEngB1ClashMonotone", make := .lifted ["publicsums"], apart := false }
def FnEngB1ClashMonotoneSaid : Prop := fnEngB1ClashMonotoneRow.holds Trym.pinned (OpenSpec.ofChange fnEngB1ClashMonotoneSpec)

/-- ITS FALSE NEIGHBOUR: 'it returns false'. Refute it at one input. -/
def fnEngB1ClashMonotoneWrong : ChangeSpec := { name := "fnEngB1ClashMonotone", fn := fun _ => fun
  | [d1, d2, d3] => { results := [.lit (.bool false)], args := [d1, d2, d3] }
  | _ => none }
def FnEngB1ClashMonotoneWrongFalsely : Prop := fnEngB1ClashMonotoneRow.holds Trym.pinned (OpenSpec.ofChange fnEngB1ClashMonotoneWrong)

end Rows
end Go.Proofs.Qxb6602110aMods
