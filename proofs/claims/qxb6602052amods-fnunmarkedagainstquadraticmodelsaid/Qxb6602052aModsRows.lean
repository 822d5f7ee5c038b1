/-
  No cell of these rows narrows 'for every input' (looked for: loops, veiled, ifaces, maps, wideKeys, modest, calm, conditions, laid).
  DERIVED. THE GIVEN ROWS OF THIS SEAT. 5 by the template 'for every input the law returns true; each argument reads behind the call as it read before'; 0 by the template 'total and deterministic' (their statements: Qxb6602052aModsTotals.lean).
  GIVEN WITH THE SEED: the statements are not yours to turn. If you find one false, say at which input.
  Laid BY PROGRAM, IN A SANDBOX (cutbox-rows.mjs): the forced cells as the released guide's own fill.sh prints them over the translation 94b6f8e4fe7589bb… (all of the seat's roots in one cut). By AI agents, Wed Nov 11 2026. No macro, syntax, notation, axiom, sorry.
-/
import Derived.Test.Qxb6602052aModsChecked
import GoSem.Claim
import GoSem.ClaimJoined
import GoSem.ClaimMapViews
import Derived.JoinedTies
import Derived.KernelRfl
namespace Go.Proofs.Qxb6602052aMods
/- THE CELL 'sum', in the pinned program and in every row, IS THE sha256 OF THE DUMP (.gsa) THAT Qxb6602052aModsProg.lean LOADS. Nothing in Lean hashes anything: it is a label: what it is worth is what the hold of that sum in a sandbox is worth. -/
noncomputable def Trym.pinned : Pinned := { name := "qxb6602052amods", sum := "94b6f8e4fe7589bb5bb06aad1eb19e295fc2781687e62a1cacf4ed181d9e371d", checked := Trym.checked }
namespace Rows
def none {H : Type} : Left H := { results := [], args := [] }

/-- 'zzlaws_root_b1.FnShiftThereAndBack': WHATEVER THE INPUT: true; the input reads as it did. -/
def fnShiftThereAndBackSpec : ChangeSpec := { name := "fnShiftThereAndBack", fn := fun _ => fun
  | [d1, d2, d3] => { results := [.lit (.bool true)], args := [d1, d2, d3] }
  | _ => none }
def fnShiftThereAndBackRow : OpenClaim := { program := "qxb6602052amods", sum := "94b6f8e4fe7589bb5bb06aad1eb19e295fc2781687e62a1cacf4ed181d9e371d", func := "example.com/nearfield/nearfield/zzlaws_root_b1.FnShiftThereAndBack", spec := "fnShiftThereAndBack", make := .lifted ["publicsums"], apart := false }
def FnShiftThereAndBackSaid : Prop := fnShiftThereAndBackRow.holds Trym.pinned (OpenSpec.ofChange fnShiftThereAndBackSpec)

/-- ITS FALSE NEIGHBOUR: 'it returns false'. Refute it at one input. -/
def fnShiftThereAndBackWrong : ChangeSpec := { name := "fnShiftThereAndBack", fn := fun _ => fun
  | [d1, d2, d3] => { results := [.lit (.bool false)], args := [d1, d2, d3] }
  | _ => none }
def FnShiftThereAndBackWrongFalsely : Prop := fnShiftThereAndBackRow.holds Trym.pinned (OpenSpec.ofChange fnShiftThereAndBackWrong)

/-- 'zzlaws_root_b1.FnUnmarkedAgainstQuadraticModel': WHATEVER THE INPUT: true; the input reads as it did. -/
def fnUnmarkedAgainstQuadraticModelSpec : ChangeSpec := { name := "fnUnmarkedAgainstQuadraticModel", fn := fun _ => fun
  | [d1, d2, d3] => { results := [.lit (.bool true)], args := [d1, d2, d3] }
  | _ => none }
def fnUnmarkedAgainstQuadraticModelRow : OpenClaim := { program := "qxb6602052amods", sum := "94b6f8e4fe7589bb5bb06aad1eb19e295fc2781687e62a1cacf4ed181d9e371d", func := "example.com/nearfield/nearfield/zzlaws_root_b1.FnUnmarkedAgainstQuadraticModel", spec := "fnUnmarkedAgainstQuadraticModel", make := .lifted ["publicsums"], apart := false }
def FnUnmarkedAgainstQuadraticModelSaid : Prop := fnUnmarkedAgainstQuadraticModelRow.holds Trym.pinned (OpenSpec.ofChange fnUnmarkedAgainstQuadraticModelSpec)

/-- ITS FALSE NEIGHBOUR: 'it returns false'. Refute it at one input. -/
def fnUnmarkedAgainstQuadraticModelWrong : ChangeSpec := { name := "fnUnmarkedAgainstQuadraticModel", fn := fun _ => fun
  | [d1, d2, d3] => { results := [.lit (.bool false)], args := [d1, d2, d3] }
  | _ => none }
def FnUnmarkedAgainstQuadraticModelWrongFalsely : Prop := fnUnmarkedAgainstQuadraticModelRow.holds Trym.pinned (OpenSpec.ofChange fnUnmarkedAgainstQuadraticModelWrong)

/-- 'zzlaws_root_b1.FnUnmarkedIdempotent': WHATEVER THE INPUT: true; the input reads as it did. -/
def fnUnmarkedIdempotentSpec : ChangeSpec := { name := "fnUnmarkedIdempotent", fn := fun _ => fun
  | [d1, d2, d3] => { results := [.lit (.bool true)], args := [d1, d2, d3] }
  | _ => none }
def fnUnmarkedIdempotentRow : OpenClaim := { program := "qxb6602052amods", sum := "94b6f8e4fe7589bb5bb06aad1eb19e295fc2781687e62a1cacf4ed181d9e371d", func := "example.com/nearfield/nearfield/zzlaws_root_b1.FnUnmarkedIdempotent", spec := "fnUnmarkedIdempotent", make := .lifted ["publicsums"], apart := false }
def FnUnmarkedIdempotentSaid : Prop := fnUnmarkedIdempotentRow.holds Trym.pinned (OpenSpec.ofChange fnUnmarkedIdempotentSpec)

/-- ITS FALSE NEIGHBOUR: 'it returns false'. Refute it at one input. -/
def fnUnmarkedIdempotentWrong : ChangeSpec := { name := "fnUnmarkedIdempotent", fn := fun _ => fun
  | [d1, d2, d3] => { results := [.lit (.bool false)], args := [d1, d2, d3] }
  | _ => none }
def FnUnmarkedIdempotentWrongFalsely : Prop := fnUnmarkedIdempotentRow.holds Trym.pinned (OpenSpec.ofChange fnUnmarkedIdempotentWrong)

/-- 'zzlaws_root_b1.FnFitClosedForm': WHATEVER THE INPUT: true; the input reads as it did. -/
def fnFitClosedFormSpec : ChangeSpec := { name := "fnFitClosedForm", fn := fun _ => fun
  | [d1, d2, d3, d4, d5, d6] => { results := [.lit (.bool true)], args := [d1, d2, d3, d4, d5, d6] }
  | _ => none }
def fnFitClosedFormRow : OpenClaim := { program := "qxb6602052amods", sum := "94b6f8e4fe7589bb5bb06aad1eb19e295fc2781687e62a1cacf4ed181d9e371d", func := "example.com/nearfield/nearfield/zzlaws_root_b1.FnFitClosedForm", spec := "fnFitClosedForm", make := .lifted ["publicsums"], apart := false }
def FnFitClosedFormSaid : Prop := fnFitClosedFormRow.holds Trym.pinned (OpenSpec.ofChange fnFitClosedFormSpec)

/-- ITS FALSE NEIGHBOUR: 'it returns false'. Refute it at one input. -/
def fnFitClosedFormWrong : ChangeSpec := { name := "fnFitClosedForm", fn := fun _ => fun
  | [d1, d2, d3, d4, d5, d6] => { results := [.lit (.bool false)], args := [d1, d2, d3, d4, d5, d6] }
  | _ => none }
def FnFitClosedFormWrongFalsely : Prop := fnFitClosedFormRow.holds Trym.pinned (OpenSpec.ofChange fnFitClosedFormWrong)

/-- 'zzlaws_root_b1.FnFitInsideRegionCoversPart': WHATEVER THE INPUT: true; the input reads as it did. -/
def fnFitInsideRegionCoversPartSpec : ChangeSpec := { name := "fnFitInsideRegionCoversPart", fn := fun _ => fun
  | [d1, d2, d3, d4, d5, d6] => { results := [.lit (.bool true)], args := [d1, d2, d3, d4, d5, d6] }
  | _ => none }
def fnFitInsideRegionCoversPartRow : OpenClaim := { program := "qxb6602052amods", sum := "94b6f8e4fe7589bb5bb06aad1eb19e295fc2781687e62a1cacf4ed181d9e371d", func := "example.com/nearfield/nearfield/zzlaws_root_b1.FnFitInsideRegionCoversPart", spec := "fnFitInsideRegionCoversPart", make := .lifted ["publicsums"], apart := false }
def FnFitInsideRegionCoversPartSaid : Prop := fnFitInsideRegionCoversPartRow.holds Trym.pinned (OpenSpec.ofChange fnFitInsideRegionCoversPartSpec)

/-- ITS FALSE NEIGHBOUR: 'it returns false'. Refute it at one input. -/
def fnFitInsideRegionCoversPartWrong : ChangeSpec := { name := "fnFitInsideRegionCoversPart", fn := fun _ => fun
  | [d1, d2, d3, d4, d5, d6] => { results := [.lit (.bool false)], args := [d1, d2, d3, d4, d5, d6] }
  | _ => none }
def FnFitInsideRegionCoversPartWrongFalsely : Prop := fnFitInsideRegionCoversPartRow.holds Trym.pinned (OpenSpec.ofChange fnFitInsideRegionCoversPartWrong)

end Rows
end Go.Proofs.Qxb6602052aMods
