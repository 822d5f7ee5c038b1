/-
  No cell of these rows narrows 'for every input' (looked for: loops, veiled, ifaces, maps, wideKeys, modest, calm, conditions, laid).
  DERIVED. THE GIVEN ROWS OF THIS SEAT. 3 by the template 'for every input the law returns true; each argument reads behind the call as it read before'; 0 by the template 'total and deterministic' (their statements: Qxb6600779aModsTotals.lean).
  GIVEN WITH THE SEED: the statements are not yours to turn. If you find one false, say at which input.
  Laid BY PROGRAM, IN A SANDBOX (cutbox-rows.mjs): the forced cells as the released guide's own fill.sh prints them over the translation e278e000de985fa2… (all of the seat's roots in one cut). By AI agents, Wed Nov 11 2026. No macro, syntax, notation, axiom, sorry.
-/
import Derived.Test.Qxb6600779aModsChecked
import GoSem.Claim
import GoSem.ClaimJoined
import GoSem.ClaimMapViews
import Derived.JoinedTies
import Derived.KernelRfl
namespace Go.Proofs.Qxb6600779aMods
/- THE CELL 'sum', in the pinned program and in every row, IS THE sha256 OF THE DUMP (.gsa) THAT Qxb6600779aModsProg.lean LOADS. Nothing in Lean hashes anything: it is a label: what it is worth is what the hold of that sum in a sandbox is worth. -/
noncomputable def Trym.pinned : Pinned := { name := "qxb6600779amods", sum := "e278e000de985fa2963610f9684ddfd86951abc7b9ad5783ca5a1212349d8670", checked := Trym.checked }
namespace Rows
def none {H : Type} : Left H := { results := [], args := [] }

/-- 'zzlaws_registry_b1.FnPlainEndMatchesThreePassModel': WHATEVER THE INPUT: true; the input reads as it did. -/
def fnPlainEndMatchesThreePassModelSpec : ChangeSpec := { name := "fnPlainEndMatchesThreePassModel", fn := fun _ => fun
  | [d1, d2] => { results := [.lit (.bool true)], args := [d1, d2] }
  | _ => none }
def fnPlainEndMatchesThreePassModelRow : OpenClaim := { program := "qxb6600779amods", sum := "e278e000de985fa2963610f9684ddfd86951abc7b9ad5783ca5a1212349d8670", func := "example.com/loomline/loomline/zzlaws_registry_b1.FnPlainEndMatchesThreePassModel", spec := "fnPlainEndMatchesThreePassModel", make := .lifted ["publicsums"], apart := false }
def FnPlainEndMatchesThreePassModelSaid : Prop := fnPlainEndMatchesThreePassModelRow.holds Trym.pinned (OpenSpec.ofChange fnPlainEndMatchesThreePassModelSpec)

/-- ITS FALSE NEIGHBOUR: 'it returns false'. Refute it at one input. -/
def fnPlainEndMatchesThreePassModelWrong : ChangeSpec := { name := "fnPlainEndMatchesThreePassModel", fn := fun _ => fun
  | [d1, d2] => { results := [.lit (.bool false)], args := [d1, d2] }
  | _ => none }
def FnPlainEndMatchesThreePassModelWrongFalsely : Prop := fnPlainEndMatchesThreePassModelRow.holds Trym.pinned (OpenSpec.ofChange fnPlainEndMatchesThreePassModelWrong)

/-- 'zzlaws_registry_b1.FnPlainEndLeavesACleanToken': WHATEVER THE INPUT: true; the input reads as it did. -/
def fnPlainEndLeavesACleanTokenSpec : ChangeSpec := { name := "fnPlainEndLeavesACleanToken", fn := fun _ => fun
  | [d1, d2] => { results := [.lit (.bool true)], args := [d1, d2] }
  | _ => none }
def fnPlainEndLeavesACleanTokenRow : OpenClaim := { program := "qxb6600779amods", sum := "e278e000de985fa2963610f9684ddfd86951abc7b9ad5783ca5a1212349d8670", func := "example.com/loomline/loomline/zzlaws_registry_b1.FnPlainEndLeavesACleanToken", spec := "fnPlainEndLeavesACleanToken", make := .lifted ["publicsums"], apart := false }
def FnPlainEndLeavesACleanTokenSaid : Prop := fnPlainEndLeavesACleanTokenRow.holds Trym.pinned (OpenSpec.ofChange fnPlainEndLeavesACleanTokenSpec)

/-- ITS FALSE NEIGHBOUR: 'it returns false'. Refute it at one input. -/
def fnPlainEndLeavesACleanTokenWrong : ChangeSpec := { name := "fnPlainEndLeavesACleanToken", fn := fun _ => fun
  | [d1, d2] => { results := [.lit (.bool false)], args := [d1, d2] }
  | _ => none }
def FnPlainEndLeavesACleanTokenWrongFalsely : Prop := fnPlainEndLeavesACleanTokenRow.holds Trym.pinned (OpenSpec.ofChange fnPlainEndLeavesACleanTokenWrong)

/-- 'zzlaws_registry_b1.FnPlainEndReadsOneLineFromPos': WHATEVER THE INPUT: true; the input reads as it did. -/
def fnPlainEndReadsOneLineFromPosSpec : ChangeSpec := { name := "fnPlainEndReadsOneLineFromPos", fn := fun _ => fun
  | [d1, d2, d3] => { results := [.lit (.bool true)], args := [d1, d2, d3] }
  | _ => none }
def fnPlainEndReadsOneLineFromPosRow : OpenClaim := { program := "qxb6600779amods", sum := "e278e000de985fa2963610f9684ddfd86951abc7b9ad5783ca5a1212349d8670", func := "example.com/loomline/loomline/zzlaws_registry_b1.FnPlainEndReadsOneLineFromPos", spec := "fnPlainEndReadsOneLineFromPos", make := .lifted ["publicsums"], apart := false }
def FnPlainEndReadsOneLineFromPosSaid : Prop := fnPlainEndReadsOneLineFromPosRow.holds Trym.pinned (OpenSpec.ofChange fnPlainEndReadsOneLineFromPosSpec)

/-- ITS FALSE NEIGHBOUR: 'it returns false'. Refute it at one input. -/
def fnPlainEndReadsOneLineFromPosWrong : ChangeSpec := { name := "fnPlainEndReadsOneLineFromPos", fn := fun _ => fun
  | [d1, d2, d3] => { results := [.lit (.bool false)], args := [d1, d2, d3] }
  | _ => none }
def FnPlainEndReadsOneLineFromPosWrongFalsely : Prop := fnPlainEndReadsOneLineFromPosRow.holds Trym.pinned (OpenSpec.ofChange fnPlainEndReadsOneLineFromPosWrong)

end Rows
end Go.Proofs.Qxb6600779aMods
