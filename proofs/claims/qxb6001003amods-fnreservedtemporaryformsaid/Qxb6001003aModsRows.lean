/-
  No cell of these rows narrows 'for every input' (looked for: loops, veiled, ifaces, maps, wideKeys, modest, calm, conditions, laid).
  DERIVED. THE GIVEN ROWS OF THIS SEAT. 8 by the template 'for every input the law returns true; each argument reads behind the call as it read before'; 0 by the template 'total and deterministic' (their statements: Qxb6001003aModsTotals.lean).
  GIVEN WITH THE SEED: the statements are not yours to turn. If you find one false, say at which input.
  Laid BY PROGRAM, IN A SANDBOX (cutbox-rows.mjs): the forced cells as the released guide's own fill.sh prints them over the translation 1e98038f989c80cd… (all of the seat's roots in one cut). By AI agents, Wed Nov 11 2026. No macro, syntax, notation, axiom, sorry.
-/
import Derived.Test.Qxb6001003aModsChecked
import GoSem.Claim
import GoSem.ClaimJoined
import GoSem.ClaimMapViews
import Derived.JoinedTies
import Derived.KernelRfl
namespace Go.Proofs.Qxb6001003aMods
/- THE CELL 'sum', in the pinned program and in every row, IS THE sha256 OF THE DUMP (.gsa) THAT Qxb6001003aModsProg.lean LOADS. Nothing in Lean hashes anything: it is a label: what it is worth is what the hold of that sum in a sandbox is worth. -/
noncomputable def Trym.pinned : Pinned := { name := "qxb6001003amods", sum := "1e98038f989c80cdfb2f69d7f68d83b00c85176d0dedaaf502f2719c650182d9", checked := Trym.checked }
namespace Rows
def none {H : Type} : Left H := { results := [], args := [] }

/-- 'zzlaws_pkg_folderfs_b1.FnLiteralOfExact': WHATEVER THE INPUT: true; the input reads as it did. -/
def fnLiteralOfExactSpec : ChangeSpec := { name := "fnLiteralOfExact", fn := fun _ => fun
  | [d1, d2] => { results := [.lit (.bool true)], args := [d1, d2] }
  | _ => none }
def fnLiteralOfExactRow : OpenClaim := { program := "qxb6001003amods", sum := "1e98038f989c80cdfb2f69d7f68d83b00c85176d0dedaaf502f2719c650182d9", func := "example.com/blocktide/blocktide/zzlaws_pkg_folderfs_b1.FnLiteralOfExact", spec := "fnLiteralOfExact", inPlace := ["internal/abi.NoEscape"], make := .lifted ["publicsums"], apart := false }
def FnLiteralOfExactSaid : Prop := fnLiteralOfExactRow.holds Trym.pinned (OpenSpec.ofChange fnLiteralOfExactSpec)

/-- ITS FALSE NEIGHBOUR: 'it returns false'. Refute it at one input. -/
def fnLiteralOfExactWrong : ChangeSpec := { name := "fnLiteralOfExact", fn := fun _ => fun
  | [d1, d2] => { results := [.lit (.bool false)], args := [d1, d2] }
  | _ => none }
def FnLiteralOfExactWrongFalsely : Prop := fnLiteralOfExactRow.holds Trym.pinned (OpenSpec.ofChange fnLiteralOfExactWrong)

/-- 'zzlaws_pkg_folderfs_b1.FnLiteralOfConcat': WHATEVER THE INPUT: true; the input reads as it did. -/
def fnLiteralOfConcatSpec : ChangeSpec := { name := "fnLiteralOfConcat", fn := fun _ => fun
  | [d1, d2] => { results := [.lit (.bool true)], args := [d1, d2] }
  | _ => none }
def fnLiteralOfConcatRow : OpenClaim := { program := "qxb6001003amods", sum := "1e98038f989c80cdfb2f69d7f68d83b00c85176d0dedaaf502f2719c650182d9", func := "example.com/blocktide/blocktide/zzlaws_pkg_folderfs_b1.FnLiteralOfConcat", spec := "fnLiteralOfConcat", inPlace := ["internal/abi.NoEscape"], make := .lifted ["publicsums"], apart := false }
def FnLiteralOfConcatSaid : Prop := fnLiteralOfConcatRow.holds Trym.pinned (OpenSpec.ofChange fnLiteralOfConcatSpec)

/-- ITS FALSE NEIGHBOUR: 'it returns false'. Refute it at one input. -/
def fnLiteralOfConcatWrong : ChangeSpec := { name := "fnLiteralOfConcat", fn := fun _ => fun
  | [d1, d2] => { results := [.lit (.bool false)], args := [d1, d2] }
  | _ => none }
def FnLiteralOfConcatWrongFalsely : Prop := fnLiteralOfConcatRow.holds Trym.pinned (OpenSpec.ofChange fnLiteralOfConcatWrong)

/-- 'zzlaws_pkg_folderfs_b1.FnReservedOnlyBlocktideNames': WHATEVER THE INPUT: true; the input reads as it did. -/
def fnReservedOnlyBlocktideNamesSpec : ChangeSpec := { name := "fnReservedOnlyBlocktideNames", fn := fun _ => fun
  | [d] => { results := [.lit (.bool true)], args := [d] }
  | _ => none }
def fnReservedOnlyBlocktideNamesRow : OpenClaim := { program := "qxb6001003amods", sum := "1e98038f989c80cdfb2f69d7f68d83b00c85176d0dedaaf502f2719c650182d9", func := "example.com/blocktide/blocktide/zzlaws_pkg_folderfs_b1.FnReservedOnlyBlocktideNames", spec := "fnReservedOnlyBlocktideNames", make := .lifted ["publicsums"], apart := false }
def FnReservedOnlyBlocktideNamesSaid : Prop := fnReservedOnlyBlocktideNamesRow.holds Trym.pinned (OpenSpec.ofChange fnReservedOnlyBlocktideNamesSpec)

/-- ITS FALSE NEIGHBOUR: 'it returns false'. Refute it at one input. -/
def fnReservedOnlyBlocktideNamesWrong : ChangeSpec := { name := "fnReservedOnlyBlocktideNames", fn := fun _ => fun
  | [d] => { results := [.lit (.bool false)], args := [d] }
  | _ => none }
def FnReservedOnlyBlocktideNamesWrongFalsely : Prop := fnReservedOnlyBlocktideNamesRow.holds Trym.pinned (OpenSpec.ofChange fnReservedOnlyBlocktideNamesWrong)

/-- 'zzlaws_pkg_folderfs_b1.FnReservedTemporaryForm': WHATEVER THE INPUT: true; the input reads as it did. -/
def fnReservedTemporaryFormSpec : ChangeSpec := { name := "fnReservedTemporaryForm", fn := fun _ => fun
  | [d] => { results := [.lit (.bool true)], args := [d] }
  | _ => none }
def fnReservedTemporaryFormRow : OpenClaim := { program := "qxb6001003amods", sum := "1e98038f989c80cdfb2f69d7f68d83b00c85176d0dedaaf502f2719c650182d9", func := "example.com/blocktide/blocktide/zzlaws_pkg_folderfs_b1.FnReservedTemporaryForm", spec := "fnReservedTemporaryForm", make := .lifted ["publicsums"], apart := false }
def FnReservedTemporaryFormSaid : Prop := fnReservedTemporaryFormRow.holds Trym.pinned (OpenSpec.ofChange fnReservedTemporaryFormSpec)

/-- ITS FALSE NEIGHBOUR: 'it returns false'. Refute it at one input. -/
def fnReservedTemporaryFormWrong : ChangeSpec := { name := "fnReservedTemporaryForm", fn := fun _ => fun
  | [d] => { results := [.lit (.bool false)], args := [d] }
  | _ => none }
def FnReservedTemporaryFormWrongFalsely : Prop := fnReservedTemporaryFormRow.holds Trym.pinned (OpenSpec.ofChange fnReservedTemporaryFormWrong)

/-- 'zzlaws_pkg_folderfs_b1.FnReservedMarkerAloneWithoutTmp': WHATEVER THE INPUT: true; the input reads as it did. -/
def fnReservedMarkerAloneWithoutTmpSpec : ChangeSpec := { name := "fnReservedMarkerAloneWithoutTmp", fn := fun _ => fun
  | [d] => { results := [.lit (.bool true)], args := [d] }
  | _ => none }
def fnReservedMarkerAloneWithoutTmpRow : OpenClaim := { program := "qxb6001003amods", sum := "1e98038f989c80cdfb2f69d7f68d83b00c85176d0dedaaf502f2719c650182d9", func := "example.com/blocktide/blocktide/zzlaws_pkg_folderfs_b1.FnReservedMarkerAloneWithoutTmp", spec := "fnReservedMarkerAloneWithoutTmp", make := .lifted ["publicsums"], apart := false }
def FnReservedMarkerAloneWithoutTmpSaid : Prop := fnReservedMarkerAloneWithoutTmpRow.holds Trym.pinned (OpenSpec.ofChange fnReservedMarkerAloneWithoutTmpSpec)

/-- ITS FALSE NEIGHBOUR: 'it returns false'. Refute it at one input. -/
def fnReservedMarkerAloneWithoutTmpWrong : ChangeSpec := { name := "fnReservedMarkerAloneWithoutTmp", fn := fun _ => fun
  | [d] => { results := [.lit (.bool false)], args := [d] }
  | _ => none }
def FnReservedMarkerAloneWithoutTmpWrongFalsely : Prop := fnReservedMarkerAloneWithoutTmpRow.holds Trym.pinned (OpenSpec.ofChange fnReservedMarkerAloneWithoutTmpWrong)

/-- 'zzlaws_pkg_folderfs_b1.FnElementsAtSound': WHATEVER THE INPUT: true; the input reads as it did. -/
def fnElementsAtSoundSpec : ChangeSpec := { name := "fnElementsAtSound", fn := fun _ => fun
  | [d1, d2, d3] => { results := [.lit (.bool true)], args := [d1, d2, d3] }
  | _ => none }
def fnElementsAtSoundRow : OpenClaim := { program := "qxb6001003amods", sum := "1e98038f989c80cdfb2f69d7f68d83b00c85176d0dedaaf502f2719c650182d9", func := "example.com/blocktide/blocktide/zzlaws_pkg_folderfs_b1.FnElementsAtSound", spec := "fnElementsAtSound", unfollowed := true, recurses := true, make := .lifted ["publicsums"], apart := false }
def FnElementsAtSoundSaid : Prop := fnElementsAtSoundRow.holds Trym.pinned (OpenSpec.ofChange fnElementsAtSoundSpec)

/-- ITS FALSE NEIGHBOUR: 'it returns false'. Refute it at one input. -/
def fnElementsAtSoundWrong : ChangeSpec := { name := "fnElementsAtSound", fn := fun _ => fun
  | [d1, d2, d3] => { results := [.lit (.bool false)], args := [d1, d2, d3] }
  | _ => none }
def FnElementsAtSoundWrongFalsely : Prop := fnElementsAtSoundRow.holds Trym.pinned (OpenSpec.ofChange fnElementsAtSoundWrong)

/-- 'zzlaws_pkg_folderfs_b1.FnElementsAtNoLaterThanAny': WHATEVER THE INPUT: true; the input reads as it did. -/
def fnElementsAtNoLaterThanAnySpec : ChangeSpec := { name := "fnElementsAtNoLaterThanAny", fn := fun _ => fun
  | [d1, d2, d3, d4] => { results := [.lit (.bool true)], args := [d1, d2, d3, d4] }
  | _ => none }
def fnElementsAtNoLaterThanAnyRow : OpenClaim := { program := "qxb6001003amods", sum := "1e98038f989c80cdfb2f69d7f68d83b00c85176d0dedaaf502f2719c650182d9", func := "example.com/blocktide/blocktide/zzlaws_pkg_folderfs_b1.FnElementsAtNoLaterThanAny", spec := "fnElementsAtNoLaterThanAny", unfollowed := true, recurses := true, make := .lifted ["publicsums"], apart := false }
def FnElementsAtNoLaterThanAnySaid : Prop := fnElementsAtNoLaterThanAnyRow.holds Trym.pinned (OpenSpec.ofChange fnElementsAtNoLaterThanAnySpec)

/-- ITS FALSE NEIGHBOUR: 'it returns false'. Refute it at one input. -/
def fnElementsAtNoLaterThanAnyWrong : ChangeSpec := { name := "fnElementsAtNoLaterThanAny", fn := fun _ => fun
  | [d1, d2, d3, d4] => { results := [.lit (.bool false)], args := [d1, d2, d3, d4] }
  | _ => none }
def FnElementsAtNoLaterThanAnyWrongFalsely : Prop := fnElementsAtNoLaterThanAnyRow.holds Trym.pinned (OpenSpec.ofChange fnElementsAtNoLaterThanAnyWrong)

/-- 'zzlaws_pkg_folderfs_b1.FnElementsAtResume': WHATEVER THE INPUT: true; the input reads as it did. -/
def fnElementsAtResumeSpec : ChangeSpec := { name := "fnElementsAtResume", fn := fun _ => fun
  | [d1, d2, d3, d4] => { results := [.lit (.bool true)], args := [d1, d2, d3, d4] }
  | _ => none }
def fnElementsAtResumeRow : OpenClaim := { program := "qxb6001003amods", sum := "1e98038f989c80cdfb2f69d7f68d83b00c85176d0dedaaf502f2719c650182d9", func := "example.com/blocktide/blocktide/zzlaws_pkg_folderfs_b1.FnElementsAtResume", spec := "fnElementsAtResume", unfollowed := true, recurses := true, make := .lifted ["publicsums"], apart := false }
def FnElementsAtResumeSaid : Prop := fnElementsAtResumeRow.holds Trym.pinned (OpenSpec.ofChange fnElementsAtResumeSpec)

/-- ITS FALSE NEIGHBOUR: 'it returns false'. Refute it at one input. -/
def fnElementsAtResumeWrong : ChangeSpec := { name := "fnElementsAtResume", fn := fun _ => fun
  | [d1, d2, d3, d4] => { results := [.lit (.bool false)], args := [d1, d2, d3, d4] }
  | _ => none }
def FnElementsAtResumeWrongFalsely : Prop := fnElementsAtResumeRow.holds Trym.pinned (OpenSpec.ofChange fnElementsAtResumeWrong)

end Rows
end Go.Proofs.Qxb6001003aMods
