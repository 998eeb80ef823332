/-
  No cell of these rows narrows 'for every input' (looked for: loops, veiled, ifaces, maps, wideKeys, modest, calm, conditions, laid).
  DERIVED. THE GIVEN ROWS OF THIS SEAT. 7 by the template 'for every input the law returns true; each argument reads behind the call as it read before'; 0 by the template 'total and deterministic' (their statements: Qxb6602441aModsTotals.lean).
  GIVEN WITH THE SEED: the statements are not yours to turn. If you find one false, say at which input.
  Laid BY PROGRAM, IN A SANDBOX (cutbox-rows.mjs): the forced cells as the released guide's own fill.sh prints them over the translation adeca5e4578b9583… (all of the seat's roots in one cut). By AI agents, Wed Nov 11 2026. No macro, syntax, notation, axiom, sorry.
-/
import Derived.Test.Qxb6602441aModsChecked
import GoSem.Claim
import GoSem.ClaimJoined
import GoSem.ClaimMapViews
import Derived.JoinedTies
import Derived.KernelRfl
namespace Go.Proofs.Qxb6602441aMods
/- THE CELL 'sum', in the pinned program and in every row, IS THE sha256 OF THE DUMP (.gsa) THAT Qxb6602441aModsProg.lean LOADS. Nothing in Lean hashes anything: it is a label: what it is worth is what the hold of that sum in a sandbox is worth. -/
noncomputable def Trym.pinned : Pinned := { name := "qxb6602441amods", sum := "adeca5e4578b95836ed356d4ffc0d2fd9b4891352dfd74c88d3646cbf18be4d9", checked := Trym.checked }
namespace Rows
def none {H : Type} : Left H := { results := [], args := [] }

/-- 'zzlaws_pkg_compress_b1.FnNextSequenceIsSmallestDecodableCode': WHATEVER THE INPUT: true; the input reads as it did. -/
def fnNextSequenceIsSmallestDecodableCodeSpec : ChangeSpec := { name := "fnNextSequenceIsSmallestDecodableCode", fn := fun _ => fun
  | [d1, d2, d3, d4] => { results := [.lit (.bool true)], args := [d1, d2, d3, d4] }
  | _ => none }
def fnNextSequenceIsSmallestDecodableCodeRow : OpenClaim := { program := "qxb6602441amods", sum := "adeca5e4578b95836ed356d4ffc0d2fd9b4891352dfd74c88d3646cbf18be4d9", func := "example.com/halyard/halyard/zzlaws_pkg_compress_b1.FnNextSequenceIsSmallestDecodableCode", spec := "fnNextSequenceIsSmallestDecodableCode", make := .lifted ["publicsums"], apart := false }
def FnNextSequenceIsSmallestDecodableCodeSaid : Prop := fnNextSequenceIsSmallestDecodableCodeRow.holds Trym.pinned (OpenSpec.ofChange fnNextSequenceIsSmallestDecodableCodeSpec)

/-- ITS FALSE NEIGHBOUR: 'it returns false'. Refute it at one input. -/
def fnNextSequenceIsSmallestDecodableCodeWrong : ChangeSpec := { name := "fnNextSequenceIsSmallestDecodableCode", fn := fun _ => fun
  | [d1, d2, d3, d4] => { results := [.lit (.bool false)], args := [d1, d2, d3, d4] }
  | _ => none }
def FnNextSequenceIsSmallestDecodableCodeWrongFalsely : Prop := fnNextSequenceIsSmallestDecodableCodeRow.holds Trym.pinned (OpenSpec.ofChange fnNextSequenceIsSmallestDecodableCodeWrong)

/-- 'zzlaws_pkg_compress_b1.FnNextSequenceFrontIsTheDistance': WHATEVER THE INPUT: true; the input reads as it did. -/
def fnNextSequenceFrontIsTheDistanceSpec : ChangeSpec := { name := "fnNextSequenceFrontIsTheDistance", fn := fun _ => fun
  | [d1, d2, d3, d4] => { results := [.lit (.bool true)], args := [d1, d2, d3, d4] }
  | _ => none }
def fnNextSequenceFrontIsTheDistanceRow : OpenClaim := { program := "qxb6602441amods", sum := "adeca5e4578b95836ed356d4ffc0d2fd9b4891352dfd74c88d3646cbf18be4d9", func := "example.com/halyard/halyard/zzlaws_pkg_compress_b1.FnNextSequenceFrontIsTheDistance", spec := "fnNextSequenceFrontIsTheDistance", make := .lifted ["publicsums"], apart := false }
def FnNextSequenceFrontIsTheDistanceSaid : Prop := fnNextSequenceFrontIsTheDistanceRow.holds Trym.pinned (OpenSpec.ofChange fnNextSequenceFrontIsTheDistanceSpec)

/-- ITS FALSE NEIGHBOUR: 'it returns false'. Refute it at one input. -/
def fnNextSequenceFrontIsTheDistanceWrong : ChangeSpec := { name := "fnNextSequenceFrontIsTheDistance", fn := fun _ => fun
  | [d1, d2, d3, d4] => { results := [.lit (.bool false)], args := [d1, d2, d3, d4] }
  | _ => none }
def FnNextSequenceFrontIsTheDistanceWrongFalsely : Prop := fnNextSequenceFrontIsTheDistanceRow.holds Trym.pinned (OpenSpec.ofChange fnNextSequenceFrontIsTheDistanceWrong)

/-- 'zzlaws_pkg_compress_b1.FnNextSequenceScriptDecodesInLockstep': WHATEVER THE INPUT: true; the input reads as it did. -/
def fnNextSequenceScriptDecodesInLockstepSpec : ChangeSpec := { name := "fnNextSequenceScriptDecodesInLockstep", fn := fun _ => fun
  | [d1, d2] => { results := [.lit (.bool true)], args := [d1, d2] }
  | _ => none }
def fnNextSequenceScriptDecodesInLockstepRow : OpenClaim := { program := "qxb6602441amods", sum := "adeca5e4578b95836ed356d4ffc0d2fd9b4891352dfd74c88d3646cbf18be4d9", func := "example.com/halyard/halyard/zzlaws_pkg_compress_b1.FnNextSequenceScriptDecodesInLockstep", spec := "fnNextSequenceScriptDecodesInLockstep", make := .lifted ["publicsums"], apart := false }
def FnNextSequenceScriptDecodesInLockstepSaid : Prop := fnNextSequenceScriptDecodesInLockstepRow.holds Trym.pinned (OpenSpec.ofChange fnNextSequenceScriptDecodesInLockstepSpec)

/-- ITS FALSE NEIGHBOUR: 'it returns false'. Refute it at one input. -/
def fnNextSequenceScriptDecodesInLockstepWrong : ChangeSpec := { name := "fnNextSequenceScriptDecodesInLockstep", fn := fun _ => fun
  | [d1, d2] => { results := [.lit (.bool false)], args := [d1, d2] }
  | _ => none }
def FnNextSequenceScriptDecodesInLockstepWrongFalsely : Prop := fnNextSequenceScriptDecodesInLockstepRow.holds Trym.pinned (OpenSpec.ofChange fnNextSequenceScriptDecodesInLockstepWrong)

/-- 'zzlaws_pkg_compress_b1.FnLengthCodesTileTheirRange': WHATEVER THE INPUT: true; the input reads as it did. -/
def fnLengthCodesTileTheirRangeSpec : ChangeSpec := { name := "fnLengthCodesTileTheirRange", fn := fun _ => fun
  | [d1, d2, d3] => { results := [.lit (.bool true)], args := [d1, d2, d3] }
  | _ => none }
def fnLengthCodesTileTheirRangeRow : OpenClaim := { program := "qxb6602441amods", sum := "adeca5e4578b95836ed356d4ffc0d2fd9b4891352dfd74c88d3646cbf18be4d9", func := "example.com/halyard/halyard/zzlaws_pkg_compress_b1.FnLengthCodesTileTheirRange", spec := "fnLengthCodesTileTheirRange", make := .lifted ["publicsums"], apart := false }
def FnLengthCodesTileTheirRangeSaid : Prop := fnLengthCodesTileTheirRangeRow.holds Trym.pinned (OpenSpec.ofChange fnLengthCodesTileTheirRangeSpec)

/-- ITS FALSE NEIGHBOUR: 'it returns false'. Refute it at one input. -/
def fnLengthCodesTileTheirRangeWrong : ChangeSpec := { name := "fnLengthCodesTileTheirRange", fn := fun _ => fun
  | [d1, d2, d3] => { results := [.lit (.bool false)], args := [d1, d2, d3] }
  | _ => none }
def FnLengthCodesTileTheirRangeWrongFalsely : Prop := fnLengthCodesTileTheirRangeRow.holds Trym.pinned (OpenSpec.ofChange fnLengthCodesTileTheirRangeWrong)

/-- 'zzlaws_pkg_compress_b1.FnLengthCodesMatchRFC8878Tables': WHATEVER THE INPUT: true; the input reads as it did. -/
def fnLengthCodesMatchRFC8878TablesSpec : ChangeSpec := { name := "fnLengthCodesMatchRFC8878Tables", fn := fun _ => fun
  | [] => { results := [.lit (.bool true)], args := [] }
  | _ => none }
def fnLengthCodesMatchRFC8878TablesRow : OpenClaim := { program := "qxb6602441amods", sum := "adeca5e4578b95836ed356d4ffc0d2fd9b4891352dfd74c88d3646cbf18be4d9", func := "example.com/halyard/halyard/zzlaws_pkg_compress_b1.FnLengthCodesMatchRFC8878Tables", spec := "fnLengthCodesMatchRFC8878Tables", make := .lifted ["publicsums"], apart := false }
def FnLengthCodesMatchRFC8878TablesSaid : Prop := fnLengthCodesMatchRFC8878TablesRow.holds Trym.pinned (OpenSpec.ofChange fnLengthCodesMatchRFC8878TablesSpec)

/-- ITS FALSE NEIGHBOUR: 'it returns false'. Refute it at one input. -/
def fnLengthCodesMatchRFC8878TablesWrong : ChangeSpec := { name := "fnLengthCodesMatchRFC8878Tables", fn := fun _ => fun
  | [] => { results := [.lit (.bool false)], args := [] }
  | _ => none }
def FnLengthCodesMatchRFC8878TablesWrongFalsely : Prop := fnLengthCodesMatchRFC8878TablesRow.holds Trym.pinned (OpenSpec.ofChange fnLengthCodesMatchRFC8878TablesWrong)

/-- 'zzlaws_pkg_compress_b1.FnLengthCodesShiftWithFirst': WHATEVER THE INPUT: true; the input reads as it did. -/
def fnLengthCodesShiftWithFirstSpec : ChangeSpec := { name := "fnLengthCodesShiftWithFirst", fn := fun _ => fun
  | [d1, d2, d3, d4] => { results := [.lit (.bool true)], args := [d1, d2, d3, d4] }
  | _ => none }
def fnLengthCodesShiftWithFirstRow : OpenClaim := { program := "qxb6602441amods", sum := "adeca5e4578b95836ed356d4ffc0d2fd9b4891352dfd74c88d3646cbf18be4d9", func := "example.com/halyard/halyard/zzlaws_pkg_compress_b1.FnLengthCodesShiftWithFirst", spec := "fnLengthCodesShiftWithFirst", make := .lifted ["publicsums"], apart := false }
def FnLengthCodesShiftWithFirstSaid : Prop := fnLengthCodesShiftWithFirstRow.holds Trym.pinned (OpenSpec.ofChange fnLengthCodesShiftWithFirstSpec)

/-- ITS FALSE NEIGHBOUR: 'it returns false'. Refute it at one input. -/
def fnLengthCodesShiftWithFirstWrong : ChangeSpec := { name := "fnLengthCodesShiftWithFirst", fn := fun _ => fun
  | [d1, d2, d3, d4] => { results := [.lit (.bool false)], args := [d1, d2, d3, d4] }
  | _ => none }
def FnLengthCodesShiftWithFirstWrongFalsely : Prop := fnLengthCodesShiftWithFirstRow.holds Trym.pinned (OpenSpec.ofChange fnLengthCodesShiftWithFirstWrong)

/-- 'zzlaws_pkg_compress_b1.FnUsableSeesOnlyWhichSymbolsAreCounted': WHATEVER THE INPUT: true; the input reads as it did. -/
def fnUsableSeesOnlyWhichSymbolsAreCountedSpec : ChangeSpec := { name := "fnUsableSeesOnlyWhichSymbolsAreCounted", fn := fun _ => fun
  | [d1, d2, d3, d4, d5, d6, d7] => { results := [.lit (.bool true)], args := [d1, d2, d3, d4, d5, d6, d7] }
  | _ => none }
def fnUsableSeesOnlyWhichSymbolsAreCountedRow : OpenClaim := { program := "qxb6602441amods", sum := "adeca5e4578b95836ed356d4ffc0d2fd9b4891352dfd74c88d3646cbf18be4d9", func := "example.com/halyard/halyard/zzlaws_pkg_compress_b1.FnUsableSeesOnlyWhichSymbolsAreCounted", spec := "fnUsableSeesOnlyWhichSymbolsAreCounted", make := .lifted ["publicsums"], apart := false }
def FnUsableSeesOnlyWhichSymbolsAreCountedSaid : Prop := fnUsableSeesOnlyWhichSymbolsAreCountedRow.holds Trym.pinned (OpenSpec.ofChange fnUsableSeesOnlyWhichSymbolsAreCountedSpec)

/-- ITS FALSE NEIGHBOUR: 'it returns false'. Refute it at one input. -/
def fnUsableSeesOnlyWhichSymbolsAreCountedWrong : ChangeSpec := { name := "fnUsableSeesOnlyWhichSymbolsAreCounted", fn := fun _ => fun
  | [d1, d2, d3, d4, d5, d6, d7] => { results := [.lit (.bool false)], args := [d1, d2, d3, d4, d5, d6, d7] }
  | _ => none }
def FnUsableSeesOnlyWhichSymbolsAreCountedWrongFalsely : Prop := fnUsableSeesOnlyWhichSymbolsAreCountedRow.holds Trym.pinned (OpenSpec.ofChange fnUsableSeesOnlyWhichSymbolsAreCountedWrong)

end Rows
end Go.Proofs.Qxb6602441aMods
