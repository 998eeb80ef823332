/-
  No cell of these rows narrows 'for every input' (looked for: loops, veiled, ifaces, maps, wideKeys, modest, calm, conditions, laid).
  DERIVED. THE GIVEN ROWS OF THIS SEAT. 5 by the template 'for every input the law returns true; each argument reads behind the call as it read before'; 0 by the template 'total and deterministic' (their statements: Qxb6602655aModsTotals.lean).
  GIVEN WITH THE SEED: the statements are not yours to turn. If you find one false, say at which input.
  Laid BY PROGRAM, IN A SANDBOX (cutbox-rows.mjs): the forced cells as the released guide's own fill.sh prints them over the translation 44b0669d5f0f35b5… (all of the seat's roots in one cut). By AI agents, Wed Nov 11 2026. No macro, syntax, notation, axiom, sorry.
-/
import Derived.Test.Qxb6602655aModsChecked
import GoSem.Claim
import GoSem.ClaimJoined
import GoSem.ClaimMapViews
import Derived.JoinedTies
import Derived.KernelRfl
namespace Go.Proofs.Qxb6602655aMods
/- THE CELL 'sum', in the pinned program and in every row, IS THE sha256 OF THE DUMP (.gsa) THAT Qxb6602655aModsProg.lean LOADS. Nothing in Lean hashes anything: it is a label: what it is worth is what the hold of that sum in a sandbox is worth. -/
noncomputable def Trym.pinned : Pinned := { name := "qxb6602655amods", sum := "44b0669d5f0f35b5ad179f80dc4e9658fd94410b878743b8bff4315f1413ebd4", checked := Trym.checked }
namespace Rows
def none {H : Type} : Left H := { results := [], args := [] }

/-- 'zzlaws_sim_b1.FnKindOfCanonicalRoundTrip': WHATEVER THE INPUT: true; the input reads as it did. -/
def fnKindOfCanonicalRoundTripSpec : ChangeSpec := { name := "fnKindOfCanonicalRoundTrip", fn := fun _ => fun
  | [d1, d2, d3, d4, d5, d6, d7, d8, d9, d10] => { results := [.lit (.bool true)], args := [d1, d2, d3, d4, d5, d6, d7, d8, d9, d10] }
  | _ => none }
def fnKindOfCanonicalRoundTripRow : OpenClaim := { program := "qxb6602655amods", sum := "44b0669d5f0f35b5ad179f80dc4e9658fd94410b878743b8bff4315f1413ebd4", func := "example.com/asyncord/asyncord/zzlaws_sim_b1.FnKindOfCanonicalRoundTrip", spec := "fnKindOfCanonicalRoundTrip", make := .lifted ["publicsums"], apart := false }
def FnKindOfCanonicalRoundTripSaid : Prop := fnKindOfCanonicalRoundTripRow.holds Trym.pinned (OpenSpec.ofChange fnKindOfCanonicalRoundTripSpec)

/-- ITS FALSE NEIGHBOUR: 'it returns false'. Refute it at one input. -/
def fnKindOfCanonicalRoundTripWrong : ChangeSpec := { name := "fnKindOfCanonicalRoundTrip", fn := fun _ => fun
  | [d1, d2, d3, d4, d5, d6, d7, d8, d9, d10] => { results := [.lit (.bool false)], args := [d1, d2, d3, d4, d5, d6, d7, d8, d9, d10] }
  | _ => none }
def FnKindOfCanonicalRoundTripWrongFalsely : Prop := fnKindOfCanonicalRoundTripRow.holds Trym.pinned (OpenSpec.ofChange fnKindOfCanonicalRoundTripWrong)

/-- 'zzlaws_sim_b1.FnTallyConcatenation': WHATEVER THE INPUT: true; the input reads as it did. -/
def fnTallyConcatenationSpec : ChangeSpec := { name := "fnTallyConcatenation", fn := fun _ => fun
  | [d1, d2, d3, d4, d5, d6, d7, d8] => { results := [.lit (.bool true)], args := [d1, d2, d3, d4, d5, d6, d7, d8] }
  | _ => none }
def fnTallyConcatenationRow : OpenClaim := { program := "qxb6602655amods", sum := "44b0669d5f0f35b5ad179f80dc4e9658fd94410b878743b8bff4315f1413ebd4", func := "example.com/asyncord/asyncord/zzlaws_sim_b1.FnTallyConcatenation", spec := "fnTallyConcatenation", make := .lifted ["publicsums"], apart := false }
def FnTallyConcatenationSaid : Prop := fnTallyConcatenationRow.holds Trym.pinned (OpenSpec.ofChange fnTallyConcatenationSpec)

/-- ITS FALSE NEIGHBOUR: 'it returns false'. Refute it at one input. -/
def fnTallyConcatenationWrong : ChangeSpec := { name := "fnTallyConcatenation", fn := fun _ => fun
  | [d1, d2, d3, d4, d5, d6, d7, d8] => { results := [.lit (.bool false)], args := [d1, d2, d3, d4, d5, d6, d7, d8] }
  | _ => none }
def FnTallyConcatenationWrongFalsely : Prop := fnTallyConcatenationRow.holds Trym.pinned (OpenSpec.ofChange fnTallyConcatenationWrong)

/-- 'zzlaws_sim_b1.FnTallyPartition': WHATEVER THE INPUT: true; the input reads as it did. -/
def fnTallyPartitionSpec : ChangeSpec := { name := "fnTallyPartition", fn := fun _ => fun
  | [d1, d2, d3, d4, d5] => { results := [.lit (.bool true)], args := [d1, d2, d3, d4, d5] }
  | _ => none }
def fnTallyPartitionRow : OpenClaim := { program := "qxb6602655amods", sum := "44b0669d5f0f35b5ad179f80dc4e9658fd94410b878743b8bff4315f1413ebd4", func := "example.com/asyncord/asyncord/zzlaws_sim_b1.FnTallyPartition", spec := "fnTallyPartition", make := .lifted ["publicsums"], apart := false }
def FnTallyPartitionSaid : Prop := fnTallyPartitionRow.holds Trym.pinned (OpenSpec.ofChange fnTallyPartitionSpec)

/-- ITS FALSE NEIGHBOUR: 'it returns false'. Refute it at one input. -/
def fnTallyPartitionWrong : ChangeSpec := { name := "fnTallyPartition", fn := fun _ => fun
  | [d1, d2, d3, d4, d5] => { results := [.lit (.bool false)], args := [d1, d2, d3, d4, d5] }
  | _ => none }
def FnTallyPartitionWrongFalsely : Prop := fnTallyPartitionRow.holds Trym.pinned (OpenSpec.ofChange fnTallyPartitionWrong)

/-- 'zzlaws_sim_b1.FnSplittingPushOneStep': WHATEVER THE INPUT: true; the input reads as it did. -/
def fnSplittingPushOneStepSpec : ChangeSpec := { name := "fnSplittingPushOneStep", fn := fun _ => fun
  | [d1, d2, d3, d4, d5] => { results := [.lit (.bool true)], args := [d1, d2, d3, d4, d5] }
  | _ => none }
def fnSplittingPushOneStepRow : OpenClaim := { program := "qxb6602655amods", sum := "44b0669d5f0f35b5ad179f80dc4e9658fd94410b878743b8bff4315f1413ebd4", func := "example.com/asyncord/asyncord/zzlaws_sim_b1.FnSplittingPushOneStep", spec := "fnSplittingPushOneStep", make := .lifted ["publicsums"], apart := false }
def FnSplittingPushOneStepSaid : Prop := fnSplittingPushOneStepRow.holds Trym.pinned (OpenSpec.ofChange fnSplittingPushOneStepSpec)

/-- ITS FALSE NEIGHBOUR: 'it returns false'. Refute it at one input. -/
def fnSplittingPushOneStepWrong : ChangeSpec := { name := "fnSplittingPushOneStep", fn := fun _ => fun
  | [d1, d2, d3, d4, d5] => { results := [.lit (.bool false)], args := [d1, d2, d3, d4, d5] }
  | _ => none }
def FnSplittingPushOneStepWrongFalsely : Prop := fnSplittingPushOneStepRow.holds Trym.pinned (OpenSpec.ofChange fnSplittingPushOneStepWrong)

/-- 'zzlaws_sim_b1.FnSplittingPushScript': WHATEVER THE INPUT: true; the input reads as it did. -/
def fnSplittingPushScriptSpec : ChangeSpec := { name := "fnSplittingPushScript", fn := fun _ => fun
  | [d1, d2] => { results := [.lit (.bool true)], args := [d1, d2] }
  | _ => none }
def fnSplittingPushScriptRow : OpenClaim := { program := "qxb6602655amods", sum := "44b0669d5f0f35b5ad179f80dc4e9658fd94410b878743b8bff4315f1413ebd4", func := "example.com/asyncord/asyncord/zzlaws_sim_b1.FnSplittingPushScript", spec := "fnSplittingPushScript", make := .lifted ["publicsums"], apart := false }
def FnSplittingPushScriptSaid : Prop := fnSplittingPushScriptRow.holds Trym.pinned (OpenSpec.ofChange fnSplittingPushScriptSpec)

/-- ITS FALSE NEIGHBOUR: 'it returns false'. Refute it at one input. -/
def fnSplittingPushScriptWrong : ChangeSpec := { name := "fnSplittingPushScript", fn := fun _ => fun
  | [d1, d2] => { results := [.lit (.bool false)], args := [d1, d2] }
  | _ => none }
def FnSplittingPushScriptWrongFalsely : Prop := fnSplittingPushScriptRow.holds Trym.pinned (OpenSpec.ofChange fnSplittingPushScriptWrong)

end Rows
end Go.Proofs.Qxb6602655aMods
