/-
  No cell of these rows narrows 'for every input' (looked for: loops, veiled, ifaces, maps, wideKeys, modest, calm, conditions, laid).
  DERIVED. THE GIVEN ROWS OF THIS SEAT. 8 by the template 'for every input the law returns true; each argument reads behind the call as it read before'; 0 by the template 'total and deterministic' (their statements: Qxb6601040aModsTotals.lean).
  GIVEN WITH THE SEED: the statements are not yours to turn. If you find one false, say at which input.
  Laid BY PROGRAM, IN A SANDBOX (cutbox-rows.mjs): the forced cells as the released guide's own fill.sh prints them over the translation 1906a2f673d3f34e… (all of the seat's roots in one cut). By AI agents, Wed Nov 11 2026. No macro, syntax, notation, axiom, sorry.
-/
import Derived.Test.Qxb6601040aModsChecked
import GoSem.Claim
import GoSem.ClaimJoined
import GoSem.ClaimMapViews
import Derived.JoinedTies
import Derived.KernelRfl
namespace Go.Proofs.Qxb6601040aMods
/- THE CELL 'sum', in the pinned program and in every row, IS THE sha256 OF THE DUMP (.gsa) THAT Qxb6601040aModsProg.lean LOADS. Nothing in Lean hashes anything: it is a label: what it is worth is what the hold of that sum in a sandbox is worth. -/
noncomputable def Trym.pinned : Pinned := { name := "qxb6601040amods", sum := "1906a2f673d3f34e0099e18bdf1bb2a4d43f533c5348d9f7b1e184fade4ef3e0", checked := Trym.checked }
namespace Rows
def none {H : Type} : Left H := { results := [], args := [] }

/-- 'zzlaws_root_b1.FnSameNamesIsAnEquivalence': WHATEVER THE INPUT: true; the input reads as it did. -/
def fnSameNamesIsAnEquivalenceSpec : ChangeSpec := { name := "fnSameNamesIsAnEquivalence", fn := fun _ => fun
  | [d1, d2, d3] => { results := [.lit (.bool true)], args := [d1, d2, d3] }
  | _ => none }
def fnSameNamesIsAnEquivalenceRow : OpenClaim := { program := "qxb6601040amods", sum := "1906a2f673d3f34e0099e18bdf1bb2a4d43f533c5348d9f7b1e184fade4ef3e0", func := "example.com/lamina/lamina/zzlaws_root_b1.FnSameNamesIsAnEquivalence", spec := "fnSameNamesIsAnEquivalence", make := .lifted ["publicsums"], apart := false }
def FnSameNamesIsAnEquivalenceSaid : Prop := fnSameNamesIsAnEquivalenceRow.holds Trym.pinned (OpenSpec.ofChange fnSameNamesIsAnEquivalenceSpec)

/-- ITS FALSE NEIGHBOUR: 'it returns false'. Refute it at one input. -/
def fnSameNamesIsAnEquivalenceWrong : ChangeSpec := { name := "fnSameNamesIsAnEquivalence", fn := fun _ => fun
  | [d1, d2, d3] => { results := [.lit (.bool false)], args := [d1, d2, d3] }
  | _ => none }
def FnSameNamesIsAnEquivalenceWrongFalsely : Prop := fnSameNamesIsAnEquivalenceRow.holds Trym.pinned (OpenSpec.ofChange fnSameNamesIsAnEquivalenceWrong)

/-- 'zzlaws_root_b1.FnSameNamesSeesEveryChange': WHATEVER THE INPUT: true; the input reads as it did. -/
def fnSameNamesSeesEveryChangeSpec : ChangeSpec := { name := "fnSameNamesSeesEveryChange", fn := fun _ => fun
  | [d1, d2, d3] => { results := [.lit (.bool true)], args := [d1, d2, d3] }
  | _ => none }
def fnSameNamesSeesEveryChangeRow : OpenClaim := { program := "qxb6601040amods", sum := "1906a2f673d3f34e0099e18bdf1bb2a4d43f533c5348d9f7b1e184fade4ef3e0", func := "example.com/lamina/lamina/zzlaws_root_b1.FnSameNamesSeesEveryChange", spec := "fnSameNamesSeesEveryChange", make := .lifted ["publicsums"], apart := false }
def FnSameNamesSeesEveryChangeSaid : Prop := fnSameNamesSeesEveryChangeRow.holds Trym.pinned (OpenSpec.ofChange fnSameNamesSeesEveryChangeSpec)

/-- ITS FALSE NEIGHBOUR: 'it returns false'. Refute it at one input. -/
def fnSameNamesSeesEveryChangeWrong : ChangeSpec := { name := "fnSameNamesSeesEveryChange", fn := fun _ => fun
  | [d1, d2, d3] => { results := [.lit (.bool false)], args := [d1, d2, d3] }
  | _ => none }
def FnSameNamesSeesEveryChangeWrongFalsely : Prop := fnSameNamesSeesEveryChangeRow.holds Trym.pinned (OpenSpec.ofChange fnSameNamesSeesEveryChangeWrong)

/-- 'zzlaws_root_b1.FnIsSchemeIgnoresCase': WHATEVER THE INPUT: true; the input reads as it did. -/
def fnIsSchemeIgnoresCaseSpec : ChangeSpec := { name := "fnIsSchemeIgnoresCase", fn := fun _ => fun
  | [d] => { results := [.lit (.bool true)], args := [d] }
  | _ => none }
def fnIsSchemeIgnoresCaseRow : OpenClaim := { program := "qxb6601040amods", sum := "1906a2f673d3f34e0099e18bdf1bb2a4d43f533c5348d9f7b1e184fade4ef3e0", func := "example.com/lamina/lamina/zzlaws_root_b1.FnIsSchemeIgnoresCase", spec := "fnIsSchemeIgnoresCase", make := .lifted ["publicsums"], apart := false }
def FnIsSchemeIgnoresCaseSaid : Prop := fnIsSchemeIgnoresCaseRow.holds Trym.pinned (OpenSpec.ofChange fnIsSchemeIgnoresCaseSpec)

/-- ITS FALSE NEIGHBOUR: 'it returns false'. Refute it at one input. -/
def fnIsSchemeIgnoresCaseWrong : ChangeSpec := { name := "fnIsSchemeIgnoresCase", fn := fun _ => fun
  | [d] => { results := [.lit (.bool false)], args := [d] }
  | _ => none }
def FnIsSchemeIgnoresCaseWrongFalsely : Prop := fnIsSchemeIgnoresCaseRow.holds Trym.pinned (OpenSpec.ofChange fnIsSchemeIgnoresCaseWrong)

/-- 'zzlaws_root_b1.FnIsSchemePrefixClosed': WHATEVER THE INPUT: true; the input reads as it did. -/
def fnIsSchemePrefixClosedSpec : ChangeSpec := { name := "fnIsSchemePrefixClosed", fn := fun _ => fun
  | [d1, d2] => { results := [.lit (.bool true)], args := [d1, d2] }
  | _ => none }
def fnIsSchemePrefixClosedRow : OpenClaim := { program := "qxb6601040amods", sum := "1906a2f673d3f34e0099e18bdf1bb2a4d43f533c5348d9f7b1e184fade4ef3e0", func := "example.com/lamina/lamina/zzlaws_root_b1.FnIsSchemePrefixClosed", spec := "fnIsSchemePrefixClosed", make := .lifted ["publicsums"], apart := false }
def FnIsSchemePrefixClosedSaid : Prop := fnIsSchemePrefixClosedRow.holds Trym.pinned (OpenSpec.ofChange fnIsSchemePrefixClosedSpec)

/-- ITS FALSE NEIGHBOUR: 'it returns false'. Refute it at one input. -/
def fnIsSchemePrefixClosedWrong : ChangeSpec := { name := "fnIsSchemePrefixClosed", fn := fun _ => fun
  | [d1, d2] => { results := [.lit (.bool false)], args := [d1, d2] }
  | _ => none }
def FnIsSchemePrefixClosedWrongFalsely : Prop := fnIsSchemePrefixClosedRow.holds Trym.pinned (OpenSpec.ofChange fnIsSchemePrefixClosedWrong)

/-- 'zzlaws_root_b1.FnIsURITextMatchesTokenModel': WHATEVER THE INPUT: true; the input reads as it did. -/
def fnIsURITextMatchesTokenModelSpec : ChangeSpec := { name := "fnIsURITextMatchesTokenModel", fn := fun _ => fun
  | [d1, d2] => { results := [.lit (.bool true)], args := [d1, d2] }
  | _ => none }
def fnIsURITextMatchesTokenModelRow : OpenClaim := { program := "qxb6601040amods", sum := "1906a2f673d3f34e0099e18bdf1bb2a4d43f533c5348d9f7b1e184fade4ef3e0", func := "example.com/lamina/lamina/zzlaws_root_b1.FnIsURITextMatchesTokenModel", spec := "fnIsURITextMatchesTokenModel", inPlace := ["internal/bytealg.IndexByteString"], make := .lifted ["publicsums"], apart := false }
def FnIsURITextMatchesTokenModelSaid : Prop := fnIsURITextMatchesTokenModelRow.holds Trym.pinned (OpenSpec.ofChange fnIsURITextMatchesTokenModelSpec)

/-- ITS FALSE NEIGHBOUR: 'it returns false'. Refute it at one input. -/
def fnIsURITextMatchesTokenModelWrong : ChangeSpec := { name := "fnIsURITextMatchesTokenModel", fn := fun _ => fun
  | [d1, d2] => { results := [.lit (.bool false)], args := [d1, d2] }
  | _ => none }
def FnIsURITextMatchesTokenModelWrongFalsely : Prop := fnIsURITextMatchesTokenModelRow.holds Trym.pinned (OpenSpec.ofChange fnIsURITextMatchesTokenModelWrong)

/-- 'zzlaws_root_b1.FnIsURITextMonotoneInExtra': WHATEVER THE INPUT: true; the input reads as it did. -/
def fnIsURITextMonotoneInExtraSpec : ChangeSpec := { name := "fnIsURITextMonotoneInExtra", fn := fun _ => fun
  | [d1, d2, d3] => { results := [.lit (.bool true)], args := [d1, d2, d3] }
  | _ => none }
def fnIsURITextMonotoneInExtraRow : OpenClaim := { program := "qxb6601040amods", sum := "1906a2f673d3f34e0099e18bdf1bb2a4d43f533c5348d9f7b1e184fade4ef3e0", func := "example.com/lamina/lamina/zzlaws_root_b1.FnIsURITextMonotoneInExtra", spec := "fnIsURITextMonotoneInExtra", inPlace := ["internal/bytealg.IndexByteString"], make := .lifted ["publicsums"], apart := false }
def FnIsURITextMonotoneInExtraSaid : Prop := fnIsURITextMonotoneInExtraRow.holds Trym.pinned (OpenSpec.ofChange fnIsURITextMonotoneInExtraSpec)

/-- ITS FALSE NEIGHBOUR: 'it returns false'. Refute it at one input. -/
def fnIsURITextMonotoneInExtraWrong : ChangeSpec := { name := "fnIsURITextMonotoneInExtra", fn := fun _ => fun
  | [d1, d2, d3] => { results := [.lit (.bool false)], args := [d1, d2, d3] }
  | _ => none }
def FnIsURITextMonotoneInExtraWrongFalsely : Prop := fnIsURITextMonotoneInExtraRow.holds Trym.pinned (OpenSpec.ofChange fnIsURITextMonotoneInExtraWrong)

/-- 'zzlaws_root_b1.FnIsURITextAcceptsPercentEncoding': WHATEVER THE INPUT: true; the input reads as it did. -/
def fnIsURITextAcceptsPercentEncodingSpec : ChangeSpec := { name := "fnIsURITextAcceptsPercentEncoding", fn := fun _ => fun
  | [d] => { results := [.lit (.bool true)], args := [d] }
  | _ => none }
def fnIsURITextAcceptsPercentEncodingRow : OpenClaim := { program := "qxb6601040amods", sum := "1906a2f673d3f34e0099e18bdf1bb2a4d43f533c5348d9f7b1e184fade4ef3e0", func := "example.com/lamina/lamina/zzlaws_root_b1.FnIsURITextAcceptsPercentEncoding", spec := "fnIsURITextAcceptsPercentEncoding", inPlace := ["internal/bytealg.IndexByteString"], make := .lifted ["publicsums"], apart := false }
def FnIsURITextAcceptsPercentEncodingSaid : Prop := fnIsURITextAcceptsPercentEncodingRow.holds Trym.pinned (OpenSpec.ofChange fnIsURITextAcceptsPercentEncodingSpec)

/-- ITS FALSE NEIGHBOUR: 'it returns false'. Refute it at one input. -/
def fnIsURITextAcceptsPercentEncodingWrong : ChangeSpec := { name := "fnIsURITextAcceptsPercentEncoding", fn := fun _ => fun
  | [d] => { results := [.lit (.bool false)], args := [d] }
  | _ => none }
def FnIsURITextAcceptsPercentEncodingWrongFalsely : Prop := fnIsURITextAcceptsPercentEncodingRow.holds Trym.pinned (OpenSpec.ofChange fnIsURITextAcceptsPercentEncodingWrong)

/-- 'zzlaws_root_b1.FnIsSchemeIsURIText': WHATEVER THE INPUT: true; the input reads as it did. -/
def fnIsSchemeIsURITextSpec : ChangeSpec := { name := "fnIsSchemeIsURIText", fn := fun _ => fun
  | [d] => { results := [.lit (.bool true)], args := [d] }
  | _ => none }
def fnIsSchemeIsURITextRow : OpenClaim := { program := "qxb6601040amods", sum := "1906a2f673d3f34e0099e18bdf1bb2a4d43f533c5348d9f7b1e184fade4ef3e0", func := "example.com/lamina/lamina/zzlaws_root_b1.FnIsSchemeIsURIText", spec := "fnIsSchemeIsURIText", inPlace := ["internal/bytealg.IndexByteString"], make := .lifted ["publicsums"], apart := false }
def FnIsSchemeIsURITextSaid : Prop := fnIsSchemeIsURITextRow.holds Trym.pinned (OpenSpec.ofChange fnIsSchemeIsURITextSpec)

/-- ITS FALSE NEIGHBOUR: 'it returns false'. Refute it at one input. -/
def fnIsSchemeIsURITextWrong : ChangeSpec := { name := "fnIsSchemeIsURIText", fn := fun _ => fun
  | [d] => { results := [.lit (.bool false)], args := [d] }
  | _ => none }
def FnIsSchemeIsURITextWrongFalsely : Prop := fnIsSchemeIsURITextRow.holds Trym.pinned (OpenSpec.ofChange fnIsSchemeIsURITextWrong)

end Rows
end Go.Proofs.Qxb6601040aMods
