/-
  What the rows' proofs open: a pointer to an array of three uint32; small closed facts.
-/
import Derived.Test.Qxb6602441aModsRows
import Derived.WalkKit
import Derived.ProofKit
import Derived.OpenShut
import Derived.ShutString
import Derived.ChangeOld
import Derived.Below
import Derived.Laws.IdiomArrays
namespace Go.Proofs.Qxb6602441aMods
open Go.ChangeShapes Go.WideShapes Go.ChangeAt Go.RowKit
set_option linter.unusedVariables false

theorem own : ownKnob Trym.prog.godebug = none := by kernel_rfl
theorem laidOut : laidOutB Trym.prog = true := by kernel_rfl
theorem cells22 : Trym.prog.cellsOf 22 = 1 := by kernel_rfl
theorem cells24 : Trym.prog.cellsOf 24 = 3 := by kernel_rfl

theorem nonneg_u32 {x : Int} (h : (Lit.int .u32 x).wf = true) : 0 ≤ x ∧ x ≤ 4294967295 := by
  simp [Lit.wf, IntKind.min, IntKind.max, IntKind.signed, IntKind.bits] at h
  omega

/-- A pointer to an array of three uint32: nil, or three cells. -/
theorem open_reps {H : Type} {enc : TypeId × Value → H} {W : World} {r : Reach} {b0 base : Nat} {spare : Nat → Bool} {held : Bool} {v : Value} {d : DataW H} {ps : List MemPlace}
    (hval : Value.okWide Trym.prog W r b0 23 v) (hd : DataW.Trod enc Trym.prog W base spare held 23 v d ps) :
    v = .pointer none ∨ ∃ b off x y z, v = .pointer (some ⟨b, off, none⟩) ∧ W.cell? ⟨b, off, none⟩ = some (.int .u32 x) ∧ W.cell? ⟨b, off + 1, none⟩ = some (.int .u32 y) ∧ W.cell? ⟨b, off + 2, none⟩ = some (.int .u32 z) ∧
      (0 ≤ x ∧ x ≤ 4294967295) ∧ (0 ≤ y ∧ y ≤ 4294967295) ∧ (0 ≤ z ∧ z ≤ 4294967295) := by
  rcases ChangeShapes.open_ptr Trym.underlying23 (by rw [cells24]; omega) hval hd with ⟨rfl, _, _⟩ | ⟨b, off, cs, y, fuel, rfl, _, _, hlen, hcell, hy⟩
  · exact .inl rfl
  · right
    rw [cells24] at hlen hcell
    match cs, hlen with
    | [a0, a1, a2], _ =>
      obtain ⟨y0, y1, y2, n, _, k0, k1, k2⟩ := trod_array3 Trym.underlying24 cells22 hy
      obtain ⟨x0, e0, _, w0⟩ := DataW.trod_int Trym.underlying22 k0
      obtain ⟨x1, e1, _, w1⟩ := DataW.trod_int Trym.underlying22 k1
      obtain ⟨x2, e2, _, w2⟩ := DataW.trod_int Trym.underlying22 k2
      simp at e0 e1 e2
      subst e0 e1 e2
      exact ⟨b, off, x0, x1, x2, rfl, hcell 0 (by omega), hcell 1 (by omega), hcell 2 (by omega), nonneg_u32 w0, nonneg_u32 w1, nonneg_u32 w2⟩

end Go.Proofs.Qxb6602441aMods
