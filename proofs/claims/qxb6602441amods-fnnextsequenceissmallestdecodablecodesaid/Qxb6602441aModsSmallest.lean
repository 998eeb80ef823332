/-
  Rows.FnNextSequenceIsSmallestDecodableCodeSaid, proved.
-/
import Derived.Test.Qxb6602441aModsSmallWalk
import Derived.Test.Qxb6602441aModsOpen
namespace Go.Proofs.Qxb6602441aMods
open Go.ChangeShapes Go.WideShapes Go.ChangeAt Go.RowKit
set_option linter.unusedVariables false

set_option maxRecDepth 100000 in
theorem smallest_lifted (os : Os) (started : os.Started) (H : Type) (enc : TypeId × Value → H) :
    ReturnsInHanded {} Trym.checked os 3 .any (Rows.fnNextSequenceIsSmallestDecodableCodeSpec.pre6 enc Trym.prog Trym.f3 Rows.fnNextSequenceIsSmallestDecodableCodeRow.domain false) (Rows.fnNextSequenceIsSmallestDecodableCodeSpec.post enc Trym.prog Trym.f3 false true false false) := by
  refine returnsInHanded_of_change (C := Trym.checked) own started (by kernel_rfl) Trym.func3
    (ChangeSpec.witness6 (enc := enc) (C := Trym.checked) false ⟨#[], #[.int .u32 0, .int .u32 0, .int .u32 0, .pointer none], []⟩ 8 (by kernel_rfl) (by kernel_rfl) (by kernel_rfl) (by kernel_rfl)) ?_
  intro W base args ds gs before hval0 hW hcnd _
  have hval : ∀ (j : Nat) t v, Trym.f3.params[j]? = some t → args[j]? = some v → Value.okWide Trym.prog W .any base t v := hval0
  have hW' := hW
  obtain ⟨p, q, hA0, hV, rfl, hfz, hnd⟩ := hW
  have hA : DataW.TrodAll enc Trym.prog W 0 (fun _ => true) true Trym.f3.params.toList args.toList ds p := hA0
  rw [Trym.params3] at hA hval
  obtain ⟨v0, v1, v2, v3, d0, d1, d2, d3, p0, p1, p2, p3, rfl, rfl, rfl, h0, h1, h2, h3⟩ := trodAll_four hA
  obtain ⟨rfl, rfl⟩ := trodVars_none hV
  obtain ⟨lit, rfl, rfl, rfl, w0⟩ := open_int Trym.underlying22 (hval 0 22 v0 rfl rfl) h0
  obtain ⟨len, rfl, rfl, rfl, w1⟩ := open_int Trym.underlying22 (hval 1 22 v1 rfl rfl) h1
  obtain ⟨dist, rfl, rfl, rfl, w2⟩ := open_int Trym.underlying22 (hval 2 22 v2 rfl rfl) h2
  have k3 := h3
  have lt3 : ∀ x ∈ p3, x.block < W.heap.size := by obtain ⟨m, hm⟩ := k3; exact DataW.trod_lt m _ _ _ hm
  have walk : Calls Trym.prog 3 #[.int .u32 lit, .int .u32 len, .int .u32 dist, v3] W fun e w' => e = .returned (.bool true) ∧ Below W.heap.size W w' := by
    rcases open_reps (hval 3 23 v3 rfl rfl) h3 with rfl | ⟨b, off, x, y, z, rfl, c0, c1, c2, _, _, _⟩
    · exact smallest_nil lit len dist W
    · by_cases hz : dist = 0
      · subst hz; exact smallest_zero lit len b off W
      by_cases hf : 4294967292 < dist
      · exact smallest_far lit len dist b off W hf
      · exact smallest_some lit len dist x y z b off W (nonneg_u32 w0).1 (by have := nonneg_u32 w2; omega) (by omega) c0 c1 c2
  clear hA0 hval0
  refine walk.mono fun e W' ⟨he, bel⟩ => ?_
  subst he
  exact ⟨_, rfl, _, _, _, [], _, [], hW', trodAll_mk1 (shut_bool Trym.underlying4 _), trodAll_mk4 (shut_int Trym.underlying22 w0) (shut_int Trym.underlying22 w1) (shut_int Trym.underlying22 w2) (Below.trod laidOut (by kernel_rfl) (of_decide_eq_true (by kernel_rfl)) k3 bel lt3), rfl, bel.frame _, fun h => by cases h⟩

theorem smallest_holds : Rows.FnNextSequenceIsSmallestDecodableCodeSaid :=
  OpenClaim.holds_of_wide 3 Trym.f3 rfl rfl rfl rfl rfl rfl rfl ⟨rfl, rfl, rfl, rfl, rfl⟩ rfl rfl rfl rfl rfl (by kernel_rfl) Trym.func3 (by kernel_rfl)
    (of_decide_eq_true (by kernel_rfl)) (by unfold Func.isWrapper; first | (rw [if_pos (by decide +kernel)]; kernel_rfl) | (rw [if_neg (by decide +kernel)]; exact ⟨rfl, rfl⟩))
    (fun os started H enc _ => smallest_lifted os started H enc)
end Go.Proofs.Qxb6602441aMods
