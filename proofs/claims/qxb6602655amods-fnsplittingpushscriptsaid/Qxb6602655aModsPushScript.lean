/-
  Rows.FnSplittingPushScriptSaid, proved.
-/
import Derived.Test.Qxb6602655aModsScriptMain
import Derived.Test.Qxb6602655aModsEnvOpen
namespace Go.Proofs.Qxb6602655aMods
open Go.ChangeShapes Go.WideShapes Go.ChangeAt Go.RowKit
set_option linter.unusedVariables false

set_option maxRecDepth 100000 in
theorem pushScript_lifted (os : Os) (started : os.Started) (H : Type) (enc : TypeId × Value → H) :
    ReturnsInHanded {} Trym.checked os 7 .any (Rows.fnSplittingPushScriptSpec.pre6 enc Trym.prog Trym.f7 Rows.fnSplittingPushScriptRow.domain false) (Rows.fnSplittingPushScriptSpec.post enc Trym.prog Trym.f7 false true false false) := by
  refine returnsInHanded_of_change (C := Trym.checked) own started (by kernel_rfl) Trym.func7
    (ChangeSpec.witness6 (enc := enc) (C := Trym.checked) false ⟨#[], #[.int .i64 0, .slice none 0 0], []⟩ 8 (by kernel_rfl) (by kernel_rfl) (by kernel_rfl) (by kernel_rfl)) ?_
  intro W base args ds gs before hval0 hW hcnd _
  have hval : ∀ (j : Nat) t v, Trym.f7.params[j]? = some t → args[j]? = some v → Value.okWide Trym.prog W .any base t v := hval0
  have hW' := hW
  obtain ⟨p, q, hA0, hV, rfl, hfz, hnd⟩ := hW
  have hA : DataW.TrodAll enc Trym.prog W 0 (fun _ => true) true Trym.f7.params.toList args.toList ds p := hA0
  rw [Trym.params7] at hA hval
  obtain ⟨v0, v1, d0, d1, p0, p1, rfl, rfl, rfl, h0, h1⟩ := trodAll_two hA
  obtain ⟨rfl, rfl⟩ := trodVars_none hV
  obtain ⟨n, rfl, rfl, rfl, wn⟩ := open_int Trym.underlying3 (hval 0 3 v0 rfl rfl) h0
  obtain ⟨a0, len, cap, rfl⟩ := okWide_slice Trym.underlying52 (hval 1 52 v1 rfl rfl)
  have lt1 : ∀ x ∈ p1, x.block < W.heap.size := by obtain ⟨m, hm⟩ := h1; exact DataW.trod_lt m _ _ _ hm
  have walk : Calls Trym.prog 7 #[.int .i64 n, .slice a0 len cap] W fun e w' => e = .returned (.bool true) ∧ Below W.heap.size W w' := by
    obtain ⟨l, b, off, rfl, hm, ha, hb, hE, hs⟩ := open_envs h1
    unfold maxLen at hm
    by_cases ho : 26214 < l.length ∨ n < 0 ∨ 65536 < n
    · exact script_out n a0 l.length cap W (by omega) ho
    obtain ⟨N, rfl⟩ := Int.eq_ofNat_of_zero_le (show 0 ≤ n by omega)
    by_cases hg : ∀ i (hi : i < l.length), 0 ≤ l[i].t ∧ l[i].t < N
    · exact script_good a0 N b off cap l W ha (by omega) (by omega) hb hE hs hg
    · have hpos : 0 < l.length := by
        rcases Nat.eq_zero_or_pos l.length with h | h
        · exact absurd (fun i hi => absurd hi (by omega)) hg
        · exact h
      rw [ha hpos]
      exact script_bad N b off cap l W (by omega) (by omega) hE hg
  clear hA0 hval0
  refine walk.mono fun e W' ⟨he, bel⟩ => ?_
  subst he
  exact ⟨_, rfl, _, _, _, [], _, [], hW', trodAll_mk1 (shut_bool Trym.underlying4 _), trodAll_mk2 (shut_int Trym.underlying3 wn) (Below.trod laidOut (by kernel_rfl) (of_decide_eq_true (by kernel_rfl)) h1 bel lt1), rfl, bel.frame _, fun h => by cases h⟩

theorem pushScript_holds : Rows.FnSplittingPushScriptSaid :=
  OpenClaim.holds_of_wide 7 Trym.f7 rfl rfl rfl rfl rfl rfl rfl ⟨rfl, rfl, rfl, rfl, rfl⟩ rfl rfl rfl rfl rfl (by kernel_rfl) Trym.func7 (by kernel_rfl)
    (of_decide_eq_true (by kernel_rfl)) (by unfold Func.isWrapper; first | (rw [if_pos (by decide +kernel)]; kernel_rfl) | (rw [if_neg (by decide +kernel)]; exact ⟨rfl, rfl⟩))
    (fun os started H enc _ => pushScript_lifted os started H enc)
end Go.Proofs.Qxb6602655aMods
