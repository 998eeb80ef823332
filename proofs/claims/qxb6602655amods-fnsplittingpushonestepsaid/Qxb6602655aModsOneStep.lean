/-
  Rows.FnSplittingPushOneStepSaid, proved.
-/
import Derived.Test.Qxb6602655aModsOneWait
import Derived.Test.Qxb6602655aModsOneFree
import Derived.Test.Qxb6602655aModsOneOpen
namespace Go.Proofs.Qxb6602655aMods
open Go.ChangeShapes Go.WideShapes Go.ChangeAt Go.RowKit
set_option linter.unusedVariables false

/-- Every input. -/
theorem one_all (af a1 a2 : Option Addr) (cF c1 c2 bF oF b1 o1 M N bw ow : Nat) (lf : List E) (cf : Nat → Int) (aw : Nat → Option Addr) (cw bE oE : Nat → Nat) (wl : Nat → List E) (r ef et em ed es : Int) (w : World)
    (hlf : lf.length ≤ maxLen) (haf : 0 < lf.length → af = some ⟨bF, oF, none⟩) (hnf : af = none → cF = 0) (hEf : Envs w bF oF lf) (hM : M ≤ maxLen) (ha1 : 0 < M → a1 = some ⟨b1, o1, none⟩) (hI : Ints w b1 o1 M cf) (hcf : ∀ p, p < M → cf p ≤ 9223372036854775807)
    (hN : N ≤ maxLen) (ha2 : 0 < N → a2 = some ⟨bw, ow, none⟩) (hL : Lists w bw ow N aw cw bE oE wl) (hes : es ≤ 127) :
    Calls Trym.prog 6 #[.slice af lf.length cF, .slice a1 M c1, .slice a2 N c2, .int .i64 r, .agg #[.int .i64 ef, .int .i64 et, .int .i64 em, .int .i64 ed, .int .i8 es]] w fun e w' => e = .returned (.bool true) ∧ Below w.heap.size w w' := by
  unfold maxLen at hlf hM hN
  by_cases hok : lf.length ≤ 1048576 ∧ M ≤ 1048576 ∧ N ≤ 1048576 ∧ 40 * lf.length + 8 * M + 24 * N ≤ 1048576
  · by_cases hfit : 40 * lf.length + 8 * M + 24 * N + 40 * tl wl N ≤ 1048576
    · by_cases hg : 0 ≤ et ∧ et < M ∧ et < N ∧ 0 ≤ cf et.toNat
      · obtain ⟨g0, g1, g2, g3⟩ := hg
        obtain ⟨t, rfl⟩ := Int.eq_ofNat_of_zero_le g0
        simp only [Int.toNat_natCast] at g3
        have htM : t < M := by omega
        have htN : t < N := by omega
        rw [ha1 (by omega), ha2 (by omega)]
        cases hw : wts t es with
        | true => exact one_wait af bF oF cF b1 o1 M c1 N c2 bw ow t lf cf aw cw bE oE wl r ef em ed es w haf hnf hEf hI hL hfit htM htN g3 (hcf t htM) hes hw
        | false => exact one_free af bF oF cF b1 o1 M c1 N c2 bw ow t lf cf aw cw bE oE wl r ef em ed es w haf hnf hEf hI hL hfit htM htN g3 (hcf t htM) hes hw
      · exact one_bad af a1 a2 lf.length M N cF c1 c2 bw ow aw cw bE oE wl r ef et em ed es w hlf hM hN hL ha2 hok hfit b1 o1 cf hI ha1 hg
    · exact one_heavy af a1 a2 lf.length M N cF c1 c2 bw ow aw cw bE oE wl r ef et em ed es w hlf hM hN hL ha2 hok (by omega)
  · exact one_big af a1 a2 lf.length M N cF c1 c2 bw ow aw cw bE oE wl r ef et em ed es w hlf hM hN hL ha2 hok

set_option maxRecDepth 100000 in
theorem oneStep_lifted (os : Os) (started : os.Started) (H : Type) (enc : TypeId × Value → H) :
    ReturnsInHanded {} Trym.checked os 6 .any (Rows.fnSplittingPushOneStepSpec.pre6 enc Trym.prog Trym.f6 Rows.fnSplittingPushOneStepRow.domain false) (Rows.fnSplittingPushOneStepSpec.post enc Trym.prog Trym.f6 false true false false) := by
  refine returnsInHanded_of_change (C := Trym.checked) own started (by kernel_rfl) Trym.func6
    (ChangeSpec.witness6 (enc := enc) (C := Trym.checked) false ⟨#[], #[.slice none 0 0, .slice none 0 0, .slice none 0 0, .int .i64 0, .agg #[.int .i64 0, .int .i64 0, .int .i64 0, .int .i64 0, .int .i8 0]], []⟩ 8 (by kernel_rfl) (by kernel_rfl) (by kernel_rfl) (by kernel_rfl)) ?_
  intro W base args ds gs before hval0 hW hcnd _
  have hval : ∀ (j : Nat) t v, Trym.f6.params[j]? = some t → args[j]? = some v → Value.okWide Trym.prog W .any base t v := hval0
  have hW' := hW
  obtain ⟨p, q, hA0, hV, rfl, hfz, hnd⟩ := hW
  have hA : DataW.TrodAll enc Trym.prog W 0 (fun _ => true) true Trym.f6.params.toList args.toList ds p := hA0
  rw [Trym.params6] at hA hval
  obtain ⟨v0, vs0, d0, ds0, p0, q0, hargs, rfl, rfl, h0, r0⟩ := trodAll_cons hA
  obtain ⟨v1, vs1, d1, ds1, p1, q1, rfl, rfl, rfl, h1, r1⟩ := trodAll_cons r0
  obtain ⟨v2, vs2, d2, ds2, p2, q2, rfl, rfl, rfl, h2, r2⟩ := trodAll_cons r1
  obtain ⟨v3, vs3, d3, ds3, p3, q3, rfl, rfl, rfl, h3, r3⟩ := trodAll_cons r2
  obtain ⟨v4, vs4, d4, ds4, p4, q4, rfl, rfl, rfl, h4, r4⟩ := trodAll_cons r3
  obtain ⟨rfl, rfl, rfl⟩ := trodAll_nil r4
  obtain rfl : args = #[v0, v1, v2, v3, v4] := by cases args; simp_all
  obtain ⟨rfl, rfl⟩ := trodVars_none hV
  have lt0 : ∀ x ∈ p0, x.block < W.heap.size := by obtain ⟨m, hm⟩ := h0; exact DataW.trod_lt m _ _ _ hm
  have lt1 : ∀ x ∈ p1, x.block < W.heap.size := by obtain ⟨m, hm⟩ := h1; exact DataW.trod_lt m _ _ _ hm
  have lt2 : ∀ x ∈ p2, x.block < W.heap.size := by obtain ⟨m, hm⟩ := h2; exact DataW.trod_lt m _ _ _ hm
  have lt4 : ∀ x ∈ p4, x.block < W.heap.size := by obtain ⟨m, hm⟩ := h4; exact DataW.trod_lt m _ _ _ hm
  obtain ⟨s0, l0, k0, rfl⟩ := okWide_slice Trym.underlying52 (hval 0 52 v0 rfl rfl)
  obtain ⟨s1, l1, k1, rfl⟩ := okWide_slice Trym.underlying42 (hval 1 42 v1 rfl rfl)
  obtain ⟨s2, l2, k2, rfl⟩ := okWide_slice Trym.underlying53 (hval 2 53 v2 rfl rfl)
  obtain ⟨r, rfl, rfl, rfl, w3⟩ := open_int Trym.underlying3 (hval 3 3 v3 rfl rfl) h3
  obtain ⟨ef, et, em, ed, es, rfl, hes⟩ := open_env_val (hval 4 56 v4 rfl rfl) h4
  have walk : Calls Trym.prog 6 #[.slice s0 l0 k0, .slice s1 l1 k1, .slice s2 l2 k2, .int .i64 r, .agg #[.int .i64 ef, .int .i64 et, .int .i64 em, .int .i64 ed, .int .i8 es]] W fun e w' => e = .returned (.bool true) ∧ Below W.heap.size W w' := by
    obtain ⟨b1, o1, cf, hM, ha1, hI, hcf⟩ := open_nums h1
    obtain ⟨f0, hf0⟩ := h0
    obtain ⟨f2, hf2⟩ := h2
    obtain ⟨a0, cap0, lf, bF, oF, e0, hlf, haf, hnf, hEf⟩ := open_envs (by simpa [Value.cells] using hf0)
    obtain ⟨a2, N, cap2, bw, ow, aw, cw, bE, oE, wl, e2, hN, ha2, hL⟩ := open_lists (by simpa [Value.cells] using hf2)
    injection e0 with e01 e02 e03
    injection e2 with e21 e22 e23
    subst e01 e02 e03 e21 e22 e23
    exact one_all _ _ _ _ _ _ bF oF b1 o1 _ _ bw ow lf cf aw cw bE oE wl r ef et em ed es W hlf haf hnf hEf hM ha1 hI hcf hN ha2 hL hes
  clear hA0 hval0
  refine walk.mono fun e W' ⟨he, bel⟩ => ?_
  subst he
  exact ⟨_, rfl, _, _, _, [], _, [], hW', trodAll_mk1 (shut_bool Trym.underlying4 _), (trodAll_cons_mk (Below.trod laidOut (by kernel_rfl) (of_decide_eq_true (by kernel_rfl)) h0 bel lt0) (trodAll_cons_mk (Below.trod laidOut (by kernel_rfl) (of_decide_eq_true (by kernel_rfl)) h1 bel lt1) (trodAll_cons_mk (Below.trod laidOut (by kernel_rfl) (of_decide_eq_true (by kernel_rfl)) h2 bel lt2) (trodAll_cons_mk (shut_int Trym.underlying3 w3) (trodAll_cons_mk (Below.trod laidOut (by kernel_rfl) (of_decide_eq_true (by kernel_rfl)) h4 bel lt4) trodAll_mk0))))), rfl, bel.frame _, fun h => by cases h⟩

theorem oneStep_holds : Rows.FnSplittingPushOneStepSaid :=
  OpenClaim.holds_of_wide 6 Trym.f6 rfl rfl rfl rfl rfl rfl rfl ⟨rfl, rfl, rfl, rfl, rfl⟩ rfl rfl rfl rfl rfl (by kernel_rfl) Trym.func6 (by kernel_rfl)
    (of_decide_eq_true (by kernel_rfl)) (by unfold Func.isWrapper; first | (rw [if_pos (by decide +kernel)]; kernel_rfl) | (rw [if_neg (by decide +kernel)]; exact ⟨rfl, rfl⟩))
    (fun os started H enc _ => oneStep_lifted os started H enc)
end Go.Proofs.Qxb6602655aMods
