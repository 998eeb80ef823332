/-
  Rows.FnNextSequenceScriptDecodesInLockstepSaid, proved.
-/
import Derived.Test.Qxb6602441aModsScriptWalk
import Derived.Test.Qxb6602441aModsOpen
import Derived.Lib.SmallJoins
import Derived.Deep.Slices
import Derived.Deep.Strs
namespace Go.Proofs.Qxb6602441aMods
open Go.ChangeShapes Go.WideShapes Go.ChangeAt Go.RowKit
set_option linter.unusedVariables false

theorem cells34 : Trym.prog.cellsOf 34 = 3 := by kernel_rfl

/-- An array of three uint32, handed by value. -/
theorem open_arr {H : Type} {enc : TypeId × Value → H} {W : World} {r : Reach} {b0 base : Nat} {spare : Nat → Bool} {held : Bool} {v : Value} {d : DataW H} {ps : List MemPlace}
    (hval : Value.okWide Trym.prog W r b0 24 v) (hd : DataW.Trod enc Trym.prog W base spare held 24 v d ps) : ∃ x y z, v = .agg #[.int .u32 x, .int .u32 y, .int .u32 z] := by
  simp only [Value.okWide, Trym.underlying24] at hval
  obtain ⟨cs, rfl, hsz, _⟩ := hval
  rw [cells24] at hsz
  obtain ⟨fuel, hf⟩ := hd
  obtain ⟨c0, c1, c2, rfl⟩ := Joins.array3 hsz
  obtain ⟨y0, y1, y2, n, _, k0, k1, k2⟩ := trod_array3 Trym.underlying24 cells22 (by simpa [Value.cells] using hf)
  obtain ⟨x0, e0, _, w0⟩ := DataW.trod_int Trym.underlying22 k0
  obtain ⟨x1, e1, _, w1⟩ := DataW.trod_int Trym.underlying22 k1
  obtain ⟨x2, e2, _, w2⟩ := DataW.trod_int Trym.underlying22 k2
  simp at e0 e1 e2
  subst e0 e1 e2
  exact ⟨x0, x1, x2, rfl⟩

/-- A slice of steps. -/
theorem open_steps {H : Type} {enc : TypeId × Value → H} {W : World} {spare : Nat → Bool} {held : Bool} {a0 : Option Addr} {len cap : Nat} {d : DataW H} {ps : List MemPlace}
    (hd : DataW.Trod enc Trym.prog W 0 spare held 31 (.slice a0 len cap) d ps) :
    (a0 = none ∧ len = 0 ∧ cap = 0) ∨ (∃ a, a0 = some a ∧ len = 0) ∨ ∃ b off, a0 = some ⟨b, off, none⟩ ∧ b < W.heap.size ∧ len ≤ maxLen ∧ U32s W b off (len * 3) := by
  obtain ⟨fuel, hf⟩ := hd
  rcases Deep.open_slice Trym.underlying31 hf with ⟨hcs, _⟩ | ⟨a, len', cap', m, n, D, Pl, hcs, _, hl, hm, hmm, _, hel⟩
  · simp [Value.cells] at hcs
    exact .inl hcs
  · simp [Value.cells] at hcs
    obtain ⟨rfl, rfl, rfl⟩ := hcs
    right
    by_cases h0 : len = 0
    · exact .inl ⟨a, rfl, h0⟩
    right
    have hlm : len ≤ m := by rw [hmm]; split <;> omega
    rw [cells34] at hel
    have key : ∀ i, i < len → ∃ x y z : Int, W.cell? ((a.add (i * 3)).add 0) = some (.int .u32 x) ∧ W.cell? ((a.add (i * 3)).add 1) = some (.int .u32 y) ∧ W.cell? ((a.add (i * 3)).add 2) = some (.int .u32 z) ∧
        (0 ≤ x ∧ x ≤ 4294967295) ∧ (0 ≤ y ∧ y ≤ 4294967295) ∧ (0 ≤ z ∧ z ≤ 4294967295) := by
      intro i hi
      obtain ⟨cs', hc, ht⟩ := hel i (by omega)
      obtain ⟨_, hlen, hcell⟩ := World.cells?_some hc
      match cs', hlen with
      | [c0, c1, c2], _ =>
        obtain ⟨y0, y1, y2, n, _, _, k0, k1, k2⟩ := Deep.trod_struct3 Trym.underlying34 ht
        simp only [cells22] at k0 k1 k2
        obtain ⟨x0, e0, _, w0⟩ := DataW.trod_int Trym.underlying22 k0
        obtain ⟨x1, e1, _, w1⟩ := DataW.trod_int Trym.underlying22 k1
        obtain ⟨x2, e2, _, w2⟩ := DataW.trod_int Trym.underlying22 k2
        simp at e0 e1 e2
        subst e0 e1 e2
        exact ⟨x0, x1, x2, hcell 0 (by omega), hcell 1 (by omega), hcell 2 (by omega), nonneg_u32 w0, nonneg_u32 w1, nonneg_u32 w2⟩
    obtain ⟨b, off, spot⟩ := a
    have hspot : spot = none := by
      obtain ⟨x, _, _, h, _⟩ := key 0 (by omega)
      simpa [Addr.add] using World.cell?_spot h
    subst hspot
    refine ⟨b, off, rfl, ?_, by omega, ?_⟩
    · obtain ⟨x, _, _, h, _⟩ := key 0 (by omega)
      exact World.block_lt_of_cell? W _ h
    · intro j hj
      obtain ⟨x, y, z, hx, hy, hz, bx, cy, bz⟩ := key (j / 3) (by omega)
      simp only [add_plain, Nat.add_zero] at hx hy hz
      have h3 : j % 3 = 0 ∨ j % 3 = 1 ∨ j % 3 = 2 := by omega
      rcases h3 with e | e | e
      · exact ⟨x, by rw [show off + j = off + j / 3 * 3 by omega]; exact hx, bx⟩
      · exact ⟨y, by rw [show off + j = off + j / 3 * 3 + 1 by omega]; exact hy, cy⟩
      · exact ⟨z, by rw [show off + j = off + j / 3 * 3 + 2 by omega]; exact hz, bz⟩

set_option maxRecDepth 100000 in
theorem script_lifted (os : Os) (started : os.Started) (H : Type) (enc : TypeId × Value → H) :
    ReturnsInHanded {} Trym.checked os 5 .any (Rows.fnNextSequenceScriptDecodesInLockstepSpec.pre6 enc Trym.prog Trym.f5 Rows.fnNextSequenceScriptDecodesInLockstepRow.domain false) (Rows.fnNextSequenceScriptDecodesInLockstepSpec.post enc Trym.prog Trym.f5 false true false false) := by
  refine returnsInHanded_of_change (C := Trym.checked) own started (by kernel_rfl) Trym.func5
    (ChangeSpec.witness6 (enc := enc) (C := Trym.checked) false ⟨#[], #[.slice none 0 0, .agg #[.int .u32 0, .int .u32 0, .int .u32 0]], []⟩ 8 (by kernel_rfl) (by kernel_rfl) (by kernel_rfl) (by kernel_rfl)) ?_
  intro W base args ds gs before hval0 hW hcnd _
  have hval : ∀ (j : Nat) t v, Trym.f5.params[j]? = some t → args[j]? = some v → Value.okWide Trym.prog W .any base t v := hval0
  have hW' := hW
  obtain ⟨p, q, hA0, hV, rfl, hfz, hnd⟩ := hW
  have hA : DataW.TrodAll enc Trym.prog W 0 (fun _ => true) true Trym.f5.params.toList args.toList ds p := hA0
  rw [Trym.params5] at hA hval
  obtain ⟨v0, v1, d0, d1, p0, p1, rfl, rfl, rfl, h0, h1⟩ := trodAll_two hA
  obtain ⟨rfl, rfl⟩ := trodVars_none hV
  obtain ⟨a0, len, cap, rfl⟩ := okWide_slice Trym.underlying31 (hval 0 31 v0 rfl rfl)
  have lt0 : ∀ x ∈ p0, x.block < W.heap.size := by obtain ⟨m, hm⟩ := h0; exact DataW.trod_lt m _ _ _ hm
  have lt1 : ∀ x ∈ p1, x.block < W.heap.size := by obtain ⟨m, hm⟩ := h1; exact DataW.trod_lt m _ _ _ hm
  obtain ⟨x, y, z, rfl⟩ := open_arr (hval 1 24 v1 rfl rfl) h1
  have walk : Calls Trym.prog 5 #[.slice a0 len cap, .agg #[.int .u32 x, .int .u32 y, .int .u32 z]] W fun e w' => e = .returned (.bool true) ∧ Below W.heap.size W w' := by
    rcases open_steps h0 with ⟨rfl, rfl, rfl⟩ | ⟨a, rfl, rfl⟩ | ⟨b, off, rfl, hb, hm, hu⟩
    · exact script_nil x y z W
    · exact script_empty a cap x y z W
    · by_cases hn : len ≤ 65536
      · exact script_some b off len cap x y z W hn hb hu
      · exact script_long _ len cap x y z W (by unfold maxLen at hm; omega) (by omega)
  clear hA0 hval0
  refine walk.mono fun e W' ⟨he, bel⟩ => ?_
  subst he
  exact ⟨_, rfl, _, _, _, [], _, [], hW', trodAll_mk1 (shut_bool Trym.underlying4 _), trodAll_mk2 (Below.trod laidOut (by kernel_rfl) (of_decide_eq_true (by kernel_rfl)) h0 bel lt0) (Below.trod laidOut (by kernel_rfl) (of_decide_eq_true (by kernel_rfl)) h1 bel lt1), rfl, bel.frame _, fun h => by cases h⟩

theorem script_holds : Rows.FnNextSequenceScriptDecodesInLockstepSaid :=
  OpenClaim.holds_of_wide 5 Trym.f5 rfl rfl rfl rfl rfl rfl rfl ⟨rfl, rfl, rfl, rfl, rfl⟩ rfl rfl rfl rfl rfl (by kernel_rfl) Trym.func5 (by kernel_rfl)
    (of_decide_eq_true (by kernel_rfl)) (by unfold Func.isWrapper; first | (rw [if_pos (by decide +kernel)]; kernel_rfl) | (rw [if_neg (by decide +kernel)]; exact ⟨rfl, rfl⟩))
    (fun os started H enc _ => script_lifted os started H enc)
end Go.Proofs.Qxb6602441aMods
