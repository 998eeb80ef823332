/-
  Opening a slice of Env (type 52 over type 56).
-/
import Derived.Test.Qxb6602655aModsScriptWalk
import Derived.ProofKit
import Derived.OpenShut
import Derived.ShutString
import Derived.ChangeOld
import Derived.Below
import Derived.Deep.Slices
import Derived.Deep.Strs
namespace Go.Proofs.Qxb6602655aMods
open Go.ChangeShapes Go.WideShapes Go.ChangeAt Go.RowKit
set_option linter.unusedVariables false

theorem own : ownKnob Trym.prog.godebug = none := by kernel_rfl
theorem laidOut : laidOutB Trym.prog = true := by kernel_rfl
theorem cells3 : Trym.prog.cellsOf 3 = 1 := by kernel_rfl
theorem cells54 : Trym.prog.cellsOf 54 = 1 := by kernel_rfl
theorem cells56 : Trym.prog.cellsOf 56 = 5 := by kernel_rfl

theorem range_i8 {x : Int} (h : (Lit.int .i8 x).wf = true) : -128 ≤ x ∧ x ≤ 127 := by
  simp [Lit.wf, IntKind.min, IntKind.max, IntKind.signed, IntKind.bits] at h
  omega

section
variable {H : Type} {enc : TypeId × Value → H} {W : World} {base : Nat} {spare : Nat → Bool} {held : Bool}
/-- One Env's five cells. -/
theorem open_env {fuel : Nat} {cs : List Value} {x : DataW H × List MemPlace} (h : DataW.trod enc Trym.prog W base spare held fuel 56 cs = some x) :
    ∃ e : E, cs = e.cells ∧ -128 ≤ e.s ∧ e.s ≤ 127 := by
  obtain ⟨xs, n, _, _, hl, hlen, hf⟩ := DataW.trod_struct Trym.underlying56 h
  rw [cells56] at hl
  match cs, hl with
  | [c0, c1, c2, c3, c4], _ =>
    match xs, hlen with
    | [y0, y1, y2, y3, y4], _ =>
      have k0 : DataW.trod enc Trym.prog W base spare held n 3 [c0] = some y0 := by simpa [cells3] using hf 0 _ rfl
      have k1 : DataW.trod enc Trym.prog W base spare held n 3 [c1] = some y1 := by simpa [cells3] using hf 1 _ rfl
      have k2 : DataW.trod enc Trym.prog W base spare held n 3 [c2] = some y2 := by simpa [cells3] using hf 2 _ rfl
      have k3 : DataW.trod enc Trym.prog W base spare held n 3 [c3] = some y3 := by simpa [cells3] using hf 3 _ rfl
      have k4 : DataW.trod enc Trym.prog W base spare held n 54 [c4] = some y4 := by simpa [cells54] using hf 4 _ rfl
      obtain ⟨x0, e0, _, w0⟩ := DataW.trod_int Trym.underlying3 k0
      obtain ⟨x1, e1, _, w1⟩ := DataW.trod_int Trym.underlying3 k1
      obtain ⟨x2, e2, _, w2⟩ := DataW.trod_int Trym.underlying3 k2
      obtain ⟨x3, e3, _, w3⟩ := DataW.trod_int Trym.underlying3 k3
      obtain ⟨x4, e4, _, w4⟩ := DataW.trod_int Trym.underlying54 k4
      simp at e0 e1 e2 e3 e4
      subst e0 e1 e2 e3 e4
      exact ⟨⟨x0, x1, x2, x3, x4⟩, rfl, range_i8 w4⟩

theorem open_envs {a0 : Option Addr} {len cap : Nat} {d : DataW H} {ps : List MemPlace} (hd : DataW.Trod enc Trym.prog W 0 spare held 52 (.slice a0 len cap) d ps) :
    ∃ (l : List E) (b off : Nat), l.length = len ∧ len ≤ maxLen ∧ (0 < l.length → a0 = some ⟨b, off, none⟩) ∧ (0 < l.length → b < W.heap.size) ∧ Envs W b off l ∧ ∀ i (hi : i < l.length), l[i].s ≤ 127 := by
  obtain ⟨fuel, hf⟩ := hd
  rcases Deep.open_slice Trym.underlying52 hf with ⟨hcs, _⟩ | ⟨a, len', cap', m, n, D, Pl, hcs, _, hl, hm, hmm, _, hel⟩
  · simp [Value.cells] at hcs
    obtain ⟨rfl, rfl, rfl⟩ := hcs
    exact ⟨[], 0, 0, rfl, by omega, fun h => absurd h (by simp), fun h => absurd h (by simp), fun i hi => absurd hi (by simp), fun i hi => absurd hi (by simp)⟩
  · simp [Value.cells] at hcs
    obtain ⟨rfl, rfl, rfl⟩ := hcs
    by_cases h0 : len = 0
    · subst h0
      exact ⟨[], 0, 0, rfl, by omega, fun h => absurd h (by simp), fun h => absurd h (by simp), fun i hi => absurd hi (by simp), fun i hi => absurd hi (by simp)⟩
    have hlm : len ≤ m := by rw [hmm]; split <;> omega
    rw [cells56] at hel
    have key : ∀ i, i < len → ∃ e : E, (W.cell? ((a.add (i * 5)).add 0) = some (.int .i64 e.f) ∧ W.cell? ((a.add (i * 5)).add 1) = some (.int .i64 e.t) ∧ W.cell? ((a.add (i * 5)).add 2) = some (.int .i64 e.m) ∧ W.cell? ((a.add (i * 5)).add 3) = some (.int .i64 e.d) ∧ W.cell? ((a.add (i * 5)).add 4) = some (.int .i8 e.s)) ∧ e.s ≤ 127 := by
      intro i hi
      obtain ⟨cs', hc, ht⟩ := hel i (by omega)
      obtain ⟨_, hlen, hcell⟩ := World.cells?_some hc
      obtain ⟨e, rfl, h1, h2⟩ := open_env ht
      exact ⟨e, ⟨hcell 0 (by omega), hcell 1 (by omega), hcell 2 (by omega), hcell 3 (by omega), hcell 4 (by omega)⟩, h2⟩
    obtain ⟨b, off, spot⟩ := a
    have hspot : spot = none := by
      obtain ⟨e, ⟨h, _⟩, _⟩ := key 0 (by omega)
      simpa [Addr.add] using World.cell?_spot h
    subst hspot
    have key' : ∀ i, i < len → ∃ e : E, At W b (off + i * 5) e ∧ e.s ≤ 127 := by
      intro i hi
      obtain ⟨e, ⟨h0, h1, h2, h3, h4⟩, h5⟩ := key i hi
      simp only [add_plain, Nat.add_zero] at h0 h1 h2 h3 h4
      exact ⟨e, ⟨h0, h1, h2, h3, h4⟩, h5⟩
    obtain ⟨F, hF⟩ : ∃ F : Nat → E, ∀ i, i < len → At W b (off + i * 5) (F i) ∧ (F i).s ≤ 127 := by
      refine ⟨fun i => if h : i < len then Classical.choose (key' i h) else ⟨0, 0, 0, 0, 0⟩, fun i hi => ?_⟩
      simp only [hi, dif_pos]
      exact Classical.choose_spec (key' i hi)
    have hlen : ((List.range len).map F).length = len := by simp
    refine ⟨(List.range len).map F, b, off, hlen, by omega, fun _ => rfl, fun _ => World.block_lt_of_cell? W ⟨b, _, none⟩ (hF 0 (by omega)).1.a0, fun i hi => ?_, fun i hi => ?_⟩
    · have hi' : i < len := by rw [hlen] at hi; exact hi
      simpa using (hF i hi').1
    · have hi' : i < len := by rw [hlen] at hi; exact hi
      simpa using (hF i hi').2
end
end Go.Proofs.Qxb6602655aMods
