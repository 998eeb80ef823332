/-
  Opening what FnSplittingPushOneStep is handed: a slice of Env, a slice of slices of Env, an Env by value.
-/
import Derived.Test.Qxb6602655aModsOneSmall
import Derived.ProofKit
import Derived.OpenShut
import Derived.ShutString
import Derived.ChangeOld
import Derived.Below
import Derived.Deep.Slices
import Derived.Deep.Strs
import Derived.Lib.SmallJoins
namespace Go.Proofs.Qxb6602655aMods
open Go.ChangeShapes Go.WideShapes Go.ChangeAt Go.RowKit
set_option linter.unusedVariables false

theorem own : ownKnob Trym.prog.godebug = none := by kernel_rfl
theorem laidOut : laidOutB Trym.prog = true := by kernel_rfl
theorem cells3 : Trym.prog.cellsOf 3 = 1 := by kernel_rfl
theorem cells54 : Trym.prog.cellsOf 54 = 1 := by kernel_rfl
theorem cells52 : Trym.prog.cellsOf 52 = 1 := by kernel_rfl
theorem cells56 : Trym.prog.cellsOf 56 = 5 := by kernel_rfl

theorem range_i8 {x : Int} (h : (Lit.int .i8 x).wf = true) : -128 ≤ x ∧ x ≤ 127 := by
  simp [Lit.wf, IntKind.min, IntKind.max, IntKind.signed, IntKind.bits] at h
  omega

section
variable {H : Type} {enc : TypeId × Value → H} {W : World} {base : Nat} {spare : Nat → Bool} {held : Bool}
/-- One Env's five cells. -/
theorem open_env {fuel : Nat} {cs : List Value} {x : DataW H × List MemPlace} (h : DataW.trod enc Trym.prog W base spare held fuel 56 cs = some x) :
    ∃ e : E, cs = e.cells ∧ -128 ≤ e.s ∧ e.s ≤ 127 := by
  obtain ⟨xs, n, _, _, hl, hlen, hf⟩ := DataW.trod_struct Trym.underlying56 h
  rw [cells56] at hl
  match cs, hl with
  | [c0, c1, c2, c3, c4], _ =>
    match xs, hlen with
    | [y0, y1, y2, y3, y4], _ =>
      have k0 : DataW.trod enc Trym.prog W base spare held n 3 [c0] = some y0 := by simpa [cells3] using hf 0 _ rfl
      have k1 : DataW.trod enc Trym.prog W base spare held n 3 [c1] = some y1 := by simpa [cells3] using hf 1 _ rfl
      have k2 : DataW.trod enc Trym.prog W base spare held n 3 [c2] = some y2 := by simpa [cells3] using hf 2 _ rfl
      have k3 : DataW.trod enc Trym.prog W base spare held n 3 [c3] = some y3 := by simpa [cells3] using hf 3 _ rfl
      have k4 : DataW.trod enc Trym.prog W base spare held n 54 [c4] = some y4 := by simpa [cells54] using hf 4 _ rfl
      obtain ⟨x0, e0, _, w0⟩ := DataW.trod_int Trym.underlying3 k0
      obtain ⟨x1, e1, _, w1⟩ := DataW.trod_int Trym.underlying3 k1
      obtain ⟨x2, e2, _, w2⟩ := DataW.trod_int Trym.underlying3 k2
      obtain ⟨x3, e3, _, w3⟩ := DataW.trod_int Trym.underlying3 k3
      obtain ⟨x4, e4, _, w4⟩ := DataW.trod_int Trym.underlying54 k4
      simp at e0 e1 e2 e3 e4
      subst e0 e1 e2 e3 e4
      exact ⟨⟨x0, x1, x2, x3, x4⟩, rfl, range_i8 w4⟩

theorem open_envs {fuel : Nat} {v : Value} {x : DataW H × List MemPlace} (hf : DataW.trod enc Trym.prog W base spare held fuel 52 [v] = some x) :
    ∃ (a0 : Option Addr) (cap : Nat) (l : List E) (b off : Nat), v = .slice a0 l.length cap ∧ l.length ≤ maxLen ∧ (0 < l.length → a0 = some ⟨b, off, none⟩) ∧ (a0 = none → cap = 0) ∧ Envs W b off l := by
  rcases Deep.open_slice Trym.underlying52 hf with ⟨hcs, _⟩ | ⟨a, len, cap, m, n, D, Pl, hcs, _, hl, hm, hmm, _, hel⟩
  · have hv : v = .slice none 0 0 := by simpa using hcs
    subst hv
    exact ⟨none, 0, [], 0, 0, rfl, by simp, fun h => absurd h (by simp), fun _ => rfl, fun i hi => absurd hi (by simp)⟩
  · have hv : v = .slice (some a) len cap := by simpa using hcs
    subst hv
    by_cases h0 : len = 0
    · subst h0
      exact ⟨some a, cap, [], 0, 0, rfl, by simp, fun h => absurd h (by simp), fun h => (by cases h), fun i hi => absurd hi (by simp)⟩
    have hlm : len ≤ m := by rw [hmm]; split <;> omega
    rw [cells56] at hel
    have key : ∀ i, i < len → ∃ e : E, (W.cell? ((a.add (i * 5)).add 0) = some (.int .i64 e.f) ∧ W.cell? ((a.add (i * 5)).add 1) = some (.int .i64 e.t) ∧ W.cell? ((a.add (i * 5)).add 2) = some (.int .i64 e.m) ∧ W.cell? ((a.add (i * 5)).add 3) = some (.int .i64 e.d) ∧ W.cell? ((a.add (i * 5)).add 4) = some (.int .i8 e.s)) := by
      intro i hi
      obtain ⟨cs', hc, ht⟩ := hel i (by omega)
      obtain ⟨_, hlen, hcell⟩ := World.cells?_some hc
      obtain ⟨e, rfl, h1, h2⟩ := open_env ht
      exact ⟨e, hcell 0 (by omega), hcell 1 (by omega), hcell 2 (by omega), hcell 3 (by omega), hcell 4 (by omega)⟩
    obtain ⟨b, off, spot⟩ := a
    have hspot : spot = none := by
      obtain ⟨e, h, _⟩ := key 0 (by omega)
      simpa [Addr.add] using World.cell?_spot h
    subst hspot
    have key' : ∀ i, i < len → ∃ e : E, At W b (off + i * 5) e := by
      intro i hi
      obtain ⟨e, h0, h1, h2, h3, h4⟩ := key i hi
      simp only [add_plain, Nat.add_zero] at h0 h1 h2 h3 h4
      exact ⟨e, ⟨h0, h1, h2, h3, h4⟩⟩
    obtain ⟨F, hF⟩ : ∃ F : Nat → E, ∀ i, i < len → At W b (off + i * 5) (F i) := by
      refine ⟨fun i => if h : i < len then Classical.choose (key' i h) else ⟨0, 0, 0, 0, 0⟩, fun i hi => ?_⟩
      simp only [hi, dif_pos]
      exact Classical.choose_spec (key' i hi)
    have hlen : ((List.range len).map F).length = len := by simp
    refine ⟨some ⟨b, off, none⟩, cap, (List.range len).map F, b, off, by rw [hlen], by omega, fun _ => rfl, fun h => (by cases h), fun i hi => ?_⟩
    have hi' : i < len := by rw [hlen] at hi; exact hi
    simpa using hF i hi'

/-- A slice of slices of Env. -/
theorem open_lists {fuel : Nat} {v : Value} {x : DataW H × List MemPlace} (hf : DataW.trod enc Trym.prog W base spare held fuel 53 [v] = some x) :
    ∃ (a0 : Option Addr) (N cap bw ow : Nat) (aw : Nat → Option Addr) (cw bE oE : Nat → Nat) (wl : Nat → List E), v = .slice a0 N cap ∧ N ≤ maxLen ∧ (0 < N → a0 = some ⟨bw, ow, none⟩) ∧ Lists W bw ow N aw cw bE oE wl := by
  rcases Deep.open_slice1 Trym.underlying53 cells52 hf with ⟨hcs, _⟩ | ⟨a, len, cap, m, n, V, D, Pl, hcs, _, hl, hm, hmm, _, hel⟩
  · have hv : v = .slice none 0 0 := by simpa using hcs
    subst hv
    exact ⟨none, 0, 0, 0, 0, fun _ => none, fun _ => 0, fun _ => 0, fun _ => 0, fun _ => [], rfl, by omega, fun h => absurd h (by simp), ⟨fun p hp => absurd hp (by omega), fun p hp => absurd hp (by omega), fun p hp => absurd hp (by omega), fun p hp => absurd hp (by omega), fun p hp => absurd hp (by omega)⟩⟩
  · have hv : v = .slice (some a) len cap := by simpa using hcs
    subst hv
    by_cases h0 : len = 0
    · subst h0
      exact ⟨some a, 0, cap, 0, 0, fun _ => none, fun _ => 0, fun _ => 0, fun _ => 0, fun _ => [], rfl, by omega, fun h => absurd h (by simp), ⟨fun p hp => absurd hp (by omega), fun p hp => absurd hp (by omega), fun p hp => absurd hp (by omega), fun p hp => absurd hp (by omega), fun p hp => absurd hp (by omega)⟩⟩
    have hlm : len ≤ m := by rw [hmm]; split <;> omega
    obtain ⟨b, off, spot⟩ := a
    have hspot : spot = none := by simpa [Addr.add] using World.cell?_spot (hel 0 (by omega)).1
    subst hspot
    have key : ∀ p, p < len → ∃ t : Option Addr × Nat × List E × Nat × Nat, W.cell? ⟨b, off + p, none⟩ = some (.slice t.1 t.2.2.1.length t.2.1) ∧ t.2.2.1.length ≤ maxLen ∧ (0 < t.2.2.1.length → t.1 = some ⟨t.2.2.2.1, t.2.2.2.2, none⟩) ∧ (t.1 = none → t.2.1 = 0) ∧ Envs W t.2.2.2.1 t.2.2.2.2 t.2.2.1 := by
      intro p hp
      obtain ⟨hc, ht⟩ := hel p (by omega)
      rw [add_plain] at hc
      obtain ⟨a0, cp, l, b', off', hv, h1, h2, h3, h4⟩ := open_envs ht
      rw [hv] at hc
      exact ⟨(a0, cp, l, b', off'), hc, h1, h2, h3, h4⟩
    obtain ⟨F, hF⟩ : ∃ F : Nat → Option Addr × Nat × List E × Nat × Nat, ∀ p, p < len → W.cell? ⟨b, off + p, none⟩ = some (.slice (F p).1 (F p).2.2.1.length (F p).2.1) ∧ (F p).2.2.1.length ≤ maxLen ∧ (0 < (F p).2.2.1.length → (F p).1 = some ⟨(F p).2.2.2.1, (F p).2.2.2.2, none⟩) ∧ ((F p).1 = none → (F p).2.1 = 0) ∧ Envs W (F p).2.2.2.1 (F p).2.2.2.2 (F p).2.2.1 := by
      refine ⟨fun p => if h : p < len then Classical.choose (key p h) else (none, 0, [], 0, 0), fun p hp => ?_⟩
      simp only [hp, dif_pos]
      exact Classical.choose_spec (key p hp)
    exact ⟨some ⟨b, off, none⟩, len, cap, b, off, fun p => (F p).1, fun p => (F p).2.1, fun p => (F p).2.2.2.1, fun p => (F p).2.2.2.2, fun p => (F p).2.2.1, rfl, by omega, fun _ => rfl,
      ⟨fun p hp => (hF p hp).1, fun p hp => (hF p hp).2.2.1, fun p hp => (hF p hp).2.2.2.1, fun p hp => (hF p hp).2.2.2.2, fun p hp => by have := (hF p hp).2.1; unfold maxLen at this; exact this⟩⟩

/-- An Env by value. -/
theorem open_env_val {r : Reach} {b0 : Nat} {v : Value} {d : DataW H} {ps : List MemPlace} (hval : Value.okWide Trym.prog W r b0 56 v) (hd : DataW.Trod enc Trym.prog W base spare held 56 v d ps) :
    ∃ f t m d s : Int, v = .agg #[.int .i64 f, .int .i64 t, .int .i64 m, .int .i64 d, .int .i8 s] ∧ s ≤ 127 := by
  obtain ⟨cs, rfl, hsz⟩ := okWide_struct Trym.underlying56 hval
  obtain ⟨fuel, hf⟩ := hd
  obtain ⟨e, he, _, h2⟩ := open_env hf
  refine ⟨e.f, e.t, e.m, e.d, e.s, ?_, h2⟩
  have : cs.toList = e.cells := by simpa [Value.cells] using he
  rw [← Array.toArray_toList (xs := cs), this]; rfl

theorem bound_i64 {x : Int} (h : (Lit.int .i64 x).wf = true) : x ≤ 9223372036854775807 := by
  simp [Lit.wf, IntKind.min, IntKind.max, IntKind.signed, IntKind.bits] at h
  omega
/-- A slice of int. -/
theorem open_nums {a0 : Option Addr} {len cap : Nat} {d : DataW H} {ps : List MemPlace} (hd : DataW.Trod enc Trym.prog W base (fun _ => true) held 42 (.slice a0 len cap) d ps) :
    ∃ (b off : Nat) (cf : Nat → Int), len ≤ maxLen ∧ (0 < len → a0 = some ⟨b, off, none⟩) ∧ Ints W b off len cf ∧ ∀ p, p < len → cf p ≤ 9223372036854775807 := by
  obtain ⟨fuel, hf⟩ := hd
  rcases open_ints Trym.underlying42 Trym.underlying3 cells3 hf with ⟨hcs, _⟩ | ⟨x, l, c, zs, hcs, _, hl, hm, hz, _, hcell, hwz⟩
  · simp [Value.cells] at hcs
    obtain ⟨rfl, rfl, rfl⟩ := hcs
    exact ⟨0, 0, fun _ => 0, by omega, fun h => absurd h (by simp), fun i hi => absurd hi (by omega), fun p hp => absurd hp (by omega)⟩
  · simp [Value.cells] at hcs
    obtain ⟨rfl, rfl, rfl⟩ := hcs
    have hz' : zs.length = cap := by simpa using hz
    by_cases h0 : len = 0
    · subst h0
      exact ⟨0, 0, fun _ => 0, by omega, fun h => absurd h (by simp), fun i hi => absurd hi (by omega), fun p hp => absurd hp (by omega)⟩
    obtain ⟨b, off, spot⟩ := x
    have hspot : spot = none := by simpa [Addr.add] using World.cell?_spot (hcell 0 (by omega))
    subst hspot
    refine ⟨b, off, fun i => zs.getD i 0, by omega, fun _ => rfl, fun i hi => ?_, fun p hp => ?_⟩
    · have := hcell i (by omega)
      rwa [add_plain] at this
    · apply bound_i64
      apply hwz
      have hp' : p < zs.length := by omega
      simp [List.getD, List.getElem?_eq_getElem hp']
end
end Go.Proofs.Qxb6602655aMods
