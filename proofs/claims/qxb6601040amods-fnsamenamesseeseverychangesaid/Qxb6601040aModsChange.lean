/-
  FnSameNamesSeesEveryChange: the walk put together, and the row.
-/
import Derived.Test.Qxb6601040aModsRows
import Derived.WalkKit
import Derived.ProofKit
import Derived.OpenShut
import Derived.ShutString
import Derived.ChangeOld
import Derived.Below
import Derived.SliceStrings
import Derived.Test.Qxb6601040aModsLaw4b
namespace Go.Proofs.Qxb6601040aMods
open Go.ChangeShapes Go.WideShapes Go.ChangeAt Go.RowKit
open Go.ChangeMaps (open_string shut_string)
set_option linter.unusedVariables false
set_option linter.unusedSimpArgs false

theorem own : ownKnob Trym.prog.godebug = none := by kernel_rfl
theorem laidOut : laidOutB Trym.prog = true := by kernel_rfl
theorem add_plain (b off j : Nat) : (⟨b, off, none⟩ : Addr).add j = ⟨b, off + j, none⟩ := by unfold Addr.add; split <;> simp_all

set_option maxHeartbeats 1000000 in
/-- Lists or texts that the law's own guards pass over. -/
theorem law4_big (x0 : Option Addr) (n c0 : Nat) (z : Int) (t : ByteArray) (S : Nat → ByteArray) (w : World) (h0 : n ≤ 9223372036854775807) (ht : t.size ≤ 9223372036854775807) (hS : Strs w x0 n S) (hb : ¬ (n ≤ 65536 ∧ t.size ≤ 1048576)) :
    Calls Trym.prog 4 #[.slice x0 n c0, .int .i64 z, .string t] w fun e w' => e = .returned (.bool true) ∧ w.grownBy w' none := by
  have HS : Hid (Strs w x0 n S) := hS
  clear hS
  go_enter Trym.func4, Trym.ntmps4
  go_wp2_with fail
  refine (bytes15 x0 n c0 z t S w h0 ht HS.out).mono ?_
  rintro _ w1 ⟨⟨ok, rfl⟩, g1⟩
  have G1 : Hid (w.grownBy w1 none) := g1
  clear g1
  cases ok with
  | false =>
    go_wp2_with fail
    go_ret
    exact ⟨rfl, G1.out⟩
  | true =>
    by_cases hn : n ≤ 65536
    · have ht2 : ¬ t.size ≤ 1048576 := fun h => hb ⟨hn, h⟩
      clear hb
      go_wp2_with fail
      go_ret
      exact ⟨rfl, G1.out⟩
    · clear hb
      go_wp2_with fail
      go_ret
      exact ⟨rfl, G1.out⟩

theorem law4 (x0 : Option Addr) (n c0 : Nat) (z : Int) (t : ByteArray) (S : Nat → ByteArray) (w : World) (h0 : n ≤ 9223372036854775807) (ht : t.size ≤ 9223372036854775807) (hS : Strs w x0 n S) (hsz : ∀ i, i < n → (S i).size ≤ 9223372036854775807) :
    Calls Trym.prog 4 #[.slice x0 n c0, .int .i64 z, .string t] w fun e w' => e = .returned (.bool true) ∧ w.grownBy w' none := by
  by_cases hb : n ≤ 65536 ∧ t.size ≤ 1048576
  · obtain ⟨hn, hs⟩ := hb
    by_cases hz : n = 0
    · subst hz
      exact law4_zero x0 c0 z t w hs
    · have hn0 : 0 < n := by omega
      have hlt := Int.tmod_lt_of_pos z (b := (n : Int)) (by omega)
      have hgt : -(n : Int) < z.tmod (n : Int) := by
        have h2 := Int.tmod_lt_of_pos (-z) (b := (n : Int)) (by omega)
        rw [Int.neg_tmod] at h2
        omega
      by_cases hw : z.tmod (n : Int) < 0
      · exact law4_neg x0 n c0 (z.tmod (n : Int) + n).toNat z t S w hn hn0 hs (by omega) hw (by unfold wrap64; omega) hS hsz
      · exact law4_pos x0 n c0 (z.tmod (n : Int)).toNat z t S w hn hn0 hs (by omega) (by omega) hS hsz
  · exact law4_big x0 n c0 z t S w h0 ht hS hb

/-- What the walk is told of a slice of strings that came in. -/
theorem open_names {H : Type} {enc : TypeId × Value → H} {W : World} {spare : Nat → Bool} {held : Bool} {a : Option Addr} {len cap : Nat} {d : DataW H} {ps : List MemPlace}
    (hd : DataW.Trod enc Trym.prog W 0 spare held 22 (.slice a len cap) d ps) :
    ∃ S, Strs W a len S ∧ (a = none → len = 0) ∧ len ≤ 9223372036854775807 ∧ ∀ i, i < len → (S i).size ≤ 9223372036854775807 := by
  obtain ⟨fuel, hf⟩ := hd
  rcases open_strings Trym.underlying22 Trym.underlying9 (by kernel_rfl) hf with ⟨hcs, _⟩ | ⟨x, l, c, ss, hcs, _, hl, hm, hz, _, hcell, hsz⟩
  · simp [Value.cells] at hcs
    obtain ⟨rfl, rfl, rfl⟩ := hcs
    exact ⟨fun _ => ByteArray.empty, fun i hi => absurd hi (by omega), fun _ => rfl, by omega, fun i hi => absurd hi (by omega)⟩
  · simp [Value.cells] at hcs
    obtain ⟨rfl, rfl, rfl⟩ := hcs
    have hle : len ≤ ss.length := by rw [hz]; split <;> omega
    refine ⟨fun i => ss.getD i ByteArray.empty, fun i hi => ?_, (fun h => nomatch h), (by unfold maxLen at hm; omega), fun i hi => ?_⟩
    · have h := hcell i (by omega)
      obtain ⟨b, off, spot⟩ := x
      have hspot : spot = none := by simpa [Addr.add] using World.cell?_spot (hcell 0 (by omega))
      subst hspot
      rw [add_plain] at h
      exact ⟨b, off, rfl, h⟩
    · have hi2 : i < ss.length := by omega
      have hm2 := hsz (ss.getD i ByteArray.empty) (by rw [List.getD, List.getElem?_eq_getElem hi2]; exact List.getElem_mem hi2)
      unfold maxLen at hm2
      omega

set_option maxRecDepth 100000 in
theorem change_lifted (os : Os) (started : os.Started) (H : Type) (enc : TypeId × Value → H) :
    ReturnsInHanded {} Trym.checked os 4 .any (Rows.fnSameNamesSeesEveryChangeSpec.pre6 enc Trym.prog Trym.f4 Rows.fnSameNamesSeesEveryChangeRow.domain false) (Rows.fnSameNamesSeesEveryChangeSpec.post enc Trym.prog Trym.f4 false true false false) := by
  refine returnsInHanded_of_change (C := Trym.checked) own started (by kernel_rfl) Trym.func4
    (ChangeSpec.witness6 (enc := enc) (C := Trym.checked) false ⟨#[], #[.slice none 0 0, .int .i64 0, .string ByteArray.empty], []⟩ 8 (by kernel_rfl) (by kernel_rfl) (by kernel_rfl) (by kernel_rfl)) ?_
  intro W base args ds gs before hval0 hW hcnd _
  have hval : ∀ (j : Nat) t v, Trym.f4.params[j]? = some t → args[j]? = some v → Value.okWide Trym.prog W .any base t v := hval0
  have hW' := hW
  obtain ⟨p, q, hA0, hV, rfl, hfz, hnd⟩ := hW
  have hA : DataW.TrodAll enc Trym.prog W 0 (fun _ => true) true Trym.f4.params.toList args.toList ds p := hA0
  rw [Trym.params4] at hA hval
  obtain ⟨v0, vs0, d0, ds0, p0, q0, hargs, rfl, rfl, h0, r0⟩ := trodAll_cons hA
  obtain ⟨v1, vs1, d1, ds1, p1, q1, rfl, rfl, rfl, h1, r1⟩ := trodAll_cons r0
  obtain ⟨v2, vs2, d2, ds2, p2, q2, rfl, rfl, rfl, h2, r2⟩ := trodAll_cons r1
  obtain ⟨rfl, rfl, rfl⟩ := trodAll_nil r2
  obtain rfl : args = #[v0, v1, v2] := by cases args; simp_all
  obtain ⟨rfl, rfl⟩ := trodVars_none hV
  obtain ⟨a0, n0, c0, rfl⟩ := okWide_slice Trym.underlying22 (hval 0 22 v0 rfl rfl)
  have lt0 : ∀ x ∈ p0, x.block < W.heap.size := by obtain ⟨m, hm⟩ := h0; exact DataW.trod_lt m _ _ _ hm
  obtain ⟨S0, s0, z0, m0, mm⟩ := open_names h0
  obtain ⟨z, rfl, rfl, rfl, w1⟩ := open_int Trym.underlying3 (hval 1 3 v1 rfl rfl) h1
  obtain ⟨t, rfl, rfl, rfl, w2⟩ := open_string Trym.underlying9 (hval 2 9 v2 rfl rfl) h2
  clear hA0 hval0
  refine (law4 a0 n0 c0 z t S0 W m0 (by unfold maxLen at w2; omega) s0 mm).mono fun e W' ⟨he, hg⟩ => ?_
  have bel := below_gb hg
  subst he
  exact ⟨_, rfl, _, _, _, [], _, [], hW', trodAll_mk1 (shut_bool Trym.underlying4 _), (trodAll_cons_mk (Below.trod laidOut (by kernel_rfl) (of_decide_eq_true (by kernel_rfl)) h0 bel lt0) (trodAll_cons_mk (shut_int Trym.underlying3 w1) (trodAll_cons_mk (shut_string Trym.underlying9 w2) trodAll_mk0))), rfl, bel.frame _, fun h => by cases h⟩

theorem change_holds : Rows.FnSameNamesSeesEveryChangeSaid :=
  OpenClaim.holds_of_wide 4 Trym.f4 rfl rfl rfl rfl rfl rfl rfl ⟨rfl, rfl, rfl, rfl, rfl⟩ rfl rfl rfl rfl rfl (by kernel_rfl) Trym.func4 (by kernel_rfl)
    (of_decide_eq_true (by kernel_rfl)) (by unfold Func.isWrapper; first | (rw [if_pos (by decide +kernel)]; kernel_rfl) | (rw [if_neg (by decide +kernel)]; exact ⟨rfl, rfl⟩))
    (fun os started H enc _ => change_lifted os started H enc)
end Go.Proofs.Qxb6601040aMods
