/-
  FnSameNamesIsAnEquivalence (3): the walk.
-/
import Derived.Test.Qxb6601040aModsBytes
namespace Go.Proofs.Qxb6601040aMods
open Go.RowKit
set_option linter.unusedSimpArgs false

theorem eqB_refl (S : Nat → ByteArray) (n : Nat) : eqB S n S n = true := eqB_iff.mpr ⟨rfl, fun _ _ => rfl⟩
theorem eqB_comm (S : Nat → ByteArray) (n : Nat) (T : Nat → ByteArray) (m : Nat) : eqB S n T m = eqB T m S n := by
  rw [Bool.eq_iff_iff, eqB_iff, eqB_iff]
  constructor
  · rintro ⟨rfl, h⟩; exact ⟨rfl, fun i hi => (h i hi).symm⟩
  · rintro ⟨rfl, h⟩; exact ⟨rfl, fun i hi => (h i hi).symm⟩
theorem eqB_trans {S T U : Nat → ByteArray} {n m k : Nat} (h : eqB S n T m = true) (h' : eqB T m U k = true) : eqB S n U k = true := by
  rw [eqB_iff] at *
  obtain ⟨rfl, h⟩ := h
  obtain ⟨rfl, h'⟩ := h'
  exact ⟨rfl, fun i hi => (h i hi).trans (h' i hi)⟩

/-- ZZsameNames at these two lists answers q, from each world that has grown out of w3. -/
def Same (w3 : World) (a : Option Addr) (n : Nat) (b : Option Addr) (m : Nat) (q : Bool) : Prop :=
  ∀ v, w3.grownBy v none → Calls Trym.prog 14 #[.slice a n n, .slice b m m] v fun e w' => e = .returned (.bool q) ∧ v.grownBy w' none

theorem same_of {w3 : World} {a b : Option Addr} {n m : Nat} {S T : Nat → ByteArray} (hn : n ≤ 65536) (hm : m ≤ 65536) (hS : Strs w3 a n S) (hT : Strs w3 b m T) {q : Bool} (h : eqB S n T m = q) : Same w3 a n b m q := fun v g => by
  rw [← h]
  exact same14 a b n m n m S T v (by omega) (by omega) (hS.kept0 g) (hT.kept0 g)

set_option maxHeartbeats 4000000 in
theorem law3 (a0 a1 a2 : Option Addr) (n0 n1 n2 c0 c1 c2 : Nat) (S0 S1 S2 : Nat → ByteArray) (w : World) (h0 : n0 ≤ 9223372036854775807) (h1 : n1 ≤ 9223372036854775807) (h2 : n2 ≤ 9223372036854775807)
    (hS0 : Strs w a0 n0 S0) (hS1 : Strs w a1 n1 S1) (hS2 : Strs w a2 n2 S2) (z0 : a0 = none → n0 = 0) (z1 : a1 = none → n1 = 0) (z2 : a2 = none → n2 = 0) :
    Calls Trym.prog 3 #[.slice a0 n0 c0, .slice a1 n1 c1, .slice a2 n2 c2] w fun e w' => e = .returned (.bool true) ∧ w.grownBy w' none := by
  have HS0 : Hid (Strs w a0 n0 S0) := hS0
  have HS1 : Hid (Strs w a1 n1 S1) := hS1
  have HS2 : Hid (Strs w a2 n2 S2) := hS2
  have Z0 : Hid (a0 = none → n0 = 0) := z0
  have Z1 : Hid (a1 = none → n1 = 0) := z1
  have Z2 : Hid (a2 = none → n2 = 0) := z2
  clear hS0 hS1 hS2 z0 z1 z2
  go_enter Trym.func3, Trym.ntmps3
  go_wp2_with fail
  refine (bytes11 a0 a1 a2 n0 n1 n2 c0 c1 c2 S0 S1 S2 w h0 h1 h2 HS0.out HS1.out HS2.out).mono ?_
  rintro _ w1 ⟨⟨ok, rfl⟩, g1⟩
  have G1 : Hid (w.grownBy w1 none) := g1
  clear g1
  cases ok with
  | false =>
    go_wp2_with fail
    go_ret
    exact ⟨rfl, G1.out⟩
  | true =>
  by_cases b0 : n0 ≤ 65536
  · by_cases b1 : n1 ≤ 65536
    · by_cases b2 : n2 ≤ 65536
      · go_wp2_with fail
        refine (names12 a0 n0 c0 S0 w1 b0 (HS0.out.kept0 G1.out)).mono ?_
        rintro _ w2 ⟨⟨v0, rfl⟩, g2⟩
        have G2 : Hid (w.grownBy w2 none) := gb_trans G1.out g2
        clear g2
        go_wp2_with fail
        refine (names12 a1 n1 c1 S1 w2 b1 (HS1.out.kept0 G2.out)).mono ?_
        rintro _ w3 ⟨⟨v1, rfl⟩, g3⟩
        have G3 : Hid (w.grownBy w3 none) := gb_trans G2.out g3
        clear g3
        go_wp2_with fail
        refine (names12 a2 n2 c2 S2 w3 b2 (HS2.out.kept0 G3.out)).mono ?_
        rintro _ w4 ⟨⟨v2, rfl⟩, g4⟩
        have G4 : Hid (w.grownBy w4 none) := gb_trans G3.out g4
        clear g4
        clear G1 G2 G3
        go_wp2_with fail
        · go_ret
          exact ⟨rfl, G4.out⟩
        refine (clone13 a0 n0 c0 S0 w4 b0 (HS0.out.kept0 G4.out) Z0.out).mono ?_
        rintro _ w5 ⟨x0, rfl, k0, g5⟩
        have G5 : Hid (w.grownBy w5 none) := gb_trans G4.out g5
        have K0 : Hid (Copied w4 w5 x0 n0 S0) := k0
        clear k0 g5
        go_wp2_with fail
        refine (clone13 a1 n1 c1 S1 w5 b1 (HS1.out.kept0 G5.out) Z1.out).mono ?_
        rintro _ w6 ⟨x1, rfl, k1, g6⟩
        have G6 : Hid (w.grownBy w6 none) := gb_trans G5.out g6
        have K1 : Hid (Copied w5 w6 x1 n1 S1) := k1
        have g56 : Hid (w5.grownBy w6 none) := g6
        clear k1 g6
        go_wp2_with fail
        refine (clone13 a2 n2 c2 S2 w6 b2 (HS2.out.kept0 G6.out) Z2.out).mono ?_
        rintro _ w7 ⟨x2, rfl, k2, g7⟩
        have G7 : Hid (w.grownBy w7 none) := gb_trans G6.out g7
        have T0 : Hid (Strs w7 x0 n0 S0) := K0.out.strs (gb_trans g56.out g7)
        have T1 : Hid (Strs w7 x1 n1 S1) := K1.out.strs g7
        have T2 : Hid (Strs w7 x2 n2 S2) := k2.strs (gb_refl _ _)
        clear k2 g7 G4 G5 G6 K0 K1 g56
        have A00 : Hid (Same w7 x0 n0 x0 n0 true) := same_of b0 b0 T0.out T0.out (eqB_refl _ _)
        cases hp : eqB S0 n0 S1 n1 with
        | false =>
          have A01 : Hid (Same w7 x0 n0 x1 n1 false) := same_of b0 b1 T0.out T1.out hp
          have A10 : Hid (Same w7 x1 n1 x0 n0 false) := same_of b1 b0 T1.out T0.out ((eqB_comm _ _ _ _).trans hp)
          clear hp T0 T1 T2
          go_wp2_with fail
          refine (A00.out w7 (gb_refl _ _)).mono ?_
          rintro _ w8 ⟨rfl, g8⟩
          have G8 : Hid (w7.grownBy w8 none) := g8
          clear g8
          go_wp2_with fail
          refine (A01.out w8 G8.out).mono ?_
          rintro _ w9 ⟨rfl, g9⟩
          have G9 : Hid (w7.grownBy w9 none) := gb_trans G8.out g9
          clear g9
          go_wp2_with fail
          refine (A10.out w9 G9.out).mono ?_
          rintro _ w10 ⟨rfl, g10⟩
          have G10 : Hid (w7.grownBy w10 none) := gb_trans G9.out g10
          clear g10
          go_wp2_with fail
          refine (A01.out w10 G10.out).mono ?_
          rintro _ w11 ⟨rfl, g11⟩
          have G11 : Hid (w7.grownBy w11 none) := gb_trans G10.out g11
          clear g11
          go_wp2_with fail
          go_ret
          exact ⟨rfl, gb_trans G7.out G11.out⟩
        | true =>
          have A01 : Hid (Same w7 x0 n0 x1 n1 true) := same_of b0 b1 T0.out T1.out hp
          have A10 : Hid (Same w7 x1 n1 x0 n0 true) := same_of b1 b0 T1.out T0.out ((eqB_comm _ _ _ _).trans hp)
          cases hq : eqB S1 n1 S2 n2 with
          | false =>
            have A12 : Hid (Same w7 x1 n1 x2 n2 false) := same_of b1 b2 T1.out T2.out hq
            clear hp hq T0 T1 T2
            go_wp2_with fail
            refine (A00.out w7 (gb_refl _ _)).mono ?_
            rintro _ w8 ⟨rfl, g8⟩
            have G8 : Hid (w7.grownBy w8 none) := g8
            clear g8
            go_wp2_with fail
            refine (A01.out w8 G8.out).mono ?_
            rintro _ w9 ⟨rfl, g9⟩
            have G9 : Hid (w7.grownBy w9 none) := gb_trans G8.out g9
            clear g9
            go_wp2_with fail
            refine (A10.out w9 G9.out).mono ?_
            rintro _ w10 ⟨rfl, g10⟩
            have G10 : Hid (w7.grownBy w10 none) := gb_trans G9.out g10
            clear g10
            go_wp2_with fail
            refine (A01.out w10 G10.out).mono ?_
            rintro _ w11 ⟨rfl, g11⟩
            have G11 : Hid (w7.grownBy w11 none) := gb_trans G10.out g11
            clear g11
            go_wp2_with fail
            refine (A12.out w11 G11.out).mono ?_
            rintro _ w12 ⟨rfl, g12⟩
            have G12 : Hid (w7.grownBy w12 none) := gb_trans G11.out g12
            clear g12
            go_wp2_with fail
            go_ret
            exact ⟨rfl, gb_trans G7.out G12.out⟩
          | true =>
            have A12 : Hid (Same w7 x1 n1 x2 n2 true) := same_of b1 b2 T1.out T2.out hq
            have A02 : Hid (Same w7 x0 n0 x2 n2 true) := same_of b0 b2 T0.out T2.out (eqB_trans hp hq)
            clear hp hq T0 T1 T2
            go_wp2_with fail
            refine (A00.out w7 (gb_refl _ _)).mono ?_
            rintro _ w8 ⟨rfl, g8⟩
            have G8 : Hid (w7.grownBy w8 none) := g8
            clear g8
            go_wp2_with fail
            refine (A01.out w8 G8.out).mono ?_
            rintro _ w9 ⟨rfl, g9⟩
            have G9 : Hid (w7.grownBy w9 none) := gb_trans G8.out g9
            clear g9
            go_wp2_with fail
            refine (A10.out w9 G9.out).mono ?_
            rintro _ w10 ⟨rfl, g10⟩
            have G10 : Hid (w7.grownBy w10 none) := gb_trans G9.out g10
            clear g10
            go_wp2_with fail
            refine (A01.out w10 G10.out).mono ?_
            rintro _ w11 ⟨rfl, g11⟩
            have G11 : Hid (w7.grownBy w11 none) := gb_trans G10.out g11
            clear g11
            go_wp2_with fail
            refine (A12.out w11 G11.out).mono ?_
            rintro _ w12 ⟨rfl, g12⟩
            have G12 : Hid (w7.grownBy w12 none) := gb_trans G11.out g12
            clear g12
            go_wp2_with fail
            refine (A02.out w12 G12.out).mono ?_
            rintro _ w13 ⟨rfl, g13⟩
            have G13 : Hid (w7.grownBy w13 none) := gb_trans G12.out g13
            clear g13
            go_wp2_with fail
            go_ret
            exact ⟨rfl, gb_trans G7.out G13.out⟩
      · go_wp2_with fail
        go_ret
        exact ⟨rfl, G1.out⟩
    · go_wp2_with fail
      go_ret
      exact ⟨rfl, G1.out⟩
  · go_wp2_with fail
    go_ret
    exact ⟨rfl, G1.out⟩
end Go.Proofs.Qxb6601040aMods
