/-
  FnSameNamesSeesEveryChange (4): the walk.
-/
import Derived.Test.Qxb6601040aModsQuiet
import Derived.Deep.DeepCutAuto
namespace Go.Proofs.Qxb6601040aMods
open Go.RowKit
set_option linter.unusedSimpArgs false

theorem strs_none (w : World) (a : Option Addr) (S : Nat → ByteArray) : Strs w a 0 S := fun i hi => absurd hi (by omega)
theorem eqB_zero (S T : Nat → ByteArray) : eqB S 0 T 0 = true := eqB_iff.mpr ⟨rfl, fun i hi => absurd hi (by omega)⟩
theorem eqB_len (S T : Nat → ByteArray) {n m : Nat} (h : n ≠ m) : eqB S n T m = false := eqB_no.mpr (fun x => h x.1)
/-- At two empty lists, at lists of two lengths. -/
theorem same_empty (a b : Option Addr) (c d : Nat) (w : World) :
    Calls Trym.prog 14 #[.slice a 0 c, .slice b 0 d] w fun e w' => e = .returned (.bool true) ∧ w.grownBy w' none := by
  have h := q14 a b 0 0 c d (fun _ => ByteArray.empty) (fun _ => ByteArray.empty) w (by omega) (by omega) (strs_none _ _ _) (strs_none _ _ _)
  rw [eqB_zero] at h
  exact h.mono fun e w' ⟨he, hd⟩ => ⟨he, hd.gb⟩

theorem diff14 (a b : Option Addr) (n m c d : Nat) (w : World) (hn : n ≤ 9223372036854775807) (hm : m ≤ 9223372036854775807) (hnm : n ≠ m) :
    Calls Trym.prog 14 #[.slice a n c, .slice b m d] w fun e w' => e = .returned (.bool false) ∧ w.grownBy w' none := by
  go_enter Trym.func14, Trym.ntmps14
  go_wp2_with fail
  refine (q_len a b n m c d w hn hm hnm).mono ?_
  rintro e w1 ⟨rfl, hg⟩
  have HG : Hid (Drew w w1) := hg
  clear hg
  go_wp2
  go_ret
  exact ⟨rfl, HG.out.gb⟩

set_option maxHeartbeats 4000000 in
theorem law4_zero (x0 : Option Addr) (c0 : Nat) (z : Int) (t : ByteArray) (w : World) (hs : t.size ≤ 1048576) :
    Calls Trym.prog 4 #[.slice x0 0 c0, .int .i64 z, .string t] w fun e w' => e = .returned (.bool true) ∧ w.grownBy w' none := by
  go_enter Trym.func4, Trym.ntmps4
  go_wp2_with fail
  refine (bytes15 x0 0 c0 z t (fun _ => ByteArray.empty) w (by omega) (by omega) (strs_none _ _ _)).mono ?_
  rintro _ w1 ⟨⟨ok, rfl⟩, g1⟩
  have G1 : Hid (w.grownBy w1 none) := g1
  clear g1
  cases ok with
  | false =>
    go_wp2_with fail
    go_ret
    exact ⟨rfl, G1.out⟩
  | true =>
  go_wp2_with fail
  refine (names12 x0 0 c0 (fun _ => ByteArray.empty) w1 (by omega) (strs_none _ _ _)).mono ?_
  rintro _ w2 ⟨⟨v0, rfl⟩, g2⟩
  have G2 : Hid (w.grownBy w2 none) := gb_trans G1.out g2
  clear g2 G1
  go_wp2_with fail
  · go_ret
    exact ⟨rfl, G2.out⟩
  refine (clone13 x0 0 c0 (fun _ => ByteArray.empty) w2 (by omega) (strs_none _ _ _) (fun _ => rfl)).mono ?_
  rintro _ w3 ⟨x1, rfl, _, g3⟩
  have G3 : Hid (w.grownBy w3 none) := gb_trans G2.out g3
  clear g3 G2
  go_wp2_with fail
  refine (same_empty x1 none 0 0 w3).mono ?_
  rintro _ w4 ⟨rfl, g4⟩
  have G4 : Hid (w.grownBy w4 none) := gb_trans G3.out g4
  clear g4 G3
  go_wp2_with fail
  refine (same_empty x1 (some ⟨w4.heap.size, 0, none⟩) 0 0 (w4.alloc (.cells #[] 9))).mono ?_
  rintro _ w5 ⟨rfl, g5⟩
  have G5 : Hid (w.grownBy w5 none) := gb_trans (gb_alloc G4.out _) g5
  clear g5 G4
  go_wp2_with fail
  refine (diff14 x1 (some ⟨w5.heap.size, 0, none⟩) 0 1 0 1 (w5.alloc (.cells #[.string t] 9)) (by omega) (by omega) (by omega)).mono ?_
  rintro _ w6 ⟨rfl, g6⟩
  have G6 : Hid (w.grownBy w6 none) := gb_trans (gb_alloc G5.out _) g6
  clear g6 G5
  go_wp2_with fail
  go_ret
  exact ⟨rfl, G6.out⟩
end Go.Proofs.Qxb6601040aMods
