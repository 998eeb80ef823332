/-
  FnTallyPartition (5): the walk.
-/
import Derived.Test.Qxb6602655aModsCoin
namespace Go.Proofs.Qxb6602655aMods
open Go.RowKit
set_option linter.unusedSimpArgs false

theorem below_gb {w v : World} (h : w.grownBy v none) : Below w.heap.size w v := ⟨h.os, h.tape, h.output, h.size, fun k hk => h.block k hk (by simp)⟩

set_option maxHeartbeats 400000 in
/-- Too many numbers, or lists of several lengths: true at once. -/
theorem part_out (a0 a1 a2 : Option Addr) (n0 n1 n2 c0 c1 c2 : Nat) (m wd : Int) (w : World) (h0 : n0 ≤ 9223372036854775807) (h1 : n1 ≤ 9223372036854775807) (h2 : n2 ≤ 9223372036854775807)
    (h : ¬ (8 * (n0 + n1 + n2) ≤ 1048576 ∧ n1 = n0 ∧ n2 = n0)) :
    Calls Trym.prog 5 #[.slice a0 n0 c0, .slice a1 n1 c1, .slice a2 n2 c2, .int .i64 m, .int .i64 wd] w fun e w' => e = .returned (.bool true) ∧ Below w.heap.size w w' := by
  by_cases hs : n0 + n1 + n2 ≤ 1048576
  · have hd : decide (n0 + n1 + n2 ≤ 1048576) = true := by simp [hs]
    by_cases h8 : 8 * (n0 + n1 + n2) ≤ 1048576
    · by_cases e1 : n1 = n0
      · have e2 : ¬ n2 = n0 := fun e => h ⟨h8, e1, e⟩
        subst e1
        have b2 : ((n2 : Int) != (n1 : Int)) = true := by simp; omega
        clear h
        go_enter Trym.func5, Trym.ntmps5
        go_wp2_with (go_at_call 17; refine (bytes17 a0 a1 a2 n1 n1 n2 c0 c1 c2 m wd _ h0 h1 h2).mono ?_; rintro e w' ⟨rfl, rfl⟩)
        go_ret
        exact ⟨rfl, Below.refl _ _⟩
      · have b1 : ((n1 : Int) != (n0 : Int)) = true := by simp; omega
        clear h
        go_enter Trym.func5, Trym.ntmps5
        go_wp2_with (go_at_call 17; refine (bytes17 a0 a1 a2 n0 n1 n2 c0 c1 c2 m wd _ h0 h1 h2).mono ?_; rintro e w' ⟨rfl, rfl⟩)
        go_ret
        exact ⟨rfl, Below.refl _ _⟩
    · clear h
      go_enter Trym.func5, Trym.ntmps5
      go_wp2_with (go_at_call 17; refine (bytes17 a0 a1 a2 n0 n1 n2 c0 c1 c2 m wd _ h0 h1 h2).mono ?_; rintro e w' ⟨rfl, rfl⟩)
      go_ret
      exact ⟨rfl, Below.refl _ _⟩
  · have hd : decide (n0 + n1 + n2 ≤ 1048576) = false := by simpa using hs
    clear h
    go_enter Trym.func5, Trym.ntmps5
    go_wp2_with (go_at_call 17; refine (bytes17 a0 a1 a2 n0 n1 n2 c0 c1 c2 m wd _ h0 h1 h2).mono ?_; rintro e w' ⟨rfl, rfl⟩)
    go_ret
    exact ⟨rfl, Below.refl _ _⟩

set_option maxHeartbeats 400000 in
theorem part_some (b0 o0 b1 o1 b2 o2 n c0 c1 c2 : Nat) (Z O C : Nat → Int) (m wd : Int) (w : World) (hn : 24 * n ≤ 1048576)
    (r0 : Row w b0 o0 n Z) (r1 : Row w b1 o1 n O) (r2 : Row w b2 o2 n C) :
    Calls Trym.prog 5 #[.slice (some ⟨b0, o0, none⟩) n c0, .slice (some ⟨b1, o1, none⟩) n c1, .slice (some ⟨b2, o2, none⟩) n c2, .int .i64 m, .int .i64 wd] w fun e w' => e = .returned (.bool true) ∧ Below w.heap.size w w' := by
  have hd : decide (n + n + n ≤ 1048576) = true := by simp; omega
  have R0 : Hid (Row w b0 o0 n Z) := r0
  have R1 : Hid (Row w b1 o1 n O) := r1
  have R2 : Hid (Row w b2 o2 n C) := r2
  clear r0 r1 r2
  go_enter Trym.func5, Trym.ntmps5
  go_wp2_with (go_at_call 17; refine (bytes17 _ _ _ n n n c0 c1 c2 m wd _ (by omega) (by omega) (by omega)).mono ?_; rintro e w' ⟨rfl, hw⟩; subst hw)
  refine (coin_some b0 o0 b1 o1 b2 o2 n c0 c1 c2 Z O C m wd _ (by omega) R0.out R1.out R2.out).mono ?_
  rintro e w1 ⟨g, rfl, hr1, hg1⟩
  have HR1 : Hid (Rounds w1 g n Z O C) := hr1
  have HG1 : Hid (_) := hg1
  clear hr1 hg1
  go_wp2_with fail
  refine (tally_some g n n Z O C m wd _ (by omega) HR1.out).mono ?_
  rintro e w2 ⟨rfl, hg2⟩
  have HG2 : Hid (_) := gb_trans HG1.out hg2
  clear hg2 HG1 HR1
  have S := cnt_sum (fun i => cls (Z i) (O i) (C i)) (fun i => cls_lt _ _ _) n
  obtain ⟨k0, E0⟩ : ∃ k, Hid (cnt (fun i => cls (Z i) (O i) (C i)) 0 n = k) := ⟨_, rfl⟩
  obtain ⟨k1, E1⟩ : ∃ k, Hid (cnt (fun i => cls (Z i) (O i) (C i)) 1 n = k) := ⟨_, rfl⟩
  obtain ⟨k2, E2⟩ : ∃ k, Hid (cnt (fun i => cls (Z i) (O i) (C i)) 2 n = k) := ⟨_, rfl⟩
  obtain ⟨k3, E3⟩ : ∃ k, Hid (cnt (fun i => cls (Z i) (O i) (C i)) 3 n = k) := ⟨_, rfl⟩
  rw [E0.out, E1.out, E2.out, E3.out] at S ⊢
  have S1 : k0 + k1 + k2 + k3 ≤ n := by omega
  have S2 : n ≤ k0 + k1 + k2 + k3 := by omega
  clear S
  go_wp2_with fail
  clear S1 S2
  refine (coin_some b0 o0 b1 o1 b2 o2 n c0 c1 c2 Z O C 0 0 _ (by omega) (R0.out.kept HG2.out (by simp)) (R1.out.kept HG2.out (by simp)) (R2.out.kept HG2.out (by simp))).mono ?_
  rintro e w3 ⟨g', rfl, hr3, hg3⟩
  have HR3 : Hid (Rounds w3 g' n Z O C) := hr3
  have HG3 : Hid (_) := gb_trans HG2.out hg3
  clear hr3 hg3 HG2 R0 R1 R2
  go_wp2_with fail
  refine (tally_some g' n n Z O C 0 0 _ (by omega) HR3.out).mono ?_
  rintro e w4 ⟨rfl, hg4⟩
  have HG4 : Hid (_) := gb_trans HG3.out hg4
  clear hg4 HG3 HR3
  rw [E0.out, E1.out, E2.out, E3.out]
  clear E0 E1 E2 E3
  go_wp2
  go_ret
  exact ⟨rfl, below_gb HG4.out⟩

set_option maxHeartbeats 400000 in
theorem part_nil (a1 a2 : Option Addr) (c1 c2 : Nat) (m wd : Int) (w : World) :
    Calls Trym.prog 5 #[.slice none 0 0, .slice a1 0 c1, .slice a2 0 c2, .int .i64 m, .int .i64 wd] w fun e w' => e = .returned (.bool true) ∧ Below w.heap.size w w' := by
  have hd : decide (0 + 0 + 0 ≤ 1048576) = true := by simp
  go_enter Trym.func5, Trym.ntmps5
  go_wp2_with (go_at_call 17; refine (bytes17 none a1 a2 0 0 0 0 c1 c2 m wd _ (by omega) (by omega) (by omega)).mono ?_; rintro e w' ⟨rfl, hw⟩; subst hw)
  refine (coin_nil a1 a2 c1 c2 m wd _).mono ?_
  rintro e w1 ⟨rfl, hg1⟩
  have HG1 : Hid (_) := hg1
  clear hg1
  go_wp2_with fail
  refine (tally_nil m wd _).mono ?_
  rintro e w2 ⟨rfl, hg2⟩
  have HG2 : Hid (_) := gb_trans HG1.out hg2
  clear hg2 HG1
  go_wp2_with fail
  refine (coin_nil a1 a2 c1 c2 0 0 _).mono ?_
  rintro e w3 ⟨rfl, hg3⟩
  have HG3 : Hid (_) := gb_trans HG2.out hg3
  clear hg3 HG2
  go_wp2_with fail
  refine (tally_nil 0 0 _).mono ?_
  rintro e w4 ⟨rfl, hg4⟩
  have HG4 : Hid (_) := gb_trans HG3.out hg4
  clear hg4 HG3
  go_wp2
  go_ret
  exact ⟨rfl, below_gb HG4.out⟩

set_option maxHeartbeats 400000 in
theorem part_empty (a : Addr) (a1 a2 : Option Addr) (c0 c1 c2 : Nat) (m wd : Int) (w : World) :
    Calls Trym.prog 5 #[.slice (some a) 0 c0, .slice a1 0 c1, .slice a2 0 c2, .int .i64 m, .int .i64 wd] w fun e w' => e = .returned (.bool true) ∧ Below w.heap.size w w' := by
  have hd : decide (0 + 0 + 0 ≤ 1048576) = true := by simp
  go_enter Trym.func5, Trym.ntmps5
  go_wp2_with (go_at_call 17; refine (bytes17 (some a) a1 a2 0 0 0 c0 c1 c2 m wd _ (by omega) (by omega) (by omega)).mono ?_; rintro e w' ⟨rfl, hw⟩; subst hw)
  refine (coin_empty a a1 a2 c0 c1 c2 m wd _).mono ?_
  rintro e w1 ⟨g, rfl, hg1⟩
  have HG1 : Hid (_) := hg1
  clear hg1
  go_wp2_with fail
  refine (tally_empty g 0 m wd _).mono ?_
  rintro e w2 ⟨rfl, hg2⟩
  have HG2 : Hid (_) := gb_trans HG1.out hg2
  clear hg2 HG1
  go_wp2_with fail
  refine (coin_empty a a1 a2 c0 c1 c2 0 0 _).mono ?_
  rintro e w3 ⟨g', rfl, hg3⟩
  have HG3 : Hid (_) := gb_trans HG2.out hg3
  clear hg3 HG2
  go_wp2_with fail
  refine (tally_empty g' 0 0 0 _).mono ?_
  rintro e w4 ⟨rfl, hg4⟩
  have HG4 : Hid (_) := gb_trans HG3.out hg4
  clear hg4 HG3
  go_wp2
  go_ret
  exact ⟨rfl, below_gb HG4.out⟩
end Go.Proofs.Qxb6602655aMods
