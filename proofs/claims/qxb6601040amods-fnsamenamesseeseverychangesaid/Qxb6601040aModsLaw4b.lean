/-
  FnSameNamesSeesEveryChange (4): the walk of the long branch.
-/
import Derived.Test.Qxb6601040aModsLaw4
namespace Go.Proofs.Qxb6601040aMods
open Go.RowKit
set_option linter.unusedSimpArgs false

theorem own_next {w : World} {b n k : Nat} {S : Nat → ByteArray} (h : Own w b n (fun i => if i < k then S i else ByteArray.empty)) (hk : k < n) : Own (w.setCell ⟨b, k, none⟩ (.string (S k))) b n (fun i => if i < k + 1 then S i else ByteArray.empty) :=
  (h.set (S k) hk).ext (fun i _ => by
    by_cases e : i = k
    · subst e; rw [upd_same]; simp
    · rw [upd_other _ _ e]
      by_cases e2 : i < k
      · rw [if_pos e2, if_pos (by omega)]
      · rw [if_neg e2, if_neg (by omega)])
theorem eqB_upd (S : Nat → ByteArray) {n m : Nat} (t : ByteArray) (hm : m < n) : eqB S n (upd S m t) n = decide (S m = t) := by
  rw [Bool.eq_iff_iff, eqB_iff, decide_eq_true_iff]
  constructor
  · rintro ⟨_, h⟩
    have := h m hm
    rwa [upd_same] at this
  · intro h
    refine ⟨rfl, fun i _ => ?_⟩
    by_cases e : i = m
    · subst e; rw [upd_same]; exact h
    · rw [upd_other _ _ e]

set_option maxHeartbeats 4000000 in
theorem law4_pos (x0 : Option Addr) (n c0 m : Nat) (z : Int) (t : ByteArray) (S : Nat → ByteArray) (w : World) (hn : n ≤ 65536) (hn0 : 0 < n) (hs : t.size ≤ 1048576) (hm : m < n) (hw : z.tmod (n : Int) = (m : Int)) (hS : Strs w x0 n S) (hsz : ∀ i, i < n → (S i).size ≤ 9223372036854775807) :
    Calls Trym.prog 4 #[.slice x0 n c0, .int .i64 z, .string t] w fun e w' => e = .returned (.bool true) ∧ w.grownBy w' none := by
  have HS : Hid (Strs w x0 n S) := hS
  have HZ : Hid (∀ i, i < n → (S i).size ≤ 9223372036854775807) := hsz
  clear hS hsz
  go_enter Trym.func4, Trym.ntmps4
  go_wp2_with fail
  refine (bytes15 x0 n c0 z t S w (by omega) (by omega) HS.out).mono ?_
  rintro _ w1 ⟨⟨ok, rfl⟩, g1⟩
  have G1 : Hid (w.grownBy w1 none) := g1
  clear g1
  cases ok with
  | false =>
    go_wp2_with fail
    go_ret
    exact ⟨rfl, G1.out⟩
  | true =>
  go_wp2_with fail
  refine (names12 x0 n c0 S w1 (by omega) (HS.out.kept0 G1.out)).mono ?_
  rintro _ w2 ⟨⟨v0, rfl⟩, g2⟩
  have G2 : Hid (w.grownBy w2 none) := gb_trans G1.out g2
  clear g2 G1
  go_wp2_with fail
  · go_ret
    exact ⟨rfl, G2.out⟩
  refine (clone13 x0 n c0 S w2 (by omega) (HS.out.kept0 G2.out) (fun h => by obtain ⟨b, o, e, _⟩ := HS.out 0 hn0; rw [h] at e; cases e)).mono ?_
  rintro _ w3 ⟨x1, rfl, hc, g3⟩
  rcases hc with ⟨_, rfl⟩ | ⟨rfl, hO⟩
  · omega
  have G3 : Hid (w.grownBy w3 none) := gb_trans G2.out g3
  have HO : Hid (Own w3 w2.heap.size n S) := hO
  have hlt : w2.heap.size < w3.heap.size := World.block_lt_of_cell? w3 _ (hO 0 hn0).1
  have hle : w.heap.size ≤ w3.heap.size := G3.out.size
  generalize w2.heap.size = A at hlt HO
  clear g3 G2 hO
  have mk1 := fun w => run_make_row' (P := Trym.prog) 22 9 (.string ByteArray.empty) 16 Trym.underlying22 info9 rfl .i64 .i64 n (by omega) (by omega) w
  go_wp2_with fail
  clear mk1
  go_loopw [9] (fun i wr => ∃ k : Nat, k ≤ n ∧ i = .int .i64 k ∧ Own wr w3.heap.size n (fun i => if i < k then S i else ByteArray.empty) ∧ w3.grownBy wr none) (fun i _ => n - (intOf i).toNat)
  case atStart => exact ⟨0, by omega, rfl, (own_made w3 n).ext (fun i _ => by simp), gb_alloc (gb_refl _ _) _⟩
  case round =>
    obtain ⟨k, hk, rfl, hOB, hg⟩ := hrel
    have HB : Hid (Own wr w3.heap.size n (fun i => if i < k then S i else ByteArray.empty)) := hOB
    have HG : Hid (w3.grownBy wr none) := hg
    clear hOB hg
    by_cases hkn : k < n
    · have c1 := ((HO.out.kept HG.out (by simp)) k hkn).1
      obtain ⟨d1, d2⟩ := HB.out k hkn
      have i1 : (0 : Int) ≤ (k : Int) := by omega
      have i2 : (k : Int) < (n : Int) := by omega
      have HR : Hid (Own (wr.setCell ⟨w3.heap.size, k, none⟩ (.string (S k))) w3.heap.size n (fun i => if i < k + 1 then S i else ByteArray.empty)) := own_next HB.out hkn
      generalize S k = s at c1 HR
      go_wp2_with fail
      go_roundw
      case rel => exact ⟨k + 1, by omega, by go_num, HR.out, gb_setCell_new HG.out (Nat.le_refl _) _ _ _⟩
      case measure => simp [intOf]; omega
    · have HB2 : Hid (Own wr w3.heap.size n S) := HB.out.ext (fun i hi => by rw [if_pos (by omega)])
      obtain ⟨d1, d2⟩ := HB2.out m hm
      have HB3 : Hid (Own (wr.setCell ⟨w3.heap.size, m, none⟩ (.string t)) w3.heap.size n (upd S m t)) := HB2.out.set t hm
      have HA3 : Hid (Own (wr.setCell ⟨w3.heap.size, m, none⟩ (.string t)) A n S) := (HO.out.kept HG.out (by simp)).kept (gb_setCell (gb_refl wr (some w3.heap.size)) m none (.string t)) (by simp; omega)
      have HG3 : Hid (w3.grownBy (wr.setCell ⟨w3.heap.size, m, none⟩ (.string t)) none) := gb_setCell_new HG.out (Nat.le_refl _) _ _ _
      have i1 : (0 : Int) ≤ (m : Int) := by omega
      have i2 : (m : Int) < (n : Int) := by omega
      have hsr : w3.heap.size < wr.heap.size := World.block_lt_of_cell? wr _ d1
      clear HB HB2 HG HO
      generalize w3.heap.size = B at *
      have mk2 := fun w => run_make_row' (P := Trym.prog) 22 9 (.string ByteArray.empty) 16 Trym.underlying22 info9 rfl .i64 .i64 (n + 1) (by omega) (by omega) w
      rw [Int.natCast_add, Int.natCast_one] at mk2
      go_wp2_with fail
      clear mk2 d1 d2
      have hus : (wr.setCell ⟨B, m, none⟩ (.string t)).heap.size = wr.heap.size := by simp
      generalize wr.setCell ⟨B, m, none⟩ (.string t) = U at *
      generalize wr.heap.size = C at *
      have HMH : Hid (Own (U.alloc (.cells (madeCells #[.string ByteArray.empty] (n + 1)) 9)) C (n + 1) (fun _ => ByteArray.empty)) := hus ▸ own_made U (n + 1)
      have HUS : Hid (U.heap.size = C) := hus
      clear hus
      go_loopw [11] (fun i wq => ∃ k : Nat, k ≤ n ∧ i = .int .i64 k ∧ Own wq C (n + 1) (fun i => if i < k then S i else ByteArray.empty) ∧ U.grownBy wq none) (fun i _ => n - (intOf i).toNat)
      case atStart => exact ⟨0, by omega, rfl, HMH.out.ext (fun i _ => by simp), gb_alloc (gb_refl _ _) _⟩
      case round =>
        clear HMH
        obtain ⟨k, hk, rfl, hOC, hg⟩ := hrel
        have HC : Hid (Own wr C (n + 1) (fun i => if i < k then S i else ByteArray.empty)) := hOC
        have HG : Hid (U.grownBy wr none) := hg
        clear hOC hg
        by_cases hkn : k < n
        · have c1 := ((HA3.out.kept HG.out (by simp)) k hkn).1
          obtain ⟨d1, d2⟩ := HC.out k (by omega)
          have j1 : (0 : Int) ≤ (k : Int) := by omega
          have j2 : (k : Int) < (n : Int) := by omega
          have j3 : (k : Int) < ((n + 1 : Nat) : Int) := by omega
          have HR : Hid (Own (wr.setCell ⟨C, k, none⟩ (.string (S k))) C (n + 1) (fun i => if i < k + 1 then S i else ByteArray.empty)) := own_next HC.out (by omega)
          have HGR : Hid (U.grownBy (wr.setCell ⟨C, k, none⟩ (.string (S k))) none) := gb_setCell_new HG.out (by rw [HUS.out]; exact Nat.le_refl _) _ _ _
          generalize S k = s at c1 HR HGR
          go_wp2_with fail
          go_roundw
          case rel => exact ⟨k + 1, by omega, by go_num, HR.out, HGR.out⟩
          case measure => simp [intOf]; omega
        · obtain ⟨d1, d2⟩ := HC.out n (by omega)
          have j1 : (0 : Int) ≤ (n : Int) := by omega
          have j2 : (n : Int) < ((n + 1 : Nat) : Int) := by omega
          have HV : Hid (wr.grownBy (wr.setCell ⟨C, n, none⟩ (.string t)) (some C)) := gb_setCell (gb_refl _ _) _ _ _
          have HAV : Hid (Own (wr.setCell ⟨C, n, none⟩ (.string t)) A n S) := (HA3.out.kept HG.out (by simp)).kept HV.out (by simp; omega)
          have HBV : Hid (Own (wr.setCell ⟨C, n, none⟩ (.string t)) B n (upd S m t)) := (HB3.out.kept HG.out (by simp)).kept HV.out (by simp; omega)
          have HGV : Hid (w.grownBy (wr.setCell ⟨C, n, none⟩ (.string t)) none) := gb_trans (gb_trans G3.out HG3.out) (gb_setCell_new HG.out (by rw [HUS.out]; exact Nat.le_refl _) _ _ _)
          go_wp2_with fail
          clear d1 d2 HC HG HV
          generalize wr.setCell ⟨C, n, none⟩ (.string t) = V at *
          have cA := (HAV.out m hm).1
          have H14 : Hid (∀ k, Calls Trym.prog 14 #[.slice (some ⟨A, 0, none⟩) n n, .slice (some ⟨B, 0, none⟩) n n] (V.drewN k) fun e w' => e = .returned (.bool (decide (S m = t))) ∧ ∃ j, w' = (V.drewN k).drewN j) := fun k => by
            rw [← eqB_upd S t hm]
            exact q14 _ _ n n n n S (upd S m t) (V.drewN k) (by omega) (by omega) (HAV.out.strs.kept0 (gb_drewN (gb_refl _ _) _)) (HBV.out.strs.kept0 (gb_drewN (gb_refl _ _) _))
          have H16 : Hid (∀ k, Calls Trym.prog 16 #[.string (S m), .string t] (V.drewN k) fun e w' => e = .returned (.bool (decide (S m = t))) ∧ ∃ j, w' = (V.drewN k).drewN j) := fun k => q16 (S m) t (V.drewN k) (HZ.out m hm) (by omega)
          generalize decide (S m = t) = q at H14 H16
          generalize S m = s at cA H16
          go_quiet (first
            | (go_at_call 14; exact Calls.quiet_of (H14.out _))
            | (go_at_call 16; exact Calls.quiet_of (H16.out _)))
          clear H14 H16 cA
          have hq : (q != q) = false := by cases q <;> rfl
          go_wp2_with fail
          refine (diff14 (some ⟨A, 0, none⟩) (some ⟨C, 0, none⟩) n (n + 1) n (n + 1) (V.drewN nq) (by omega) (by omega) (by omega)).mono ?_
          rintro _ w5 ⟨rfl, g5⟩
          have G5 : Hid (w.grownBy w5 none) := gb_trans (gb_drewN HGV.out _) g5
          clear g5
          go_wp2_with fail
          refine (diff14 (some ⟨C, 0, none⟩) (some ⟨A, 0, none⟩) (n + 1) n (n + 1) n w5 (by omega) (by omega) (by omega)).mono ?_
          rintro _ w6 ⟨rfl, g6⟩
          have G6 : Hid (w.grownBy w6 none) := gb_trans G5.out g6
          clear g6
          go_wp2_with fail
          refine (diff14 (some ⟨A, 0, none⟩) (some ⟨A, 0, none⟩) n (n - 1) n n w6 (by omega) (by omega) (by omega)).mono ?_
          rintro _ w7 ⟨rfl, g7⟩
          have G7 : Hid (w.grownBy w7 none) := gb_trans G6.out g7
          clear g7
          go_wp2_with fail
          go_ret
          exact ⟨rfl, G7.out⟩

set_option maxHeartbeats 4000000 in
theorem law4_neg (x0 : Option Addr) (n c0 m : Nat) (z : Int) (t : ByteArray) (S : Nat → ByteArray) (w : World) (hn : n ≤ 65536) (hn0 : 0 < n) (hs : t.size ≤ 1048576) (hm : m < n) (hw0 : z.tmod (n : Int) < 0) (hw : wrap64 (z.tmod (n : Int) + n) = (m : Int)) (hS : Strs w x0 n S) (hsz : ∀ i, i < n → (S i).size ≤ 9223372036854775807) :
    Calls Trym.prog 4 #[.slice x0 n c0, .int .i64 z, .string t] w fun e w' => e = .returned (.bool true) ∧ w.grownBy w' none := by
  have HS : Hid (Strs w x0 n S) := hS
  have HZ : Hid (∀ i, i < n → (S i).size ≤ 9223372036854775807) := hsz
  clear hS hsz
  go_enter Trym.func4, Trym.ntmps4
  go_wp2_with fail
  refine (bytes15 x0 n c0 z t S w (by omega) (by omega) HS.out).mono ?_
  rintro _ w1 ⟨⟨ok, rfl⟩, g1⟩
  have G1 : Hid (w.grownBy w1 none) := g1
  clear g1
  cases ok with
  | false =>
    go_wp2_with fail
    go_ret
    exact ⟨rfl, G1.out⟩
  | true =>
  go_wp2_with fail
  refine (names12 x0 n c0 S w1 (by omega) (HS.out.kept0 G1.out)).mono ?_
  rintro _ w2 ⟨⟨v0, rfl⟩, g2⟩
  have G2 : Hid (w.grownBy w2 none) := gb_trans G1.out g2
  clear g2 G1
  go_wp2_with fail
  · go_ret
    exact ⟨rfl, G2.out⟩
  refine (clone13 x0 n c0 S w2 (by omega) (HS.out.kept0 G2.out) (fun h => by obtain ⟨b, o, e, _⟩ := HS.out 0 hn0; rw [h] at e; cases e)).mono ?_
  rintro _ w3 ⟨x1, rfl, hc, g3⟩
  rcases hc with ⟨_, rfl⟩ | ⟨rfl, hO⟩
  · omega
  have G3 : Hid (w.grownBy w3 none) := gb_trans G2.out g3
  have HO : Hid (Own w3 w2.heap.size n S) := hO
  have hlt : w2.heap.size < w3.heap.size := World.block_lt_of_cell? w3 _ (hO 0 hn0).1
  have hle : w.heap.size ≤ w3.heap.size := G3.out.size
  generalize w2.heap.size = A at hlt HO
  clear g3 G2 hO
  have mk1 := fun w => run_make_row' (P := Trym.prog) 22 9 (.string ByteArray.empty) 16 Trym.underlying22 info9 rfl .i64 .i64 n (by omega) (by omega) w
  go_wp2_with fail
  clear mk1
  go_loopw [9] (fun i wr => ∃ k : Nat, k ≤ n ∧ i = .int .i64 k ∧ Own wr w3.heap.size n (fun i => if i < k then S i else ByteArray.empty) ∧ w3.grownBy wr none) (fun i _ => n - (intOf i).toNat)
  case atStart => exact ⟨0, by omega, rfl, (own_made w3 n).ext (fun i _ => by simp), gb_alloc (gb_refl _ _) _⟩
  case round =>
    obtain ⟨k, hk, rfl, hOB, hg⟩ := hrel
    have HB : Hid (Own wr w3.heap.size n (fun i => if i < k then S i else ByteArray.empty)) := hOB
    have HG : Hid (w3.grownBy wr none) := hg
    clear hOB hg
    by_cases hkn : k < n
    · have c1 := ((HO.out.kept HG.out (by simp)) k hkn).1
      obtain ⟨d1, d2⟩ := HB.out k hkn
      have i1 : (0 : Int) ≤ (k : Int) := by omega
      have i2 : (k : Int) < (n : Int) := by omega
      have HR : Hid (Own (wr.setCell ⟨w3.heap.size, k, none⟩ (.string (S k))) w3.heap.size n (fun i => if i < k + 1 then S i else ByteArray.empty)) := own_next HB.out hkn
      generalize S k = s at c1 HR
      go_wp2_with fail
      go_roundw
      case rel => exact ⟨k + 1, by omega, by go_num, HR.out, gb_setCell_new HG.out (Nat.le_refl _) _ _ _⟩
      case measure => simp [intOf]; omega
    · have HB2 : Hid (Own wr w3.heap.size n S) := HB.out.ext (fun i hi => by rw [if_pos (by omega)])
      obtain ⟨d1, d2⟩ := HB2.out m hm
      have HB3 : Hid (Own (wr.setCell ⟨w3.heap.size, m, none⟩ (.string t)) w3.heap.size n (upd S m t)) := HB2.out.set t hm
      have HA3 : Hid (Own (wr.setCell ⟨w3.heap.size, m, none⟩ (.string t)) A n S) := (HO.out.kept HG.out (by simp)).kept (gb_setCell (gb_refl wr (some w3.heap.size)) m none (.string t)) (by simp; omega)
      have HG3 : Hid (w3.grownBy (wr.setCell ⟨w3.heap.size, m, none⟩ (.string t)) none) := gb_setCell_new HG.out (Nat.le_refl _) _ _ _
      have i1 : (0 : Int) ≤ (m : Int) := by omega
      have i2 : (m : Int) < (n : Int) := by omega
      have hsr : w3.heap.size < wr.heap.size := World.block_lt_of_cell? wr _ d1
      clear HB HB2 HG HO
      generalize w3.heap.size = B at *
      have mk2 := fun w => run_make_row' (P := Trym.prog) 22 9 (.string ByteArray.empty) 16 Trym.underlying22 info9 rfl .i64 .i64 (n + 1) (by omega) (by omega) w
      rw [Int.natCast_add, Int.natCast_one] at mk2
      go_wp2_with fail
      clear mk2 d1 d2
      have hus : (wr.setCell ⟨B, m, none⟩ (.string t)).heap.size = wr.heap.size := by simp
      generalize wr.setCell ⟨B, m, none⟩ (.string t) = U at *
      generalize wr.heap.size = C at *
      have HMH : Hid (Own (U.alloc (.cells (madeCells #[.string ByteArray.empty] (n + 1)) 9)) C (n + 1) (fun _ => ByteArray.empty)) := hus ▸ own_made U (n + 1)
      have HUS : Hid (U.heap.size = C) := hus
      clear hus
      go_loopw [11] (fun i wq => ∃ k : Nat, k ≤ n ∧ i = .int .i64 k ∧ Own wq C (n + 1) (fun i => if i < k then S i else ByteArray.empty) ∧ U.grownBy wq none) (fun i _ => n - (intOf i).toNat)
      case atStart => exact ⟨0, by omega, rfl, HMH.out.ext (fun i _ => by simp), gb_alloc (gb_refl _ _) _⟩
      case round =>
        clear HMH
        obtain ⟨k, hk, rfl, hOC, hg⟩ := hrel
        have HC : Hid (Own wr C (n + 1) (fun i => if i < k then S i else ByteArray.empty)) := hOC
        have HG : Hid (U.grownBy wr none) := hg
        clear hOC hg
        by_cases hkn : k < n
        · have c1 := ((HA3.out.kept HG.out (by simp)) k hkn).1
          obtain ⟨d1, d2⟩ := HC.out k (by omega)
          have j1 : (0 : Int) ≤ (k : Int) := by omega
          have j2 : (k : Int) < (n : Int) := by omega
          have j3 : (k : Int) < ((n + 1 : Nat) : Int) := by omega
          have HR : Hid (Own (wr.setCell ⟨C, k, none⟩ (.string (S k))) C (n + 1) (fun i => if i < k + 1 then S i else ByteArray.empty)) := own_next HC.out (by omega)
          have HGR : Hid (U.grownBy (wr.setCell ⟨C, k, none⟩ (.string (S k))) none) := gb_setCell_new HG.out (by rw [HUS.out]; exact Nat.le_refl _) _ _ _
          generalize S k = s at c1 HR HGR
          go_wp2_with fail
          go_roundw
          case rel => exact ⟨k + 1, by omega, by go_num, HR.out, HGR.out⟩
          case measure => simp [intOf]; omega
        · obtain ⟨d1, d2⟩ := HC.out n (by omega)
          have j1 : (0 : Int) ≤ (n : Int) := by omega
          have j2 : (n : Int) < ((n + 1 : Nat) : Int) := by omega
          have HV : Hid (wr.grownBy (wr.setCell ⟨C, n, none⟩ (.string t)) (some C)) := gb_setCell (gb_refl _ _) _ _ _
          have HAV : Hid (Own (wr.setCell ⟨C, n, none⟩ (.string t)) A n S) := (HA3.out.kept HG.out (by simp)).kept HV.out (by simp; omega)
          have HBV : Hid (Own (wr.setCell ⟨C, n, none⟩ (.string t)) B n (upd S m t)) := (HB3.out.kept HG.out (by simp)).kept HV.out (by simp; omega)
          have HGV : Hid (w.grownBy (wr.setCell ⟨C, n, none⟩ (.string t)) none) := gb_trans (gb_trans G3.out HG3.out) (gb_setCell_new HG.out (by rw [HUS.out]; exact Nat.le_refl _) _ _ _)
          go_wp2_with fail
          clear d1 d2 HC HG HV
          generalize wr.setCell ⟨C, n, none⟩ (.string t) = V at *
          have cA := (HAV.out m hm).1
          have H14 : Hid (∀ k, Calls Trym.prog 14 #[.slice (some ⟨A, 0, none⟩) n n, .slice (some ⟨B, 0, none⟩) n n] (V.drewN k) fun e w' => e = .returned (.bool (decide (S m = t))) ∧ ∃ j, w' = (V.drewN k).drewN j) := fun k => by
            rw [← eqB_upd S t hm]
            exact q14 _ _ n n n n S (upd S m t) (V.drewN k) (by omega) (by omega) (HAV.out.strs.kept0 (gb_drewN (gb_refl _ _) _)) (HBV.out.strs.kept0 (gb_drewN (gb_refl _ _) _))
          have H16 : Hid (∀ k, Calls Trym.prog 16 #[.string (S m), .string t] (V.drewN k) fun e w' => e = .returned (.bool (decide (S m = t))) ∧ ∃ j, w' = (V.drewN k).drewN j) := fun k => q16 (S m) t (V.drewN k) (HZ.out m hm) (by omega)
          generalize decide (S m = t) = q at H14 H16
          generalize S m = s at cA H16
          go_quiet (first
            | (go_at_call 14; exact Calls.quiet_of (H14.out _))
            | (go_at_call 16; exact Calls.quiet_of (H16.out _)))
          clear H14 H16 cA
          have hq : (q != q) = false := by cases q <;> rfl
          go_wp2_with fail
          refine (diff14 (some ⟨A, 0, none⟩) (some ⟨C, 0, none⟩) n (n + 1) n (n + 1) (V.drewN nq) (by omega) (by omega) (by omega)).mono ?_
          rintro _ w5 ⟨rfl, g5⟩
          have G5 : Hid (w.grownBy w5 none) := gb_trans (gb_drewN HGV.out _) g5
          clear g5
          go_wp2_with fail
          refine (diff14 (some ⟨C, 0, none⟩) (some ⟨A, 0, none⟩) (n + 1) n (n + 1) n w5 (by omega) (by omega) (by omega)).mono ?_
          rintro _ w6 ⟨rfl, g6⟩
          have G6 : Hid (w.grownBy w6 none) := gb_trans G5.out g6
          clear g6
          go_wp2_with fail
          refine (diff14 (some ⟨A, 0, none⟩) (some ⟨A, 0, none⟩) n (n - 1) n n w6 (by omega) (by omega) (by omega)).mono ?_
          rintro _ w7 ⟨rfl, g7⟩
          have G7 : Hid (w.grownBy w7 none) := gb_trans G6.out g7
          clear g7
          go_wp2_with fail
          go_ret
          exact ⟨rfl, G7.out⟩
end Go.Proofs.Qxb6601040aMods
