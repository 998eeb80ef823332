/-
  zzSmallestCode (10): it gives the code that nextSequence gives.
-/
import Derived.Test.Qxb6602441aModsDecode
namespace Go.Proofs.Qxb6602441aMods
open Go.RowKit
set_option linter.unusedSimpArgs false

/-! ### Plain: the least k of 1, 2, 3 that decodes to dist, else dist + 3 -/
theorem code_hit (lit dist r0 r1 r2 : Int) (k : Nat) (hl : 0 ≤ lit) (h1 : 1 ≤ k) (h3 : k ≤ 3) (hit : dOff k lit r0 r1 r2 = dist) (no : ∀ j : Nat, 1 ≤ j → j < k → ¬ dOff j lit r0 r1 r2 = dist) :
    code lit dist r0 r1 r2 = k := by
  have n1 := no 1
  have n2 := no 2
  clear no
  match k, h1, h3 with
  | 1, _, _ =>
    by_cases hz : lit = 0
    · simp [dOff, kind, hz] at hit; simp [code, hz, hit]
    · simp [dOff, kind, hz] at hit; simp [code, hz, hit]; omega
  | 2, _, _ =>
    by_cases hz : lit = 0
    · simp [dOff, kind, hz] at hit n1; subst hit; simp [code, hz, Ne.symm n1]
    · simp [dOff, kind, hz] at hit n1; subst hit; simp [code, hz, Ne.symm n1]
  | 3, _, _ =>
    by_cases hz : lit = 0
    · simp [dOff, kind, hz] at hit n1 n2; simp [code, hz, Ne.symm n1, Ne.symm n2, hit]
    · simp [dOff, kind, hz] at hit n1 n2; subst hit; simp [code, hz, Ne.symm n1, Ne.symm n2]
theorem code_miss (lit dist r0 r1 r2 : Int) (no : ∀ j : Nat, 1 ≤ j → j < 4 → ¬ dOff j lit r0 r1 r2 = dist) : code lit dist r0 r1 r2 = plus3 dist := by
  have n1 := no 1
  have n2 := no 2
  have n3 := no 3
  clear no
  by_cases hz : lit = 0
  · simp [dOff, kind, hz] at n1 n2 n3; simp [code, hz, Ne.symm n1, Ne.symm n2, Ne.symm n3]
  · simp [dOff, kind, hz] at n1 n2 n3; simp [code, hz, Ne.symm n1, Ne.symm n2, Ne.symm n3]

theorem reps_box (w : World) (r0 r1 r2 : Int) : RepsAt (w.alloc (.cells #[.int .u32 r0, .int .u32 r1, .int .u32 r2] 24)) w.heap.size r0 r1 r2 := by
  constructor <;> simp
theorem ret_int {k : IntKind} {a b : Int} (h : a = b) : Ending.returned (.int k a) = .returned (.int k b) := by rw [h]

set_option maxHeartbeats 400000 in
theorem small_any (lit dist r0 r1 r2 : Int) (w : World) (hl : 0 ≤ lit) (hd : 1 ≤ dist) (hd' : dist ≤ 4294967292) :
    Calls Trym.prog 10 #[.int .u32 lit, .int .u32 dist, .agg #[.int .u32 r0, .int .u32 r1, .int .u32 r2]] w fun e w' =>
      e = .returned (.int .u32 (code lit dist r0 r1 r2)) ∧ w.grownBy w' none := by
  go_enter Trym.func10, Trym.ntmps10
  go_wp2
  go_loopw [7] (fun i wr => ∃ k : Nat, 1 ≤ k ∧ k ≤ 4 ∧ i = .int .u32 k ∧ (∀ j : Nat, 1 ≤ j → j < k → ¬ dOff j lit r0 r1 r2 = dist) ∧ (w.alloc (.cells #[.int .u32 r0, .int .u32 r1, .int .u32 r2] 24)).grownBy wr none) (fun i _ => 4 - (intOf i).toNat)
  case atStart => exact ⟨1, by omega, by omega, rfl, by intro j h1 h2; omega, gb_refl _ _⟩
  case round =>
    obtain ⟨k, h1, h4, rfl, hno, hg⟩ := hrel
    have HN : Hid (∀ j : Nat, 1 ≤ j → j < k → ¬ dOff j lit r0 r1 r2 = dist) := hno
    clear hno
    obtain ⟨c0, c1, c2, _, _, _⟩ := (reps_box w r0 r1 r2).kept hg (by simp)
    have G : w.grownBy wr none := gb_trans (gb_alloc (gb_refl _ _) _) hg
    have hsz : w.heap.size < wr.heap.size := by have := hg.size; simp at this; omega
    by_cases h5 : k = 4
    · subst h5
      go_wp2
      go_ret
      exact ⟨ret_int (by rw [code_miss lit dist r0 r1 r2 HN.out]; unfold plus3; omega), G⟩
    · have hk3 : (k : Int) ≤ 3 := by omega
      by_cases hit : dOff k lit r0 r1 r2 = dist
      · have ht : (dOff k lit r0 r1 r2 == dist) = true := by simp [hit]
        have HT : Hid (dOff k lit r0 r1 r2 = dist) := hit
        clear hit
        go_wp2_with (go_at_call 11; refine (dec_any k lit r0 r1 r2 _ (by omega) (by omega) hl).mono ?_; rintro e w' ⟨rfl, hg'⟩)
        go_ret
        exact ⟨ret_int (code_hit lit dist r0 r1 r2 k hl h1 (by omega) HT.out HN.out).symm, gb_alloc (gb_trans G hg') _⟩
      · have ht : (dOff k lit r0 r1 r2 == dist) = false := by simp [hit]
        have HT : Hid (¬ dOff k lit r0 r1 r2 = dist) := hit
        clear hit
        go_wp2_with (go_at_call 11; refine (dec_any k lit r0 r1 r2 _ (by omega) (by omega) hl).mono ?_; rintro e w' ⟨rfl, hg'⟩)
        go_roundw
        case rel =>
          refine ⟨k + 1, by omega, by omega, by go_num, ?_, gb_alloc (gb_trans hg hg') _⟩
          intro j j1 j2
          by_cases e : j = k
          · subst e; exact HT.out
          · exact HN.out j j1 (by omega)
        case measure => simp [intOf]; omega
end Go.Proofs.Qxb6602441aMods
