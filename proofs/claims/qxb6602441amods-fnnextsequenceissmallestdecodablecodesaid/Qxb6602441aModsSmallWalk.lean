/-
  FnNextSequenceIsSmallestDecodableCode (3): the walk.
-/
import Derived.Test.Qxb6602441aModsZz
import Derived.Test.Qxb6602441aModsSmall
import Derived.Test.Qxb6602441aModsEqArr
namespace Go.Proofs.Qxb6602441aMods
open Go.RowKit

theorem below_drewN' {B : Nat} {a w : World} (h : Below B a w) (n : Nat) : Below B a (w.drewN n) := ⟨h.os, h.tape, h.output, h.size, h.block⟩
theorem smallest_nil (lit len dist : Int) (w : World) :
    Calls Trym.prog 3 #[.int .u32 lit, .int .u32 len, .int .u32 dist, .pointer none] w fun e w' => e = .returned (.bool true) ∧ Below w.heap.size w w' := by
  go_enter Trym.func3, Trym.ntmps3
  go_wp2
  go_ret
  exact ⟨rfl, Below.refl _ _⟩
theorem smallest_zero (lit len : Int) (b off : Nat) (w : World) :
    Calls Trym.prog 3 #[.int .u32 lit, .int .u32 len, .int .u32 0, .pointer (some ⟨b, off, none⟩)] w fun e w' => e = .returned (.bool true) ∧ Below w.heap.size w w' := by
  go_enter Trym.func3, Trym.ntmps3
  go_wp2
  go_ret
  exact ⟨rfl, Below.refl _ _⟩
theorem smallest_far (lit len dist : Int) (b off : Nat) (w : World) (h : 4294967292 < dist) :
    Calls Trym.prog 3 #[.int .u32 lit, .int .u32 len, .int .u32 dist, .pointer (some ⟨b, off, none⟩)] w fun e w' => e = .returned (.bool true) ∧ Below w.heap.size w w' := by
  have hz : (dist == 0) = false := by simp; omega
  go_enter Trym.func3, Trym.ntmps3
  go_wp2
  go_ret
  exact ⟨rfl, Below.refl _ _⟩

theorem reps_two (w : World) (r0 r1 r2 : Int) : RepsAt ((w.alloc (.cells #[.int .u32 r0, .int .u32 r1, .int .u32 r2] 24)).alloc (.cells #[.int .u32 r0, .int .u32 r1, .int .u32 r2] 24)) w.heap.size r0 r1 r2 ∧
    RepsAt ((w.alloc (.cells #[.int .u32 r0, .int .u32 r1, .int .u32 r2] 24)).alloc (.cells #[.int .u32 r0, .int .u32 r1, .int .u32 r2] 24)) (w.heap.size + 1) r0 r1 r2 := by
  constructor <;> constructor <;> simp [go_sem]

set_option maxHeartbeats 400000 in
theorem smallest_some (lit len dist r0 r1 r2 : Int) (b off : Nat) (w : World) (hl : 0 ≤ lit) (hd : 1 ≤ dist) (hd' : dist ≤ 4294967292)
    (c0 : w.cell? ⟨b, off, none⟩ = some (.int .u32 r0)) (c1 : w.cell? ⟨b, off + 1, none⟩ = some (.int .u32 r1)) (c2 : w.cell? ⟨b, off + 2, none⟩ = some (.int .u32 r2)) :
    Calls Trym.prog 3 #[.int .u32 lit, .int .u32 len, .int .u32 dist, .pointer (some ⟨b, off, none⟩)] w fun e w' => e = .returned (.bool true) ∧ Below w.heap.size w w' := by
  have hz : (dist == 0) = false := by simp; omega
  obtain ⟨q1, q2⟩ := code_bd lit dist r0 r1 r2 hd hd'
  obtain ⟨p1, p2, p3⟩ := dec_code lit dist r0 r1 r2 hl hd hd'
  have P : Hid (dOff (code lit dist r0 r1 r2) lit r0 r1 r2 = dist ∧ dB (code lit dist r0 r1 r2) lit r0 r1 r2 = rep1 lit dist r0 r1 r2 ∧ dC (code lit dist r0 r1 r2) lit r0 r1 r2 = rep2 lit dist r0 r1 r2) := ⟨p1, p2, p3⟩
  clear p1 p2 p3
  go_enter Trym.func3, Trym.ntmps3
  go_wp2_with fail
  clear c0 c1 c2
  refine (small_any lit dist r0 r1 r2 _ hl hd hd').mono ?_
  rintro e w1 ⟨rfl, hg1⟩
  obtain ⟨k1, k2⟩ := reps_two w r0 r1 r2
  have bel : Below w.heap.size w w1 := (((Below.refl _ _).alloc (Nat.le_refl _) _).alloc (by simp) _).grown hg1 (by simp; omega) (by simp)
  replace k1 := k1.kept hg1 (by simp)
  replace k2 := k2.kept hg1 (by simp)
  have HB : Hid (Below w.heap.size w w1) := bel
  have sz : w.heap.size + 1 < w1.heap.size := by have := hg1.size; simp at this; omega
  have K1 : Hid (RepsAt w1 w.heap.size r0 r1 r2) := k1
  clear bel hg1 k1
  obtain ⟨c0, c1, c2, _, _, _⟩ := k2
  go_wp2_with fail
  clear c0 c1 c2
  refine (dec_any (code lit dist r0 r1 r2) lit r0 r1 r2 _ q1 q2 hl).mono ?_
  rintro e w2 ⟨rfl, hg2⟩
  obtain ⟨p1, p2, p3⟩ := P.out
  rw [p1, p2, p3]
  clear P p1 p2 p3
  have HB2 : Hid (Below w.heap.size w w2) := HB.out.grown hg2 (by omega) (by simp)
  have K2 : Hid (RepsAt w2 w.heap.size r0 r1 r2) := K1.out.kept hg2 (by simp)
  have sz2 : w.heap.size + 1 < w2.heap.size := by have := hg2.size; omega
  clear hg2 HB K1 sz
  go_wp2_with fail
  have k3 : RepsAt (w2.alloc (.cells #[.int .u32 dist, .int .u32 (rep1 lit dist r0 r1 r2), .int .u32 (rep2 lit dist r0 r1 r2)] 24)) w.heap.size r0 r1 r2 := K2.out.kept (gb_alloc (gb_refl _ none) _) (by simp)
  have k4 := reps_box w2 dist (rep1 lit dist r0 r1 r2) (rep2 lit dist r0 r1 r2)
  have bel3 : Below w.heap.size w (w2.alloc (.cells #[.int .u32 dist, .int .u32 (rep1 lit dist r0 r1 r2), .int .u32 (rep2 lit dist r0 r1 r2)] 24)) := HB2.out.alloc (by omega) _
  refine (zz_any lit len dist r0 r1 r2 w.heap.size _ hl k3).mono ?_
  rintro e w3 ⟨rfl, k5, hg3⟩
  replace k4 := k4.kept hg3 (by simp; omega)
  have HB3 : Hid (Below w.heap.size w w3) := bel3.grown hg3 (by simp; omega) (by simp)
  clear hg3 bel3 k3 K2 HB2 q1 q2
  generalize rep1 lit dist r0 r1 r2 = y at k4 k5 ⊢
  generalize rep2 lit dist r0 r1 r2 = z at k4 k5 ⊢
  generalize code lit dist r0 r1 r2 = cd
  obtain ⟨c0, c1, c2, _, _, _⟩ := k4
  obtain ⟨d0, d1, d2, _, _, _⟩ := k5
  have hq := eq24 dist y z
  go_wp2
  go_quiet (fail)
  go_wp2
  go_ret
  exact ⟨rfl, below_drewN' HB3.out nq⟩
end Go.Proofs.Qxb6602441aMods
