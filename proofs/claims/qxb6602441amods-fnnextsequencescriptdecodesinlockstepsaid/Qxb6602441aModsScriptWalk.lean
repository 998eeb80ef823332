/-
  FnNextSequenceScriptDecodesInLockstep (5): the walk.
-/
import Derived.Test.Qxb6602441aModsScriptParts
namespace Go.Proofs.Qxb6602441aMods
open Go.RowKit

/-- Too many steps: true at once. -/
theorem script_long (a : Option Addr) (n cap : Nat) (r0 r1 r2 : Int) (w : World) (hn : n ≤ 9223372036854775807) (h : 65536 < n) :
    Calls Trym.prog 5 #[.slice a n cap, .agg #[.int .u32 r0, .int .u32 r1, .int .u32 r2]] w fun e w' => e = .returned (.bool true) ∧ Below w.heap.size w w' := by
  by_cases hb : n ≤ 1048576
  · have hd : decide (n ≤ 1048576) = true := by simp [hb]
    go_enter Trym.func5, Trym.ntmps5
    go_wp2_with (go_at_call 13; refine (bytes_any a n cap r0 r1 r2 _ hn).mono ?_; rintro e w' ⟨rfl, rfl⟩)
    go_ret
    exact ⟨rfl, ((Below.refl _ _).alloc (Nat.le_refl _) _).alloc (by simp) _⟩
  · have hd : decide (n ≤ 1048576) = false := by simpa using hb
    go_enter Trym.func5, Trym.ntmps5
    go_wp2_with (go_at_call 13; refine (bytes_any a n cap r0 r1 r2 _ hn).mono ?_; rintro e w' ⟨rfl, rfl⟩)
    go_ret
    exact ⟨rfl, ((Below.refl _ _).alloc (Nat.le_refl _) _).alloc (by simp) _⟩

theorem reps_two' (w : World) (r0 r1 r2 : Int) : RepsAt ((w.alloc (.cells #[.int .u32 r0, .int .u32 r1, .int .u32 r2] 24)).alloc (.cells #[.int .u32 r0, .int .u32 r1, .int .u32 r2] 24)) w.heap.size r0 r1 r2 ∧
    RepsAt ((w.alloc (.cells #[.int .u32 r0, .int .u32 r1, .int .u32 r2] 24)).alloc (.cells #[.int .u32 r0, .int .u32 r1, .int .u32 r2] 24)) (w.heap.size + 1) r0 r1 r2 := by
  constructor <;> constructor <;> simp [go_sem]

theorem reps_box34 (w : World) (x y z : Int) : RepsAt (w.alloc (.cells #[.int .u32 x, .int .u32 y, .int .u32 z] 34)) w.heap.size x y z := by
  constructor <;> simp

set_option maxHeartbeats 1000000 in
theorem script_some (b off n cap : Nat) (r0 r1 r2 : Int) (w : World) (hn : n ≤ 65536) (hb : b < w.heap.size) (hU : U32s w b off (n * 3)) :
    Calls Trym.prog 5 #[.slice (some ⟨b, off, none⟩) n cap, .agg #[.int .u32 r0, .int .u32 r1, .int .u32 r2]] w fun e w' => e = .returned (.bool true) ∧ Below w.heap.size w w' := by
  have hd : decide (n ≤ 1048576) = true := by simp; omega
  obtain ⟨i0, hi, hz0, hz1, hz2⟩ := info_parts info34
  have HU : Hid (U32s w b off (n * 3)) := hU
  clear hU
  have hne : ∀ w, (binOp .neq 31 (.slice (some ⟨b, off, none⟩) n cap) (.slice none 0 0)).run Trym.prog w = .ok (.bool true) w := fun w => by
    rw [run_neq_slice_nil_any w 31 34 _ _ _ _ _ Trym.underlying31]; rfl
  go_enter Trym.func5, Trym.ntmps5
  go_wp2_with (first
    | (go_at_call 13; refine (bytes_any _ n cap r0 r1 r2 _ (by omega)).mono ?_; rintro e w' ⟨rfl, rfl⟩)
    | (at_make; refine wpList_make_full _ rfl _ _ 31 rfl w.heap.size 34 i0 (.agg #[.int .u32 0, .int .u32 0, .int .u32 0]) 3 Trym.underlying31 hi hz0 hz1 .i64 .i64 _ _ n rfl rfl rfl rfl (by rw [hz2]; omega) (by unfold maxLen; omega) (by simp; omega) ?_; intro w1 hown hg1))
  rw [show ((w.alloc (.cells #[.int .u32 r0, .int .u32 r1, .int .u32 r2] 24)).alloc (.cells #[.int .u32 r0, .int .u32 r1, .int .u32 r2] 24)).heap.size = w.heap.size + 1 + 1 by simp] at hown
  have A := made_u32 hown
  have hsz : w.heap.size + 1 + 1 < w1.heap.size := (hown.lt _ rfl).2
  have hrep : RepsAt w1 w.heap.size r0 r1 r2 := RepsAt.kept (by constructor <;> simp) hg1 (by simp)
  have hbel : Below w.heap.size w w1 := (((Below.refl _ _).alloc (Nat.le_refl _) _).alloc (by simp) _).grown hg1 (by simp; omega) (by simp)
  clear hown hg1 hi hz0 hz1 hz2 hd hne
  go_loopw [6] (fun i wr => ∃ k : Nat, k ≤ n ∧ i = .int .i64 k ∧ U32s wr (w.heap.size + 1 + 1) 0 (n * 3) ∧ Open wr (w.heap.size + 1 + 1) (n * 3) ∧ RepsAt wr w.heap.size r0 r1 r2 ∧ Below w.heap.size w wr ∧ w.heap.size + 1 + 1 < wr.heap.size) (fun i _ => n - (intOf i).toNat)
  case atStart => exact ⟨0, by omega, rfl, A.1, A.2, hrep, hbel, hsz⟩
  case round =>
    obtain ⟨k, hk, rfl, hu, ho, hr, hbel, hsz⟩ := hrel
    by_cases hkn : k = n
    · subst hkn
      obtain ⟨wA, rfl⟩ : ∃ wA, wA = wr := ⟨wr, rfl⟩
      have HU1 : Hid (U32s wA (w.heap.size + 1 + 1) 0 (k * 3)) := hu
      have HB : Hid (Below w.heap.size w wA) := hbel
      obtain ⟨c0, c1, c2, _, _, _⟩ := hr
      clear hu hbel ho A hrep HU
      have hw0 : w.heap.size < wA.heap.size := by omega
      go_wp2
      have L1 := reps_two' wA r0 r1 r2
      have G0 : wA.grownBy ((wA.alloc (.cells #[.int .u32 r0, .int .u32 r1, .int .u32 r2] 24)).alloc (.cells #[.int .u32 r0, .int .u32 r1, .int .u32 r2] 24)) none := gb_alloc (gb_alloc (gb_refl _ _) _) _
      go_loopw [9] (fun i ws => ∃ (m : Nat) (x y z : Int), m ≤ k ∧ i = .int .i64 m ∧ U32s ws (w.heap.size + 1 + 1) 0 (k * 3) ∧ RepsAt ws wA.heap.size x y z ∧ RepsAt ws (wA.heap.size + 1) x y z ∧ Below w.heap.size w ws) (fun i _ => k - (intOf i).toNat)
      case atStart => exact ⟨0, r0, r1, r2, by omega, rfl, HU1.out.kept G0 (by simp), L1.1, L1.2, HB.out.grown G0 (by omega) (by simp)⟩
      case round =>
        clear L1 G0 HU1 HB c0 c1 c2
        obtain ⟨m, x, y, z, hm, rfl, hu, hE, hD, hbel⟩ := hrel
        have HU : Hid (U32s wr (w.heap.size + 1 + 1) 0 (k * 3)) := hu
        have HE : Hid (RepsAt wr wA.heap.size x y z) := hE
        have HD : Hid (RepsAt wr (wA.heap.size + 1) x y z) := hD
        have HB : Hid (Below w.heap.size w wr) := hbel
        have hDlt : wA.heap.size + 1 < wr.heap.size := hD.lt
        by_cases hmk : m = k
        · subst hmk
          clear hu hE hD hbel
          go_wp2
          go_ret
          exact ⟨rfl, HB.out⟩
        have hlt : m < k := by omega
        obtain ⟨lit, len, dist, s0, s1, s2, bx, cy, bz⟩ := hu.three m hlt
        simp only [Nat.zero_add] at s0 s1 s2
        clear hu hE hD hbel
        by_cases hz : dist = 0
        · subst hz
          go_wp2
          have G1 : wr.grownBy (wr.alloc (.cells #[.int .u32 lit, .int .u32 len, .int .u32 0] 34)) none := gb_alloc (gb_refl _ _) _
          go_roundw
          case rel => exact ⟨m + 1, x, y, z, by omega, by go_num, HU.out.kept G1 (by simp), HE.out.kept G1 (by simp), HD.out.kept G1 (by simp), HB.out.grown G1 (by omega) (by simp)⟩
          case measure => simp [intOf]; omega
        have hzb : (dist == 0) = false := by simpa using hz
        by_cases hf : 4294967292 < dist
        · go_wp2
          have G1 : wr.grownBy (wr.alloc (.cells #[.int .u32 lit, .int .u32 len, .int .u32 dist] 34)) none := gb_alloc (gb_refl _ _) _
          go_roundw
          case rel => exact ⟨m + 1, x, y, z, by omega, by go_num, HU.out.kept G1 (by simp), HE.out.kept G1 (by simp), HD.out.kept G1 (by simp), HB.out.grown G1 (by omega) (by simp)⟩
          case measure => simp [intOf]; omega
        have q := code_bd lit dist x y z (by omega) (by omega)
        have P : Hid (dOff (code lit dist x y z) lit x y z = dist ∧ dB (code lit dist x y z) lit x y z = rep1 lit dist x y z ∧ dC (code lit dist x y z) lit x y z = rep2 lit dist x y z) := dec_code lit dist x y z (by omega) (by omega) (by omega)
        have G1 : wr.grownBy (wr.alloc (.cells #[.int .u32 lit, .int .u32 len, .int .u32 dist] 34)) none := gb_alloc (gb_refl _ _) _
        have HG1 : Hid (wr.grownBy (wr.alloc (.cells #[.int .u32 lit, .int .u32 len, .int .u32 dist] 34)) none) := G1
        clear G1
        go_wp2_with fail
        refine (zz_any lit len dist x y z wA.heap.size _ (by omega) (HE.out.kept HG1.out (by simp))).mono ?_
        rintro e w2 ⟨rfl, e2, g2⟩
        have u2 : U32s w2 (w.heap.size + 1 + 1) 0 (k * 3) := (HU.out.kept HG1.out (by simp)).kept g2 (by simp; omega)
        have d2 : RepsAt w2 (wA.heap.size + 1) x y z := (HD.out.kept HG1.out (by simp)).kept g2 (by simp)
        have b2 : Below w.heap.size w w2 := (HB.out.grown HG1.out (by omega) (by simp)).grown g2 (by simp; omega) (by simp; omega)
        have z2 : wr.heap.size < w2.heap.size := by have := g2.size; simp at this; omega
        have st : RepsAt w2 wr.heap.size lit len dist := (reps_box34 wr lit len dist).kept g2 (by simp; omega)
        clear s0 s1 s2 HU HE HD HB HG1 g2
        have HU2 : Hid (U32s w2 (w.heap.size + 1 + 1) 0 (k * 3)) := u2
        have HD2 : Hid (RepsAt w2 (wA.heap.size + 1) x y z) := d2
        have HE2 : Hid (RepsAt w2 wA.heap.size dist (rep1 lit dist x y z) (rep2 lit dist x y z)) := e2
        have HB2 : Hid (Below w.heap.size w w2) := b2
        have HS2 : Hid (RepsAt w2 wr.heap.size lit len dist) := st
        clear u2 b2
        obtain ⟨c0, c1, c2, _, _, _⟩ := st
        obtain ⟨d0, d1, d2, _, _, _⟩ := d2
        clear e2
        go_wp2_with fail
        clear c0 c1 c2 d0 d1 d2
        refine (dec_any (code lit dist x y z) lit x y z _ q.1 q.2 (by omega)).mono ?_
        rintro e w3 ⟨rfl, g3⟩
        obtain ⟨p1, p2, p3⟩ := P.out
        rw [p1, p2, p3]
        clear P p1 p2 p3 q
        have HU3 : Hid (U32s w3 (w.heap.size + 1 + 1) 0 (k * 3)) := HU2.out.kept g3 (by simp)
        have HB3 : Hid (Below w.heap.size w w3) := HB2.out.grown g3 (by omega) (by simp)
        have e3 : RepsAt w3 wA.heap.size dist (rep1 lit dist x y z) (rep2 lit dist x y z) := HE2.out.kept g3 (by simp)
        have d3 : RepsAt w3 (wA.heap.size + 1) x y z := HD2.out.kept g3 (by simp)
        have st3 : RepsAt w3 wr.heap.size lit len dist := HS2.out.kept g3 (by simp)
        have z3 : wr.heap.size < w3.heap.size := by have := g3.size; omega
        clear HU2 HB2 HE2 HD2 HS2 g3
        generalize rep1 lit dist x y z = y' at e3 ⊢
        generalize rep2 lit dist x y z = z' at e3 ⊢
        generalize code lit dist x y z = cd
        have HE3 : Hid (RepsAt w3 wA.heap.size dist y' z') := e3
        have HD3 : Hid (RepsAt w3 (wA.heap.size + 1) x y z) := d3
        obtain ⟨_, _, c2, _, _, _⟩ := st3
        obtain ⟨d0, d1, d2, f0, f1, f2⟩ := d3
        obtain ⟨e0, e1, e2, _, _, _⟩ := e3
        have hq := eq24 dist y' z'
        have z4 : wA.heap.size < w3.heap.size := by omega
        have z5 : wA.heap.size + 1 < w3.heap.size := by omega
        go_wp2
        obtain ⟨K, G⟩ := HD3.out.set dist y' z'
        have G4 : (setReps w3 (wA.heap.size + 1) dist y' z').grownBy ((setReps w3 (wA.heap.size + 1) dist y' z').alloc (.cells #[.int .u32 dist, .int .u32 y', .int .u32 z'] 24)) none := gb_alloc (gb_refl _ _) _
        have GG := gb_trans G (gb_weak G4)
        go_roundw
        case rel => exact ⟨m + 1, dist, y', z', by omega, by go_num, HU3.out.kept GG (by simp; omega), HE3.out.kept GG (by simp), K.kept G4 (by simp), HB3.out.grown GG (by omega) (by simp; omega)⟩
        case measure => simp [intOf]; omega
    · have hlt : k < n := by omega
      have HU1 : Hid (U32s wr (w.heap.size + 1 + 1) 0 (n * 3)) := hu
      have HO1 : Hid (Open wr (w.heap.size + 1 + 1) (n * 3)) := ho
      have HR : Hid (RepsAt wr w.heap.size r0 r1 r2) := hr
      have HB : Hid (Below w.heap.size w wr) := hbel
      obtain ⟨x, y, z, s0, s1, s2, bx, by', bz⟩ := (HU.out.below hbel hb).three k hlt
      obtain ⟨_, _, _, t0, t1, t2, _, _, _⟩ := hu.three k hlt
      simp only [Nat.zero_add] at t0 t1 t2
      have f0 := ho (k * 3) (by omega)
      have f1 := ho (k * 3 + 1) (by omega)
      have f2 := ho (k * 3 + 2) (by omega)
      clear hu ho hr hbel
      go_wp2
      have G := gb_setCell (gb_setCell (gb_setCell (gb_refl wr (some (w.heap.size + 1 + 1))) (k * 3) none (.int .u32 x)) (k * 3 + 1) none (.int .u32 y)) (k * 3 + 2) none (.int .u32 z)
      go_roundw
      case rel => exact ⟨k + 1, by omega, by go_num, HU1.out.stored k hlt x y z bx by' bz, ((HO1.out.stored _ _).stored _ _).stored _ _, HR.out.kept G (by simp; omega), HB.out.grown G (by omega) (by simp; omega), by have := G.size; omega⟩
      case measure => simp [intOf]; omega

/-- A nil list of steps. -/
theorem script_nil (r0 r1 r2 : Int) (w : World) :
    Calls Trym.prog 5 #[.slice none 0 0, .agg #[.int .u32 r0, .int .u32 r1, .int .u32 r2]] w fun e w' => e = .returned (.bool true) ∧ Below w.heap.size w w' := by
  have hne : ∀ w, (binOp .neq 31 (.slice none 0 0) (.slice none 0 0)).run Trym.prog w = .ok (.bool false) w := fun w => by
    rw [run_neq_slice_nil_any w 31 34 _ _ _ _ _ Trym.underlying31]; rfl
  have hd : decide (0 ≤ 1048576) = true := by simp
  go_enter Trym.func5, Trym.ntmps5
  go_wp2_with (go_at_call 13; refine (bytes_any none 0 0 r0 r1 r2 _ (by omega)).mono ?_; rintro e w' ⟨rfl, rfl⟩)
  go_loop [9] (fun i => i = .int .i64 0) (fun _ => 0)
  case atStart => rfl
  case round =>
    subst hrel
    go_wp2
    go_ret
    exact ⟨rfl, ((((Below.refl _ _).alloc (Nat.le_refl _) _).alloc (by simp) _).alloc (by simp; omega) _).alloc (by simp; omega) _⟩

set_option maxHeartbeats 400000 in
/-- An empty list that is not nil, wherever it lies. -/
theorem script_empty (a : Addr) (cap : Nat) (r0 r1 r2 : Int) (w : World) :
    Calls Trym.prog 5 #[.slice (some a) 0 cap, .agg #[.int .u32 r0, .int .u32 r1, .int .u32 r2]] w fun e w' => e = .returned (.bool true) ∧ Below w.heap.size w w' := by
  have hne : ∀ w, (binOp .neq 31 (.slice (some a) 0 cap) (.slice none 0 0)).run Trym.prog w = .ok (.bool true) w := fun w => by
    rw [run_neq_slice_nil_any w 31 34 _ _ _ _ _ Trym.underlying31]; rfl
  have hd : decide (0 ≤ 1048576) = true := by simp
  obtain ⟨i0, hi, hz0, hz1, hz2⟩ := info_parts info34
  go_enter Trym.func5, Trym.ntmps5
  go_wp2_with (first
    | (go_at_call 13; refine (bytes_any (some a) 0 cap r0 r1 r2 _ (by omega)).mono ?_; rintro e w' ⟨rfl, rfl⟩)
    | (at_make; refine wpList_make_full _ rfl _ _ 31 rfl w.heap.size 34 i0 (.agg #[.int .u32 0, .int .u32 0, .int .u32 0]) 3 Trym.underlying31 hi hz0 hz1 .i64 .i64 _ _ 0 rfl rfl rfl rfl (by rw [hz2]; omega) (by unfold maxLen; omega) (by simp; omega) ?_; intro w1 hown hg1))
  have hsz : w.heap.size + 1 < w1.heap.size := by have := hg1.size; simp at this; omega
  have hrep : RepsAt w1 w.heap.size r0 r1 r2 := RepsAt.kept (by constructor <;> simp) hg1 (by simp)
  have HB : Hid (Below w.heap.size w w1) := (((Below.refl _ _).alloc (Nat.le_refl _) _).alloc (by simp) _).grown hg1 (by simp; omega) (by simp)
  clear hown hg1 hi hz0 hz1 hz2 hd hne
  obtain ⟨c0, c1, c2, _, _, _⟩ := hrep
  have hw0 : w.heap.size < w1.heap.size := by omega
  go_loop [6] (fun i => i = .int .i64 0) (fun _ => 0)
  case atStart => rfl
  case round =>
    subst hrel
    go_wp2
    go_loop [9] (fun i => i = .int .i64 0) (fun _ => 0)
    case atStart => rfl
    case round =>
      subst hrel
      go_wp2
      go_ret
      exact ⟨rfl, (HB.out.alloc (by omega) _).alloc (by simp; omega) _⟩
end Go.Proofs.Qxb6602441aMods
