/-
  FnNextSequenceFrontIsTheDistance (4): the walk.
-/
import Derived.Test.Qxb6602441aModsZz
namespace Go.Proofs.Qxb6602441aMods
open Go.RowKit

theorem front_nil (lit len dist : Int) (w : World) :
    Calls Trym.prog 4 #[.int .u32 lit, .int .u32 len, .int .u32 dist, .pointer none] w fun e w' => e = .returned (.bool true) ∧ Below w.heap.size w w' := by
  go_enter Trym.func4, Trym.ntmps4
  go_wp2
  go_ret
  exact ⟨rfl, Below.refl _ _⟩

/-- What the law lays: a copy of the three offsets, twice. -/
theorem reps_laid (w : World) (r0 r1 r2 : Int) : RepsAt ((w.alloc (.cells #[.int .u32 r0, .int .u32 r1, .int .u32 r2] 24)).alloc (.cells #[.int .u32 r0, .int .u32 r1, .int .u32 r2] 24)) w.heap.size r0 r1 r2 := by
  constructor <;> simp
theorem reps_laid' (w : World) (r0 r1 r2 : Int) : RepsAt ((w.alloc (.cells #[.int .u32 r0, .int .u32 r1, .int .u32 r2] 24)).alloc (.cells #[.int .u32 r0, .int .u32 r1, .int .u32 r2] 24)) (w.heap.size + 1) r0 r1 r2 := by
  constructor <;> simp [go_sem]
theorem rep1_in (lit dist r0 r1 r2 : Int) : rep1 lit dist r0 r1 r2 = r0 ∨ rep1 lit dist r0 r1 r2 = r1 := by
  unfold rep1; split <;> simp
theorem rep2_in (lit dist r0 r1 r2 : Int) : rep2 lit dist r0 r1 r2 = r1 ∨ rep2 lit dist r0 r1 r2 = r2 := by
  unfold rep2; split <;> (try split) <;> simp

set_option maxHeartbeats 400000 in
theorem front_some (lit len dist r0 r1 r2 : Int) (b off : Nat) (w : World) (hl : 0 ≤ lit)
    (c0 : w.cell? ⟨b, off, none⟩ = some (.int .u32 r0)) (c1 : w.cell? ⟨b, off + 1, none⟩ = some (.int .u32 r1)) (c2 : w.cell? ⟨b, off + 2, none⟩ = some (.int .u32 r2)) :
    Calls Trym.prog 4 #[.int .u32 lit, .int .u32 len, .int .u32 dist, .pointer (some ⟨b, off, none⟩)] w fun e w' => e = .returned (.bool true) ∧ Below w.heap.size w w' := by
  have hr1 := rep1_in lit dist r0 r1 r2
  have hr2 := rep2_in lit dist r0 r1 r2
  go_enter Trym.func4, Trym.ntmps4
  go_wp2_with fail
  refine (zz_any lit len dist r0 r1 r2 w.heap.size _ hl (reps_laid w r0 r1 r2)).mono ?_
  rintro e w1 ⟨rfl, hr, hg⟩
  have hb := (reps_laid' w r0 r1 r2).kept hg (by simp)
  have hbel : Below w.heap.size w w1 := (((Below.refl _ _).alloc (Nat.le_refl _) _).alloc (by simp) _).grown hg (by simp; omega) (by simp)
  have hsz : w.heap.size + 1 < w1.heap.size := by have := hg.size; simp at this; omega
  generalize rep1 lit dist r0 r1 r2 = y at hr1 hr
  generalize rep2 lit dist r0 r1 r2 = z at hr2 hr
  obtain ⟨d0, d1, d2, _, _, _⟩ := hr
  obtain ⟨e0, e1, e2, _, _, _⟩ := hb
  clear hg c0 c1 c2 
  have hne : w.heap.size ≠ w1.heap.size := by omega
  have hne' : w.heap.size + 1 ≠ w1.heap.size := by omega
  go_wp2
  go_loop [12] (fun i => ∃ k : Nat, k ≤ 3 ∧ i = .int .i64 k) (fun i => 3 - (intOf i).toNat)
  case atStart => exact ⟨0, by omega, rfl⟩
  case round =>
    obtain ⟨k, hk, rfl⟩ := hrel
    by_cases h3 : k = 3
    · subst h3
      go_wp2
      go_ret
      exact ⟨rfl, hbel.alloc (by omega) _⟩
    have hex : ∃ v, (#[Value.int .u32 dist, .int .u32 y, .int .u32 z] : Array Value)[k]? = some (.int .u32 v) ∧ (v = dist ∨ v = r0 ∨ v = r1 ∨ v = r2) := by
      match k, hk, h3 with
      | 0, _, _ => exact ⟨dist, rfl, .inl rfl⟩
      | 1, _, _ => exact ⟨y, rfl, by omega⟩
      | 2, _, _ => exact ⟨z, rfl, by omega⟩
      | 3, _, h => exact absurd rfl h
    obtain ⟨v, hv, hin⟩ := hex
    have hlt : (k : Int) < 3 := by omega
    have hlt' : k < 3 := by omega
    have hcv : (w1.alloc (.cells #[.int .u32 dist, .int .u32 y, .int .u32 z] 24)).cell? ⟨w1.heap.size, k, none⟩ = some (.int .u32 v) := by rw [World.cell?_alloc_new, hv]
    clear hv hr1 hr2 d0 d1 d2
    by_cases t0 : v = dist
    · subst t0
      go_wp2
      go_round
      case rel => exact ⟨k + 1, by omega, by go_num⟩
      case measure => simp [intOf]; omega
    by_cases t1 : v = r0
    · subst t1
      go_wp2
      go_round
      case rel => exact ⟨k + 1, by omega, by go_num⟩
      case measure => simp [intOf]; omega
    by_cases t2 : v = r1
    · subst t2
      go_wp2
      go_round
      case rel => exact ⟨k + 1, by omega, by go_num⟩
      case measure => simp [intOf]; omega
    have t3 : v = r2 := by omega
    subst t3
    go_wp2
    go_round
    case rel => exact ⟨k + 1, by omega, by go_num⟩
    case measure => simp [intOf]; omega
end Go.Proofs.Qxb6602441aMods
