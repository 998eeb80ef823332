/-
  nextSequence by one contract; ZZNextSequence (12) by its own.
-/
import Derived.Test.Qxb6602441aModsNext
namespace Go.Proofs.Qxb6602441aMods
open Go.RowKit

theorem next_any (lit len dist r0 r1 r2 : Int) (b : Nat) (w : World) (hl : 0 ≤ lit) (h : RepsAt w b r0 r1 r2) :
    Calls Trym.prog 20 #[.int .u32 lit, .int .u32 len, .int .u32 dist, .pointer (some ⟨b, 0, none⟩)] w (NextPost lit len dist r0 r1 r2 b w) := by
  by_cases hz : lit = 0
  · by_cases h1 : dist = r1
    · exact next_B0 lit len dist r0 r1 r2 b w hz h1 h
    by_cases h2 : dist = r2
    · exact next_C0 lit len dist r0 r1 r2 b w hz h1 h2 h
    by_cases h3 : dist = less1 r0
    · exact next_D lit len dist r0 r1 r2 b w hz h1 h2 h3 h
    · exact next_E0 lit len dist r0 r1 r2 b w hz h1 h2 h3 h
  · have hp : 0 < lit := by omega
    by_cases h0 : dist = r0
    · exact next_A lit len dist r0 r1 r2 b w hp h0 h
    by_cases h1 : dist = r1
    · exact next_B1 lit len dist r0 r1 r2 b w hp h0 h1 h
    by_cases h2 : dist = r2
    · exact next_C1 lit len dist r0 r1 r2 b w hp h0 h1 h2 h
    · exact next_E1 lit len dist r0 r1 r2 b w hp h0 h1 h2 h

set_option maxHeartbeats 400000 in
theorem zz_any (lit len dist r0 r1 r2 : Int) (b : Nat) (w : World) (hl : 0 ≤ lit) (h : RepsAt w b r0 r1 r2) :
    Calls Trym.prog 12 #[.int .u32 lit, .int .u32 len, .int .u32 dist, .pointer (some ⟨b, 0, none⟩)] w fun e w' =>
      e = .returned (.tuple #[.int .u32 lit, .int .u32 len, .int .u32 (code lit dist r0 r1 r2)]) ∧ RepsAt w' b dist (rep1 lit dist r0 r1 r2) (rep2 lit dist r0 r1 r2) ∧ w.grownBy w' (some b) := by
  go_enter Trym.func12, Trym.ntmps12
  go_wp2_with (go_at_call 20; refine (next_any lit len dist r0 r1 r2 b w hl h).mono ?_; rintro e w1 ⟨rfl, hr, hg⟩)
  go_quiet (fail)
  go_wp2
  go_ret3
  have G : w1.grownBy ((w1.alloc (.cells #[.int .u32 lit, .int .u32 len, .int .u32 (code lit dist r0 r1 r2)] 49)).drewN nq) none := gb_drewN (gb_alloc (gb_refl _ _) _) _
  exact ⟨rfl, hr.kept G (by simp), gb_trans hg (gb_weak G)⟩
end Go.Proofs.Qxb6602441aMods
