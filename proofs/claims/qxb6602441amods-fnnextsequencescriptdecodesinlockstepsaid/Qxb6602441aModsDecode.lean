/-
  zzDecode (11): its contract at every Offset_Value that is not 0.
-/
import Derived.Test.Qxb6602441aModsNext
import Derived.RegionTactic
import Derived.ChangeAlike
namespace Go.Proofs.Qxb6602441aMods
open Go.RowKit
set_option linter.unusedSimpArgs false

/-- What zzDecode picks: 0, 1, 2: a repeated offset; 3: the first less one; 4: a new distance. -/
def kind (ov lit : Int) : Int := if 3 < ov then 4 else if lit = 0 then ov else ov - 1
def dOff (ov lit r0 r1 r2 : Int) : Int := if kind ov lit = 0 then r0 else if kind ov lit = 1 then r1 else if kind ov lit = 2 then r2 else if kind ov lit = 3 then less1 r0 else ov - 3
def dB (ov lit r0 r1 _r2 : Int) : Int := if kind ov lit = 0 then r1 else r0
def dC (ov lit _r0 r1 r2 : Int) : Int := if kind ov lit = 0 then r2 else if kind ov lit = 1 then r2 else r1

def DecPost (ov lit r0 r1 r2 : Int) (w : World) (e : Ending) (w' : World) : Prop :=
  e = .returned (.tuple #[.int .u32 (dOff ov lit r0 r1 r2), .agg #[.int .u32 (dOff ov lit r0 r1 r2), .int .u32 (dB ov lit r0 r1 r2), .int .u32 (dC ov lit r0 r1 r2)]]) ∧ w.grownBy w' none


set_option maxHeartbeats 400000 in
theorem dec_4 (ov lit r0 r1 r2 : Int) (w : World) (h : 3 < ov) (h' : ov ≤ 4294967295) :
    Calls Trym.prog 11 #[.int .u32 ov, .int .u32 lit, .agg #[.int .u32 r0, .int .u32 r1, .int .u32 r2]] w (DecPost ov lit r0 r1 r2 w) := by
  have e0 : dOff ov lit r0 r1 r2 = (ov - 3) := by simp [dOff, kind, h]
  have e1 : dB ov lit r0 r1 r2 = r0 := by simp [dB, kind, h]
  have e2 : dC ov lit r0 r1 r2 = r1 := by simp [dC, kind, h]
  unfold DecPost
  rw [e0, e1, e2]
  clear e0 e1 e2
  have hz : (ov == 0) = false := by simp; omega
  go_enter Trym.func11, Trym.ntmps11
  go_wp2
  go_region
  all_goals go_wp2
  all_goals exact bodyPost_ret (v := .tuple #[.int .u32 (ov - 3), .agg #[.int .u32 (ov - 3), .int .u32 r0, .int .u32 r1]]) (by simp [results, Trym.results11, go_sem]) rfl ⟨rfl, gb_drew (gb_alloc (gb_alloc (gb_refl _ _) _) _)⟩

set_option maxHeartbeats 400000 in
theorem dec_z1 (ov lit r0 r1 r2 : Int) (w : World) (h : ov = 1) (hl : lit = 0) :
    Calls Trym.prog 11 #[.int .u32 ov, .int .u32 lit, .agg #[.int .u32 r0, .int .u32 r1, .int .u32 r2]] w (DecPost ov lit r0 r1 r2 w) := by
  have e0 : dOff ov lit r0 r1 r2 = r1 := by simp [dOff, kind, h, hl]
  have e1 : dB ov lit r0 r1 r2 = r0 := by simp [dB, kind, h, hl]
  have e2 : dC ov lit r0 r1 r2 = r2 := by simp [dC, kind, h, hl]
  unfold DecPost
  rw [e0, e1, e2]
  clear e0 e1 e2
  subst h
  subst hl
  go_enter Trym.func11, Trym.ntmps11
  go_wp2
  go_region
  all_goals go_wp2
  all_goals exact bodyPost_ret (v := .tuple #[.int .u32 r1, .agg #[.int .u32 r1, .int .u32 r0, .int .u32 r2]]) (by simp [results, Trym.results11, go_sem]) rfl ⟨rfl, gb_drew (gb_alloc (gb_alloc (gb_refl _ _) _) _)⟩

set_option maxHeartbeats 400000 in
theorem dec_p1 (ov lit r0 r1 r2 : Int) (w : World) (h : ov = 1) (hl : 0 < lit) :
    Calls Trym.prog 11 #[.int .u32 ov, .int .u32 lit, .agg #[.int .u32 r0, .int .u32 r1, .int .u32 r2]] w (DecPost ov lit r0 r1 r2 w) := by
  have e0 : dOff ov lit r0 r1 r2 = r0 := by simp [dOff, kind, h, Int.ne_of_gt hl]
  have e1 : dB ov lit r0 r1 r2 = r1 := by simp [dB, kind, h, Int.ne_of_gt hl]
  have e2 : dC ov lit r0 r1 r2 = r2 := by simp [dC, kind, h, Int.ne_of_gt hl]
  unfold DecPost
  rw [e0, e1, e2]
  clear e0 e1 e2
  subst h
  have hl0 : (lit == 0) = false := by simp; omega
  go_enter Trym.func11, Trym.ntmps11
  go_wp2
  go_region
  all_goals go_wp2
  all_goals exact bodyPost_ret (v := .tuple #[.int .u32 r0, .agg #[.int .u32 r0, .int .u32 r1, .int .u32 r2]]) (by simp [results, Trym.results11, go_sem]) rfl ⟨rfl, gb_drew (gb_alloc (gb_alloc (gb_refl _ _) _) _)⟩

set_option maxHeartbeats 400000 in
theorem dec_z2 (ov lit r0 r1 r2 : Int) (w : World) (h : ov = 2) (hl : lit = 0) :
    Calls Trym.prog 11 #[.int .u32 ov, .int .u32 lit, .agg #[.int .u32 r0, .int .u32 r1, .int .u32 r2]] w (DecPost ov lit r0 r1 r2 w) := by
  have e0 : dOff ov lit r0 r1 r2 = r2 := by simp [dOff, kind, h, hl]
  have e1 : dB ov lit r0 r1 r2 = r0 := by simp [dB, kind, h, hl]
  have e2 : dC ov lit r0 r1 r2 = r1 := by simp [dC, kind, h, hl]
  unfold DecPost
  rw [e0, e1, e2]
  clear e0 e1 e2
  subst h
  subst hl
  go_enter Trym.func11, Trym.ntmps11
  go_wp2
  go_region
  all_goals go_wp2
  all_goals exact bodyPost_ret (v := .tuple #[.int .u32 r2, .agg #[.int .u32 r2, .int .u32 r0, .int .u32 r1]]) (by simp [results, Trym.results11, go_sem]) rfl ⟨rfl, gb_drew (gb_alloc (gb_alloc (gb_refl _ _) _) _)⟩

set_option maxHeartbeats 400000 in
theorem dec_p2 (ov lit r0 r1 r2 : Int) (w : World) (h : ov = 2) (hl : 0 < lit) :
    Calls Trym.prog 11 #[.int .u32 ov, .int .u32 lit, .agg #[.int .u32 r0, .int .u32 r1, .int .u32 r2]] w (DecPost ov lit r0 r1 r2 w) := by
  have e0 : dOff ov lit r0 r1 r2 = r1 := by simp [dOff, kind, h, Int.ne_of_gt hl]
  have e1 : dB ov lit r0 r1 r2 = r0 := by simp [dB, kind, h, Int.ne_of_gt hl]
  have e2 : dC ov lit r0 r1 r2 = r2 := by simp [dC, kind, h, Int.ne_of_gt hl]
  unfold DecPost
  rw [e0, e1, e2]
  clear e0 e1 e2
  subst h
  have hl0 : (lit == 0) = false := by simp; omega
  go_enter Trym.func11, Trym.ntmps11
  go_wp2
  go_region
  all_goals go_wp2
  all_goals exact bodyPost_ret (v := .tuple #[.int .u32 r1, .agg #[.int .u32 r1, .int .u32 r0, .int .u32 r2]]) (by simp [results, Trym.results11, go_sem]) rfl ⟨rfl, gb_drew (gb_alloc (gb_alloc (gb_refl _ _) _) _)⟩

set_option maxHeartbeats 400000 in
theorem dec_z3 (ov lit r0 r1 r2 : Int) (w : World) (h : ov = 3) (hl : lit = 0) :
    Calls Trym.prog 11 #[.int .u32 ov, .int .u32 lit, .agg #[.int .u32 r0, .int .u32 r1, .int .u32 r2]] w (DecPost ov lit r0 r1 r2 w) := by
  have e0 : dOff ov lit r0 r1 r2 = less1 r0 := by simp [dOff, kind, h, hl]
  have e1 : dB ov lit r0 r1 r2 = r0 := by simp [dB, kind, h, hl]
  have e2 : dC ov lit r0 r1 r2 = r1 := by simp [dC, kind, h, hl]
  unfold DecPost
  rw [e0, e1, e2]
  clear e0 e1 e2
  subst h
  subst hl
  go_enter Trym.func11, Trym.ntmps11
  go_wp2
  go_region
  all_goals go_wp2
  all_goals exact bodyPost_ret (v := .tuple #[.int .u32 ((r0 - 1) % 4294967296), .agg #[.int .u32 ((r0 - 1) % 4294967296), .int .u32 r0, .int .u32 r1]]) (by simp [results, Trym.results11, go_sem]) rfl ⟨rfl, gb_drew (gb_alloc (gb_alloc (gb_refl _ _) _) _)⟩

set_option maxHeartbeats 400000 in
theorem dec_p3 (ov lit r0 r1 r2 : Int) (w : World) (h : ov = 3) (hl : 0 < lit) :
    Calls Trym.prog 11 #[.int .u32 ov, .int .u32 lit, .agg #[.int .u32 r0, .int .u32 r1, .int .u32 r2]] w (DecPost ov lit r0 r1 r2 w) := by
  have e0 : dOff ov lit r0 r1 r2 = r2 := by simp [dOff, kind, h, Int.ne_of_gt hl]
  have e1 : dB ov lit r0 r1 r2 = r0 := by simp [dB, kind, h, Int.ne_of_gt hl]
  have e2 : dC ov lit r0 r1 r2 = r1 := by simp [dC, kind, h, Int.ne_of_gt hl]
  unfold DecPost
  rw [e0, e1, e2]
  clear e0 e1 e2
  subst h
  have hl0 : (lit == 0) = false := by simp; omega
  go_enter Trym.func11, Trym.ntmps11
  go_wp2
  go_region
  all_goals go_wp2
  all_goals exact bodyPost_ret (v := .tuple #[.int .u32 r2, .agg #[.int .u32 r2, .int .u32 r0, .int .u32 r1]]) (by simp [results, Trym.results11, go_sem]) rfl ⟨rfl, gb_drew (gb_alloc (gb_alloc (gb_refl _ _) _) _)⟩

theorem dec_any (ov lit r0 r1 r2 : Int) (w : World) (h : 1 ≤ ov) (h' : ov ≤ 4294967295) (hl : 0 ≤ lit) :
    Calls Trym.prog 11 #[.int .u32 ov, .int .u32 lit, .agg #[.int .u32 r0, .int .u32 r1, .int .u32 r2]] w (DecPost ov lit r0 r1 r2 w) := by
  by_cases h4 : 3 < ov
  · exact dec_4 ov lit r0 r1 r2 w h4 h'
  by_cases hz : lit = 0
  · by_cases h1 : ov = 1
    · exact dec_z1 ov lit r0 r1 r2 w h1 hz
    by_cases h2 : ov = 2
    · exact dec_z2 ov lit r0 r1 r2 w h2 hz
    · exact dec_z3 ov lit r0 r1 r2 w (by omega) hz
  · by_cases h1 : ov = 1
    · exact dec_p1 ov lit r0 r1 r2 w h1 (by omega)
    by_cases h2 : ov = 2
    · exact dec_p2 ov lit r0 r1 r2 w h2 (by omega)
    · exact dec_p3 ov lit r0 r1 r2 w (by omega) (by omega)

/-! ### The plain laws -/
theorem code_bd (lit dist r0 r1 r2 : Int) (hd : 1 ≤ dist) (hd' : dist ≤ 4294967292) : 1 ≤ code lit dist r0 r1 r2 ∧ code lit dist r0 r1 r2 ≤ 4294967295 := by
  unfold code plus3
  repeat' split
  all_goals omega
theorem dec_code (lit dist r0 r1 r2 : Int) (hl : 0 ≤ lit) (hd : 1 ≤ dist) (hd' : dist ≤ 4294967292) :
    dOff (code lit dist r0 r1 r2) lit r0 r1 r2 = dist ∧ dB (code lit dist r0 r1 r2) lit r0 r1 r2 = rep1 lit dist r0 r1 r2 ∧ dC (code lit dist r0 r1 r2) lit r0 r1 r2 = rep2 lit dist r0 r1 r2 := by
  have hp : plus3 dist = dist + 3 := by unfold plus3; omega
  have g3 : (3 : Int) < dist + 3 := by omega
  by_cases hz : lit = 0
  · subst hz
    by_cases h1 : dist = r1
    · simp [code, dOff, dB, dC, kind, rep1, rep2, h1]
    by_cases h2 : dist = r2
    · subst h2; simp [code, dOff, dB, dC, kind, rep1, rep2, h1]
    by_cases h3 : dist = less1 r0
    · simp [code, dOff, dB, dC, kind, rep1, rep2, h1, h2, ← h3]
    · simp [code, dOff, dB, dC, kind, rep1, rep2, h1, h2, h3, hp, g3]
  · have hpos : 0 < lit := by omega
    by_cases h0 : dist = r0
    · simp [code, dOff, dB, dC, kind, rep1, rep2, h0, hpos, hz]
    by_cases h1 : dist = r1
    · subst h1; simp [code, dOff, dB, dC, kind, rep1, rep2, h0, hz]
    by_cases h2 : dist = r2
    · subst h2; simp [code, dOff, dB, dC, kind, rep1, rep2, h0, h1, hz]
    · simp [code, dOff, dB, dC, kind, rep1, rep2, h0, h1, h2, hp, g3, hz]
end Go.Proofs.Qxb6602441aMods
