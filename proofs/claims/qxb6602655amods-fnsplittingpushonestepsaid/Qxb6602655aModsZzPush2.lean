/-
  (*splitting).push (34) by one contract; ZZPush (22).
-/
import Derived.Test.Qxb6602655aModsPushFree2
namespace Go.Proofs.Qxb6602655aMods
open Go.RowKit
set_option linter.unusedSimpArgs false

set_option maxHeartbeats 1000000 in
theorem push_free1 (base q ft wt M N t : Nat) (V : Nat → Value) (pools : Nat → List E) (cf : Nat → Int) (r f m d s : Int) (w : World) (S : Q w base q ft wt M N V pools cf r) (ht : t < N) (hM : t < M) (hs : s ≤ 127) (hl : (pools 0).length ≤ 1048576) (hw : wts t s = false) (hzb : (cf t == 0) = false) :
    Calls Trym.prog 34 #[.pointer (some ⟨q, 0, none⟩), .agg #[.int .i64 f, .int .i64 t, .int .i64 m, .int .i64 d, .int .i8 s]] w fun res w' => res = .returned (.tuple #[]) ∧
      ∃ v, Q w' base q ft wt M N (upd V 0 v) (upd pools 0 (pools 0 ++ [⟨f, t, m, d, s⟩])) (upd cf t (wrap64 (cf t + 1))) r ∧ Below base w w' := by
  have HS : Hid (Q w base q ft wt M N V pools cf r) := S
  obtain ⟨cft, hq1⟩ := S.c1
  obtain ⟨cw, hq2⟩ := S.c2
  have hr := S.c3
  have hrf := S.f3
  obtain ⟨hn, hnf⟩ := S.nums t hM
  have lq := S.lq
  have lwt := S.lwt
  have lft := S.lft
  have lb := S.lbase
  have lq1 : q < w.heap.size + 1 := by omega
  have lft1 : ft < w.heap.size + 1 := by omega
  have lwt1 : wt < w.heap.size + 1 := by omega
  have i1 : (0 : Int) ≤ (t : Int) := by omega
  have i2 : (t : Int) < (N : Int) := by omega
  have i3 : (t : Int) < (M : Int) := by omega
  have dqf : q ≠ ft := S.d1
  have dfw : ft ≠ wt := S.d3
  clear S
  go_enter Trym.func34, Trym.ntmps34
  go_wp2_with (go_at_call 37; refine (waits_no _ f t m d s _ i1 hs hw).mono ?_; rintro e w' ⟨rfl, rfl⟩)
  go_quiet (fail)
  go_wp2
  go_region
  all_goals go_wp2
  have S3 := ((HS.out.kept (gb_drewN (gb_alloc (gb_alloc (gb_refl _ none) (.cells #[.int .i64 f, .int .i64 t, .int .i64 m, .int .i64 d, .int .i8 s] 67)) (.cells #[.int .i64 f, .int .i64 t, .int .i64 m, .int .i64 d, .int .i8 s] 67)) (nq + 1))).setN t hM (wrap64 (cf t + 1))).1
  have B3 := (below_drewN' (((Below.refl base w).alloc lb (.cells #[.int .i64 f, .int .i64 t, .int .i64 m, .int .i64 d, .int .i8 s] 67)).alloc (by simp; omega) (.cells #[.int .i64 f, .int .i64 t, .int .i64 m, .int .i64 d, .int .i8 s] 67)) (nq + 1)).setCell (p := ⟨ft, t, none⟩) HS.out.bft (.int .i64 (wrap64 (cf t + 1)))
  have HS3 : Hid (_) := S3.kept (gb_drew (gb_refl _ none))
  have HB3 : Hid (_) := B3.drew
  clear S3 B3 hq1 hq2 hr hrf hn hnf
  go_region_with (go_at_call 38; refine (push38_Q (i := 0) HS3.out (by omega) hl f t m d s).mono ?_; rintro res w1 ⟨rfl, ⟨v, S1⟩, hbel, hfar⟩)
  all_goals
    go_end0
    exact ⟨rfl, v, S1, HB3.out.trans hbel⟩

/-! ### What one push makes of the state -/
def stepP (pools : Nat → List E) (t : Nat) (e : E) : Nat → List E := if wts t e.s = true then upd pools (t + 1) (pools (t + 1) ++ [e]) else upd pools 0 (pools 0 ++ [e])
def stepC (cf : Nat → Int) (t : Nat) (e : E) : Nat → Int := if wts t e.s = true then cf else upd cf t (wrap64 (cf t + 1))
def stepR (pools : Nat → List E) (cf : Nat → Int) (r : Int) (t : Nat) (e : E) : Int :=
  if wts t e.s = true then (if cf t = 0 then wrap64 (r + 1) else r) else if cf t = 0 then wrap64 (r - (pools (t + 1)).length) else r

theorem push34 {base q ft wt M N : Nat} {V : Nat → Value} {pools : Nat → List E} {cf : Nat → Int} {r : Int} {w : World} (S : Q w base q ft wt M N V pools cf r) (t : Nat) (f m d s : Int) (ht : t < N) (hM : t < M) (hs : s ≤ 127) (hl0 : (pools 0).length ≤ 1048576) (hl : (pools (t + 1)).length ≤ 1048576) :
    Calls Trym.prog 34 #[.pointer (some ⟨q, 0, none⟩), .agg #[.int .i64 f, .int .i64 t, .int .i64 m, .int .i64 d, .int .i8 s]] w fun res w' => res = .returned (.tuple #[]) ∧
      ∃ V', Q w' base q ft wt M N V' (stepP pools t ⟨f, t, m, d, s⟩) (stepC cf t ⟨f, t, m, d, s⟩) (stepR pools cf r t ⟨f, t, m, d, s⟩) ∧ Below base w w' := by
  by_cases hw : wts t s = true
  · by_cases hz : cf t = 0
    · simp only [stepP, stepC, stepR, hw, if_true, if_pos hz]
      exact (push_wait0 base q ft wt M N t V pools cf r f m d s w S ht hM hs hl hw (by simpa using hz)).mono fun _ _ ⟨h, v, h2⟩ => ⟨h, _, h2⟩
    · simp only [stepP, stepC, stepR, hw, if_true, if_neg hz]
      exact (push_wait1 base q ft wt M N t V pools cf r f m d s w S ht hM hs hl hw (by simpa using hz)).mono fun _ _ ⟨h, v, h2⟩ => ⟨h, _, h2⟩
  · have hw' : wts t s = false := by simpa using hw
    by_cases hz : cf t = 0
    · simp only [stepP, stepC, stepR, if_neg hw, if_pos hz]
      exact (push_free0 base q ft wt M N t V pools cf r f m d s w S ht hM hs hl0 hw' (by simpa using hz)).mono fun _ _ ⟨h, v, h2⟩ => ⟨h, _, h2⟩
    · simp only [stepP, stepC, stepR, if_neg hw, if_neg hz]
      exact (push_free1 base q ft wt M N t V pools cf r f m d s w S ht hM hs hl0 hw' (by simpa using hz)).mono fun _ _ ⟨h, v, h2⟩ => ⟨h, _, h2⟩

theorem push22 {base q ft wt M N : Nat} {V : Nat → Value} {pools : Nat → List E} {cf : Nat → Int} {r : Int} {w : World} (S : Q w base q ft wt M N V pools cf r) (t : Nat) (f m d s : Int) (ht : t < N) (hM : t < M) (hs : s ≤ 127) (hl0 : (pools 0).length ≤ 1048576) (hl : (pools (t + 1)).length ≤ 1048576) :
    Calls Trym.prog 22 #[.pointer (some ⟨q, 0, none⟩), .agg #[.int .i64 f, .int .i64 t, .int .i64 m, .int .i64 d, .int .i8 s]] w fun res w' => res = .returned (.tuple #[]) ∧
      ∃ V', Q w' base q ft wt M N V' (stepP pools t ⟨f, t, m, d, s⟩) (stepC cf t ⟨f, t, m, d, s⟩) (stepR pools cf r t ⟨f, t, m, d, s⟩) ∧ Below base w w' := by
  have lb := S.lbase
  have HS : Hid (Q w base q ft wt M N V pools cf r) := S
  clear S
  go_enter Trym.func22, Trym.ntmps22
  go_wp2_with fail
  refine (push34 (HS.out.kept (gb_alloc (gb_refl _ _) _)) t f m d s ht hM hs hl0 hl).mono ?_
  rintro e w1 ⟨rfl, V', S', hb⟩
  have HS' : Hid (_) := S'
  have HB : Hid (_) := ((Below.refl _ _).alloc lb _).trans hb
  clear S' hb
  go_wp2
  go_end0
  exact ⟨rfl, V', HS'.out, HB.out⟩
end Go.Proofs.Qxb6602655aMods
