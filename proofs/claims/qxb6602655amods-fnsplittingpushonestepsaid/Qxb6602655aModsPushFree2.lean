/-
  (*splitting).push (34), a copy that does not wait; over the state Q.
-/
import Derived.Test.Qxb6602655aModsPushWait2
namespace Go.Proofs.Qxb6602655aMods
open Go.RowKit
set_option linter.unusedSimpArgs false

theorem own_form {w : World} {base : Nat} {e : TypeId} {size : Nat} {v : Value} {n : Nat} {xs : List Value} (h : w.ownsRow base e size v n xs) : ∃ x c, v = .slice x n c := by
  rcases h.2 with ⟨rfl, rfl⟩ | ⟨g, cap, _, rfl, _⟩
  · exact ⟨_, _, rfl⟩
  · exact ⟨_, _, rfl⟩

set_option maxHeartbeats 1000000 in
theorem push_free0 (base q ft wt M N t : Nat) (V : Nat → Value) (pools : Nat → List E) (cf : Nat → Int) (r f m d s : Int) (w : World) (S : Q w base q ft wt M N V pools cf r) (ht : t < N) (hM : t < M) (hs : s ≤ 127) (hl : (pools 0).length ≤ 1048576) (hw : wts t s = false) (hzb : (cf t == 0) = true) :
    Calls Trym.prog 34 #[.pointer (some ⟨q, 0, none⟩), .agg #[.int .i64 f, .int .i64 t, .int .i64 m, .int .i64 d, .int .i8 s]] w fun res w' => res = .returned (.tuple #[]) ∧
      ∃ v, Q w' base q ft wt M N (upd V 0 v) (upd pools 0 (pools 0 ++ [⟨f, t, m, d, s⟩])) (upd cf t (wrap64 (cf t + 1))) (wrap64 (r - (pools (t + 1)).length)) ∧ Below base w w' := by
  have HS : Hid (Q w base q ft wt M N V pools cf r) := S
  obtain ⟨cft, hq1⟩ := S.c1
  obtain ⟨cw, hq2⟩ := S.c2
  have hr := S.c3
  have hrf := S.f3
  obtain ⟨hn, hnf⟩ := S.nums t hM
  obtain ⟨vx, vc, hv⟩ := own_form (S.own (t + 1) (by omega))
  have hp := (S.at_ (t + 1) (by omega)).1
  rw [hv] at hp
  simp only [loc] at hp
  have HV : Hid (V (t + 1) = .slice vx (pools (t + 1)).length vc) := hv
  generalize (pools (t + 1)).length = L at hp HV ⊢
  have lq := S.lq
  have lwt := S.lwt
  have lft := S.lft
  have lb := S.lbase
  have lq1 : q < w.heap.size + 1 := by omega
  have lft1 : ft < w.heap.size + 1 := by omega
  have lwt1 : wt < w.heap.size + 1 := by omega
  have i1 : (0 : Int) ≤ (t : Int) := by omega
  have i2 : (t : Int) < (N : Int) := by omega
  have i3 : (t : Int) < (M : Int) := by omega
  have dqf : q ≠ ft := S.d1
  have dfw : ft ≠ wt := S.d3
  clear S hv
  go_enter Trym.func34, Trym.ntmps34
  go_wp2_with (go_at_call 37; refine (waits_no _ f t m d s _ i1 hs hw).mono ?_; rintro e w' ⟨rfl, rfl⟩)
  go_quiet (fail)
  go_wp2
  go_region
  all_goals go_wp2
  all_goals go_region
  all_goals go_wp2
  have S3 := (((HS.out.kept (gb_drewN (gb_alloc (gb_alloc (gb_refl _ none) (.cells #[.int .i64 f, .int .i64 t, .int .i64 m, .int .i64 d, .int .i8 s] 67)) (.cells #[.int .i64 f, .int .i64 t, .int .i64 m, .int .i64 d, .int .i8 s] 67)) (nq + 1))).setR (wrap64 (r - L))).1.setN t hM (wrap64 (cf t + 1))).1.kept (gb_drew (gb_refl _ none))
  have B3 := ((below_drewN' (((Below.refl base w).alloc lb (.cells #[.int .i64 f, .int .i64 t, .int .i64 m, .int .i64 d, .int .i8 s] 67)).alloc (by simp; omega) (.cells #[.int .i64 f, .int .i64 t, .int .i64 m, .int .i64 d, .int .i8 s] 67)) (nq + 1)).setCell (p := ⟨q, 3, none⟩) HS.out.bq (.int .i64 (wrap64 (r - L)))).setCell (p := ⟨ft, t, none⟩) HS.out.bft (.int .i64 (wrap64 (cf t + 1)))
  have HS3 : Hid (_) := S3.kept (gb_drew (gb_refl _ none))
  have HB3 : Hid (_) := B3.drew.drew
  clear S3 B3 hq1 hq2 hr hrf hn hnf hp
  go_region_with (go_at_call 38; refine (push38_Q (i := 0) HS3.out (by omega) hl f t m d s).mono ?_; rintro res w1 ⟨rfl, ⟨v, S1⟩, hbel, hfar⟩)
  all_goals
    go_end0
    exact ⟨rfl, v, S1, HB3.out.trans hbel⟩
end Go.Proofs.Qxb6602655aMods
