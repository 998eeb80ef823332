/-
  (*splitting).push (34), a copy that waits; over the state Q.
-/
import Derived.Test.Qxb6602655aModsQueue2
import Derived.Test.Qxb6602655aModsParts
import Derived.Deep.RegionWith
namespace Go.Proofs.Qxb6602655aMods
open Go.RowKit
set_option linter.unusedSimpArgs false

theorem Pushed.far {ab ao : Nat} {v : Value} {n base : Nat} {xs : List Value} {e : E} {w w' : World} (h : Pushed ab ao v n base xs e w w') {a : Addr} {u : Value} (hc : w.cell? a = some u) (h1 : some a.block ≠ v.ownBlock) (h2 : a.block ≠ ab) : w'.cell? a = some u := by
  obtain ⟨g, cap, w1, rfl, hg, _⟩ := h
  rw [World.cell?_setCell_other _ _ _ _ (by intro e; exact h2 (by rw [← e]))]
  exact hg.cell hc h1

theorem below_drewN' {B : Nat} {a w : World} (h : Below B a w) (n : Nat) : Below B a (w.drewN n) := ⟨h.os, h.tape, h.output, h.size, h.block⟩
/-- (*pool).push at one of the queue's pools. -/
theorem push38_Q {base q ft wt M N i : Nat} {V : Nat → Value} {pools : Nat → List E} {cf : Nat → Int} {r : Int} {w : World} (S : Q w base q ft wt M N V pools cf r) (hi : i ≤ N) (hl : (pools i).length ≤ 1048576) (f t m d s : Int) :
    Calls Trym.prog 38 #[.pointer (some (loc q wt i)), .agg #[.int .i64 f, .int .i64 t, .int .i64 m, .int .i64 d, .int .i8 s]] w fun res w' => res = .returned (.tuple #[]) ∧
      (∃ v, Q w' base q ft wt M N (upd V i v) (upd pools i (pools i ++ [⟨f, t, m, d, s⟩])) cf r) ∧ Below base w w' ∧ ∀ B o u, w.cell? ⟨B, o, none⟩ = some u → B ≠ q → B ≠ wt → some B ≠ (V i).ownBlock → w'.cell? ⟨B, o, none⟩ = some u := by
  have ea : (⟨(loc q wt i).block, (loc q wt i).off, none⟩ : Addr) = loc q wt i := by cases i <;> rfl
  have hb : (loc q wt i).block = q ∨ (loc q wt i).block = wt := loc_block q wt i
  have hne : some (loc q wt i).block ≠ (V i).ownBlock := by
    rcases hb with e | e <;> rw [e]
    · exact S.nq i hi
    · exact S.nwt i hi
  have := push38 (loc q wt i).block (loc q wt i).off (V i) (pools i).length base (rows (pools i)) ⟨f, t, m, d, s⟩ w (by rw [ea]; exact (S.at_ i hi).1) (by rw [ea]; exact (S.at_ i hi).2) (S.own i hi) S.lbase hl hne
  rw [ea] at this
  refine this.mono ?_
  rintro e w' ⟨rfl, hP⟩
  obtain ⟨v, S', hbel⟩ := S.pushed hi _ hP
  exact ⟨rfl, ⟨v, S'⟩, hbel, fun B o u hc h1 h2 h3 => hP.far hc h3 (by rcases hb with e | e <;> simp [e] <;> assumption)⟩

theorem Q.new {base q ft wt M N i : Nat} {V : Nat → Value} {pools : Nat → List E} {cf : Nat → Int} {r : Int} {w : World} (S : Q w base q ft wt M N V pools cf r) (hi : i ≤ N) : some w.heap.size ≠ (V i).ownBlock := fun h => by
  have := ((S.own i hi).lt _ h.symm).2; omega

set_option maxHeartbeats 1000000 in
theorem push_wait0 (base q ft wt M N t : Nat) (V : Nat → Value) (pools : Nat → List E) (cf : Nat → Int) (r f m d s : Int) (w : World) (S : Q w base q ft wt M N V pools cf r) (ht : t < N) (hM : t < M) (hs : s ≤ 127) (hl : (pools (t + 1)).length ≤ 1048576) (hw : wts t s = true) (hzb : (cf t == 0) = true) :
    Calls Trym.prog 34 #[.pointer (some ⟨q, 0, none⟩), .agg #[.int .i64 f, .int .i64 t, .int .i64 m, .int .i64 d, .int .i8 s]] w fun res w' => res = .returned (.tuple #[]) ∧
      ∃ v, Q w' base q ft wt M N (upd V (t + 1) v) (upd pools (t + 1) (pools (t + 1) ++ [⟨f, t, m, d, s⟩])) cf (wrap64 (r + 1)) ∧ Below base w w' := by
  have HS : Hid (Q w base q ft wt M N V pools cf r) := S
  have HS2 : Hid (∀ o1 o2, Q ((w.alloc o1).alloc o2).drew base q ft wt M N V pools cf r) := fun o1 o2 => S.kept (gb_drew (gb_alloc (gb_alloc (gb_refl _ _) _) _))
  obtain ⟨cw, hq2⟩ := S.c2
  have lq := S.lq
  have lwt := S.lwt
  have lb := S.lbase
  have i1 : (0 : Int) ≤ (t : Int) := by omega
  have i2 : (t : Int) < (N : Int) := by omega
  have i3 : (t : Int) < (M : Int) := by omega
  clear S
  go_enter Trym.func34, Trym.ntmps34
  go_wp2_with (go_at_call 37; refine (waits_yes _ f t m d s _ i1 hs hw).mono ?_; rintro e w' ⟨rfl, rfl⟩)
  go_region_with (go_at_call 38; refine (push38_Q (i := t + 1) (HS2.out _ _) (by omega) hl f t m d s).mono ?_; rintro res w1 ⟨rfl, ⟨v, S1⟩, hbel, hfar⟩)
  all_goals
    have HS1 : Hid (Q w1 base q ft wt M N (upd V (t + 1) v) (upd pools (t + 1) (pools (t + 1) ++ [⟨f, t, m, d, s⟩])) cf r) := S1
    have HB : Hid (Below base w w1) := (((Below.refl _ _).alloc lb _).alloc (by simp; omega) _).drew.trans hbel
    have hto : w1.cell? ⟨w.heap.size, 1, none⟩ = some (.int .i64 t) := hfar w.heap.size 1 _ (by simp [go_sem]) (by omega) (by omega) (HS.out.new (by omega))
    obtain ⟨cft, hq1⟩ := S1.c1
    have hn := (S1.nums t hM).1
    have hr := S1.c3
    have hrf := S1.f3
    clear S1 hbel hfar hq2
    go_wp2
    go_quiet (fail)
    go_wp2
    obtain ⟨K, B⟩ := (HS1.out.kept (gb_drewN (gb_refl _ _) nq)).setR (wrap64 (r + 1))
    exact bodyPost_ret (v := .tuple #[]) (by simp [results, Trym.results34, go_sem]) rfl ⟨rfl, v, K, (below_drewN' HB.out nq).trans B⟩
set_option maxHeartbeats 1000000 in
theorem push_wait1 (base q ft wt M N t : Nat) (V : Nat → Value) (pools : Nat → List E) (cf : Nat → Int) (r f m d s : Int) (w : World) (S : Q w base q ft wt M N V pools cf r) (ht : t < N) (hM : t < M) (hs : s ≤ 127) (hl : (pools (t + 1)).length ≤ 1048576) (hw : wts t s = true) (hzb : (cf t == 0) = false) :
    Calls Trym.prog 34 #[.pointer (some ⟨q, 0, none⟩), .agg #[.int .i64 f, .int .i64 t, .int .i64 m, .int .i64 d, .int .i8 s]] w fun res w' => res = .returned (.tuple #[]) ∧
      ∃ v, Q w' base q ft wt M N (upd V (t + 1) v) (upd pools (t + 1) (pools (t + 1) ++ [⟨f, t, m, d, s⟩])) cf r ∧ Below base w w' := by
  have HS : Hid (Q w base q ft wt M N V pools cf r) := S
  have HS2 : Hid (∀ o1 o2, Q ((w.alloc o1).alloc o2).drew base q ft wt M N V pools cf r) := fun o1 o2 => S.kept (gb_drew (gb_alloc (gb_alloc (gb_refl _ _) _) _))
  obtain ⟨cw, hq2⟩ := S.c2
  have lq := S.lq
  have lwt := S.lwt
  have lb := S.lbase
  have i1 : (0 : Int) ≤ (t : Int) := by omega
  have i2 : (t : Int) < (N : Int) := by omega
  have i3 : (t : Int) < (M : Int) := by omega
  clear S
  go_enter Trym.func34, Trym.ntmps34
  go_wp2_with (go_at_call 37; refine (waits_yes _ f t m d s _ i1 hs hw).mono ?_; rintro e w' ⟨rfl, rfl⟩)
  go_region_with (go_at_call 38; refine (push38_Q (i := t + 1) (HS2.out _ _) (by omega) hl f t m d s).mono ?_; rintro res w1 ⟨rfl, ⟨v, S1⟩, hbel, hfar⟩)
  all_goals
    have HS1 : Hid (Q w1 base q ft wt M N (upd V (t + 1) v) (upd pools (t + 1) (pools (t + 1) ++ [⟨f, t, m, d, s⟩])) cf r) := S1
    have HB : Hid (Below base w w1) := (((Below.refl _ _).alloc lb _).alloc (by simp; omega) _).drew.trans hbel
    have hto : w1.cell? ⟨w.heap.size, 1, none⟩ = some (.int .i64 t) := hfar w.heap.size 1 _ (by simp [go_sem]) (by omega) (by omega) (HS.out.new (by omega))
    obtain ⟨cft, hq1⟩ := S1.c1
    have hn := (S1.nums t hM).1
    have hr := S1.c3
    have hrf := S1.f3
    clear S1 hbel hfar hq2
    go_wp2
    go_quiet (fail)
    go_wp2
    exact bodyPost_ret (v := .tuple #[]) (by simp [results, Trym.results34, go_sem]) rfl ⟨rfl, v, HS1.out.kept (gb_drewN (gb_refl _ _) nq), below_drewN' HB.out nq⟩
end Go.Proofs.Qxb6602655aMods
