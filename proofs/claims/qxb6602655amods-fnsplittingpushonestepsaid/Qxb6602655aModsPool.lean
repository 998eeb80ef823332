/-
  (*pool).push (38): its contract.
-/
import Derived.Test.Qxb6602655aModsBase
import Derived.Deep.RegionLaw
namespace Go.Proofs.Qxb6602655aMods
open Go.RowKit
set_option linter.unusedSimpArgs false

/-- What a push onto the pool at ⟨ab, ao⟩ leaves: v: the slice before; n, xs: what it held. -/
def Pushed (ab ao : Nat) (v : Value) (n base : Nat) (xs : List Value) (e : E) (w w' : World) : Prop :=
  ∃ g cap w1, w' = w1.setCell ⟨ab, ao, none⟩ (.slice (some ⟨g, 0, none⟩) (n + 1) cap) ∧ w.grownBy w1 v.ownBlock ∧ w1.ownsRow base 67 5 (.slice (some ⟨g, 0, none⟩) (n + 1) cap) (n + 1) (xs ++ e.cells) ∧ (v.ownBlock = some g ∨ w.heap.size ≤ g)

theorem two_cell {w w1 : World} {o1 o2 : Obj} {row : Option Nat} {ab ao : Nat} {v : Value} (h : ((w.alloc o1).alloc o2).drew.grownBy w1 row) (hne : some ab ≠ row) (_hb : ab < w.heap.size) (hc : w.cell? ⟨ab, ao, none⟩ = some v) : w1.cell? ⟨ab, ao, none⟩ = some v :=
  (gb_trans (gb_drew (gb_alloc (gb_alloc (gb_refl w row) o1) o2)) h).cell hc hne
theorem two_frozen {w w1 : World} {o1 o2 : Obj} {row : Option Nat} {ab ao : Nat} (h : ((w.alloc o1).alloc o2).drew.grownBy w1 row) (hne : some ab ≠ row) (hb : ab < w.heap.size) (hf : w.frozen? ⟨ab, ao, none⟩ = false) : w1.frozen? ⟨ab, ao, none⟩ = false :=
  (World.frozen?_of_block (w := w) ((gb_trans (gb_drew (gb_alloc (gb_alloc (gb_refl w row) o1) o2)) h).block ab hb hne)).trans hf
theorem new2 (w : World) (o1 o2 : Obj) : ((w.alloc o1).alloc o2).drew.heap[w.heap.size + 1]? = some o2 := by
  have h := heap_alloc_new (w.alloc o1) o2
  rwa [show (w.alloc o1).heap.size = w.heap.size + 1 by simp] at h

set_option maxRecDepth 100000 in
set_option maxHeartbeats 1000000 in
theorem push38 (ab ao : Nat) (v : Value) (n base : Nat) (xs : List Value) (e : E) (w : World) (hc : w.cell? ⟨ab, ao, none⟩ = some v) (hf : w.frozen? ⟨ab, ao, none⟩ = false)
    (hown : w.ownsRow base 67 5 v n xs) (hbase : base ≤ w.heap.size) (hn : n ≤ 1048576) (hne : some ab ≠ v.ownBlock) :
    Calls Trym.prog 38 #[.pointer (some ⟨ab, ao, none⟩), .agg #[.int .i64 e.f, .int .i64 e.t, .int .i64 e.m, .int .i64 e.d, .int .i8 e.s]] w fun r w' => r = .returned (.tuple #[]) ∧ Pushed ab ao v n base xs e w w' := by
  obtain ⟨i0, hi0, hz0, hz1, hz2⟩ := info_parts info67
  have hb := World.block_lt_of_cell? w _ hc
  have hb1 : ab < w.heap.size + 1 := by simp at hb; omega
  have hb2 : ab < w.heap.size + 1 + 1 := by omega
  obtain ⟨f, t, m, d, s⟩ := e
  go_enter Trym.func38, Trym.ntmps38
  go_wp2_with fail
  have hov : some w.heap.size ≠ v.ownBlock := fun h => by have := (hown.lt _ h.symm).2; omega
  go_region_law ((refine step_append_lies _ (by rfl) _ _ _ (by rfl) base 67 i0 _ 5 40 Trym.underlying59 hi0 hz0 hz1 hz2 rfl (by omega) v n xs (by rfl) (((hown.alloc _).alloc _).drew) ⟨w.heap.size + 1, 0, none⟩ 1 1 [.int .i64 f, .int .i64 t, .int .i64 m, .int .i64 d, .int .i8 s] (by rfl) (by rfl) (World.news_of_block (cs := #[.int .i64 f, .int .i64 t, .int .i64 m, .int .i64 d, .int .i8 s]) (t := 67) (fr := (0, 0)) (new2 w _ _)) (by simp [Value.oneCell']) (by omega) (by unfold maxLen; omega) (by omega) (by simp; omega) (w.heap.size + 1 + 1) (by simp) ?_; intro gg cap w1 hown1 hgrow hat hlt; have hc1 := two_cell hgrow hne hb hc; have hf1 := two_frozen hgrow hne hb hf))
  all_goals
    go_end0
    exact ⟨rfl, gg, cap, w1, rfl, gb_trans (gb_drew (gb_alloc (gb_alloc (gb_refl w v.ownBlock) _) _)) hgrow, hown1, hat.imp id (fun h => by omega)⟩
end Go.Proofs.Qxb6602655aMods
