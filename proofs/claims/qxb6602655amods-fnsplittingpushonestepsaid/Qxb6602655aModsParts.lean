/-
  The small functions on the roads of the push laws: waits (37), b1Waits (25), ZZMakeEnvelope (35), b1Envelope (23), ZZEnvelopeFields (36), b1SameEnv (31), ZZMakeSplitting (21), ZZSplittingFields (24).
-/
import Derived.Test.Qxb6602655aModsBase
namespace Go.Proofs.Qxb6602655aMods
open Go.RowKit
set_option linter.unusedSimpArgs false

/-- Does a copy to t with coin bit s wait? -/
def wts (t s : Int) : Bool := decide (0 ≤ s) && !(s == t % 2)

theorem waits_yes (q : Value) (f t m d s : Int) (w : World) (ht : 0 ≤ t) (hs : s ≤ 127) (h : wts t s = true) :
    Calls Trym.prog 37 #[q, .agg #[.int .i64 f, .int .i64 t, .int .i64 m, .int .i64 d, .int .i8 s]] w fun r w' => r = .returned (.bool true) ∧ w' = w.alloc (.cells #[.int .i64 f, .int .i64 t, .int .i64 m, .int .i64 d, .int .i8 s] 67) := by
  simp [wts] at h
  obtain ⟨h0, h1⟩ := h
  have hb : (s != t % 2) = true := by simpa using h1
  clear h1
  go_enter Trym.func37, Trym.ntmps37
  go_wp2
  go_ret
  exact ⟨rfl, rfl⟩
theorem waits_no (q : Value) (f t m d s : Int) (w : World) (ht : 0 ≤ t) (hs : s ≤ 127) (h : wts t s = false) :
    Calls Trym.prog 37 #[q, .agg #[.int .i64 f, .int .i64 t, .int .i64 m, .int .i64 d, .int .i8 s]] w fun r w' => r = .returned (.bool false) ∧ w' = w.alloc (.cells #[.int .i64 f, .int .i64 t, .int .i64 m, .int .i64 d, .int .i8 s] 67) := by
  by_cases h0 : 0 ≤ s
  · have h1 : s = t % 2 := by simpa [wts, h0] using h
    have hb : (s != t % 2) = false := by simpa using h1
    clear h1 h
    go_enter Trym.func37, Trym.ntmps37
    go_wp2
    go_ret
    exact ⟨rfl, rfl⟩
  · clear h
    go_enter Trym.func37, Trym.ntmps37
    go_wp2
    go_ret
    exact ⟨rfl, rfl⟩
theorem b1waits_yes (t s : Int) (w : World) (ht : 0 ≤ t) (h : wts t s = true) : Calls Trym.prog 25 #[.int .i64 t, .int .i8 s] w fun r w' => r = .returned (.bool true) ∧ w' = w := by
  simp [wts] at h
  obtain ⟨h0, h1⟩ := h
  by_cases hp : t % 2 = 0
  · have hb : (s != 0) = true := by simp; omega
    have hq : (t % 2 == 0) = true := by simpa using hp
    clear h1 hp
    go_enter Trym.func25, Trym.ntmps25
    go_wp2
    go_ret
    exact ⟨rfl, rfl⟩
  · have hb : (s != 1) = true := by simp; omega
    have hq : (t % 2 == 0) = false := by simpa using hp
    clear h1 hp
    go_enter Trym.func25, Trym.ntmps25
    go_wp2
    go_ret
    exact ⟨rfl, rfl⟩
theorem b1waits_no (t s : Int) (w : World) (ht : 0 ≤ t) (h : wts t s = false) : Calls Trym.prog 25 #[.int .i64 t, .int .i8 s] w fun r w' => r = .returned (.bool false) ∧ w' = w := by
  by_cases h0 : 0 ≤ s
  · have h1 : s = t % 2 := by simpa [wts, h0] using h
    by_cases hp : t % 2 = 0
    · have hb : (s != 0) = false := by simp; omega
      have hq : (t % 2 == 0) = true := by simpa using hp
      clear h1 hp h
      go_enter Trym.func25, Trym.ntmps25
      go_wp2
      go_ret
      exact ⟨rfl, rfl⟩
    · have hb : (s != 1) = false := by simp; omega
      have hq : (t % 2 == 0) = false := by simpa using hp
      clear h1 hp h
      go_enter Trym.func25, Trym.ntmps25
      go_wp2
      go_ret
      exact ⟨rfl, rfl⟩
  · clear h
    go_enter Trym.func25, Trym.ntmps25
    go_wp2
    go_ret
    exact ⟨rfl, rfl⟩

theorem make35 (f t m d s : Int) (w : World) : Calls Trym.prog 35 #[.int .i64 f, .int .i64 t, .int .i64 m, .int .i64 d, .int .i8 s] w fun r w' => r = .returned (.agg #[.int .i64 f, .int .i64 t, .int .i64 m, .int .i64 d, .int .i8 s]) ∧ w.grownBy w' none := by
  go_enter Trym.func35, Trym.ntmps35
  go_wp2
  exact bodyPost_ret (v := .agg #[.int .i64 f, .int .i64 t, .int .i64 m, .int .i64 d, .int .i8 s]) (by simp [results, Trym.results35, go_sem]) rfl ⟨rfl, gb_alloc (gb_refl _ _) _⟩
theorem env23 (f t m d s : Int) (w : World) : Calls Trym.prog 23 #[.agg #[.int .i64 f, .int .i64 t, .int .i64 m, .int .i64 d, .int .i8 s]] w fun r w' => r = .returned (.agg #[.int .i64 f, .int .i64 t, .int .i64 m, .int .i64 d, .int .i8 s]) ∧ w.grownBy w' none := by
  go_enter Trym.func23, Trym.ntmps23
  go_wp2_with fail
  refine (make35 f t m d s _).mono ?_
  rintro e w1 ⟨rfl, hg⟩
  have hz := hg.size
  have hc : ∀ j v, ((w.alloc (.cells #[.int .i64 f, .int .i64 t, .int .i64 m, .int .i64 d, .int .i8 s] 56)).alloc (.cells #[.int .i64 0, .int .i64 0, .int .i64 0, .int .i64 0, .int .i8 0] 67)).cell? ⟨w.heap.size + 1, j, none⟩ = some v → w1.cell? ⟨w.heap.size + 1, j, none⟩ = some v := fun j v h => hg.cell h (by simp)
  have hfz : ∀ j, w1.frozen? ⟨w.heap.size + 1, j, none⟩ = false := fun j => by
    rw [World.frozen?_of_block (hg.block (w.heap.size + 1) (by simp) (by simp))]; simp [go_sem]
  have q0 := hc 0 (.int .i64 0) (by simp [go_sem])
  have q1 := hc 1 (.int .i64 0) (by simp [go_sem])
  have q2 := hc 2 (.int .i64 0) (by simp [go_sem])
  have q3 := hc 3 (.int .i64 0) (by simp [go_sem])
  have q4 := hc 4 (.int .i8 0) (by simp [go_sem])
  have p0 := hfz 0
  have p1 := hfz 1
  have p2 := hfz 2
  have p3 := hfz 3
  have p4 := hfz 4
  have HG : Hid (w.grownBy w1 none) := gb_trans (gb_alloc (gb_alloc (gb_refl _ _) _) _) hg
  clear hc hfz hg hz
  go_wp2
  exact bodyPost_ret (v := .agg #[.int .i64 f, .int .i64 t, .int .i64 m, .int .i64 d, .int .i8 s]) (by simp [results, Trym.results23, go_sem, q0, q1, q2, q3, q4]) rfl
    ⟨rfl, gb_setCell_new (gb_setCell_new (gb_setCell_new (gb_setCell_new (gb_setCell_new HG.out (by omega) _ _ _) (by omega) _ _ _) (by omega) _ _ _) (by omega) _ _ _) (by omega) _ _ _⟩
theorem fields36 (f t m d s : Int) (w : World) : Calls Trym.prog 36 #[.agg #[.int .i64 f, .int .i64 t, .int .i64 m, .int .i64 d, .int .i8 s]] w fun r w' => r = .returned (.tuple #[.int .i64 f, .int .i64 t, .int .i64 m, .int .i64 d, .int .i8 s]) ∧ w.grownBy w' none := by
  go_enter Trym.func36, Trym.ntmps36
  go_wp2
  go_quiet (fail)
  go_wp2
  exact bodyPost_ret (v := .tuple #[.int .i64 f, .int .i64 t, .int .i64 m, .int .i64 d, .int .i8 s]) (by simp [results, Trym.results36, go_sem]) rfl ⟨rfl, gb_drewN (gb_alloc (gb_refl _ _) _) _⟩
theorem same31 (f t m d s : Int) (w : World) : Calls Trym.prog 31 #[.agg #[.int .i64 f, .int .i64 t, .int .i64 m, .int .i64 d, .int .i8 s], .agg #[.int .i64 f, .int .i64 t, .int .i64 m, .int .i64 d, .int .i8 s]] w fun r w' => r = .returned (.bool true) ∧ w.grownBy w' none := by
  go_enter Trym.func31, Trym.ntmps31
  go_wp2_with fail
  refine (fields36 f t m d s _).mono ?_
  rintro e w1 ⟨rfl, hg⟩
  have hc : ∀ j v, ((w.alloc (.cells #[.int .i64 f, .int .i64 t, .int .i64 m, .int .i64 d, .int .i8 s] 67)).alloc (.cells #[.int .i64 f, .int .i64 t, .int .i64 m, .int .i64 d, .int .i8 s] 56)).cell? ⟨w.heap.size + 1, j, none⟩ = some v → w1.cell? ⟨w.heap.size + 1, j, none⟩ = some v := fun j v h => hg.cell h (by simp)
  have q0 := hc 0 (.int .i64 f) (by simp [go_sem])
  have q1 := hc 1 (.int .i64 t) (by simp [go_sem])
  have q2 := hc 2 (.int .i64 m) (by simp [go_sem])
  have q3 := hc 3 (.int .i64 d) (by simp [go_sem])
  have q4 := hc 4 (.int .i8 s) (by simp [go_sem])
  have HG : Hid (w.grownBy w1 none) := gb_trans (gb_alloc (gb_alloc (gb_refl _ _) _) _) hg
  clear hc hg
  go_wp2
  go_ret
  exact ⟨rfl, HG.out⟩
theorem split21 (a b c : Value) (r : Int) (w : World) (ha : ∃ x n k, a = .slice x n k) (hb : ∃ x n k, b = .slice x n k) (hc : ∃ x n k, c = .slice x n k) :
    Calls Trym.prog 21 #[a, b, c, .int .i64 r] w fun e w' => e = .returned (.pointer (some ⟨w.heap.size, 0, none⟩)) ∧ w' = w.alloc (.cells #[a, b, c, .int .i64 r] 83) := by
  obtain ⟨x1, n1, k1, rfl⟩ := ha
  obtain ⟨x2, n2, k2, rfl⟩ := hb
  obtain ⟨x3, n3, k3, rfl⟩ := hc
  go_enter Trym.func21, Trym.ntmps21
  go_wp2
  go_ret
  exact ⟨rfl, rfl⟩
theorem fields24 (q : Nat) (a b c : Value) (r : Int) (w : World) (h0 : w.cell? ⟨q, 0, none⟩ = some a) (h1 : w.cell? ⟨q, 1, none⟩ = some b) (h2 : w.cell? ⟨q, 2, none⟩ = some c) (h3 : w.cell? ⟨q, 3, none⟩ = some (.int .i64 r)) :
    Calls Trym.prog 24 #[.pointer (some ⟨q, 0, none⟩)] w fun e w' => e = .returned (.tuple #[a, b, c, .int .i64 r]) ∧ w.grownBy w' none := by
  go_enter Trym.func24, Trym.ntmps24
  go_wp2
  go_quiet (fail)
  go_wp2
  exact bodyPost_ret (v := .tuple #[a, b, c, .int .i64 r]) (by simp [results, Trym.results24, go_sem]) rfl ⟨rfl, gb_drewN (gb_refl _ _) _⟩
end Go.Proofs.Qxb6602655aMods
