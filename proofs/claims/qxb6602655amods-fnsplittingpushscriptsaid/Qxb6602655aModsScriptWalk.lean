/-
  FnSplittingPushScript (7): the walk.
-/
import Derived.Test.Qxb6602655aModsPlain
import Derived.Deep.DeepCutAuto
import Derived.Deep.OwnRows
namespace Go.Proofs.Qxb6602655aMods
open Go.RowKit
set_option linter.unusedSimpArgs false

/-- Five cells hold the copy e. -/
structure At (w : World) (b o : Nat) (e : E) : Prop where
  a0 : w.cell? ⟨b, o, none⟩ = some (.int .i64 e.f)
  a1 : w.cell? ⟨b, o + 1, none⟩ = some (.int .i64 e.t)
  a2 : w.cell? ⟨b, o + 2, none⟩ = some (.int .i64 e.m)
  a3 : w.cell? ⟨b, o + 3, none⟩ = some (.int .i64 e.d)
  a4 : w.cell? ⟨b, o + 4, none⟩ = some (.int .i8 e.s)
def Envs (w : World) (b off : Nat) (l : List E) : Prop := ∀ i (hi : i < l.length), At w b (off + i * 5) l[i]
theorem At.below {w v : World} {B b o : Nat} {e : E} (h : At w b o e) (g : Below B w v) (hb : b < B) : At v b o e :=
  ⟨(g.cell (p := ⟨b, _, none⟩) hb).trans h.a0, (g.cell (p := ⟨b, _, none⟩) hb).trans h.a1, (g.cell (p := ⟨b, _, none⟩) hb).trans h.a2, (g.cell (p := ⟨b, _, none⟩) hb).trans h.a3, (g.cell (p := ⟨b, _, none⟩) hb).trans h.a4⟩

theorem bytes30 (n : Int) (a : Option Addr) (L cap : Nat) (w : World) (h : L ≤ 9223372036854775807) :
    Calls Trym.prog 30 #[.int .i64 n, .slice a L cap] w fun e w' => e = .returned (.bool (decide (L ≤ 1048576))) ∧ w' = w := by
  by_cases hb : L ≤ 1048576
  · have hd : decide (L ≤ 1048576) = true := by simp [hb]
    rw [hd]
    go_enter Trym.func30, Trym.ntmps30
    go_wp2
    go_ret
    exact ⟨rfl, rfl⟩
  · have hd : decide (L ≤ 1048576) = false := by simpa using hb
    rw [hd]
    go_enter Trym.func30, Trym.ntmps30
    go_wp2
    go_ret
    exact ⟨rfl, rfl⟩

set_option maxRecDepth 100000 in
set_option maxHeartbeats 400000 in
/-- A long script, or n out of its bounds: true at once. -/
theorem script_out (n : Int) (a : Option Addr) (L cap : Nat) (w : World) (h : L ≤ 9223372036854775807) (ho : 26214 < L ∨ n < 0 ∨ 65536 < n) :
    Calls Trym.prog 7 #[.int .i64 n, .slice a L cap] w fun e w' => e = .returned (.bool true) ∧ Below w.heap.size w w' := by
  by_cases hb : L ≤ 1048576
  · have hd : decide (L ≤ 1048576) = true := by simp [hb]
    by_cases h1 : 26214 < L
    · clear ho
      go_enter Trym.func7, Trym.ntmps7
      go_wp2_with (go_at_call 30; refine (bytes30 n a L cap _ h).mono ?_; rintro e w' ⟨rfl, hw⟩; subst hw)
      go_ret
      exact ⟨rfl, Below.refl _ _⟩
    · by_cases h2 : n < 0
      · clear ho
        go_enter Trym.func7, Trym.ntmps7
        go_wp2_with (go_at_call 30; refine (bytes30 n a L cap _ h).mono ?_; rintro e w' ⟨rfl, hw⟩; subst hw)
        go_ret
        exact ⟨rfl, Below.refl _ _⟩
      · have h3 : 65536 < n := by omega
        clear ho
        go_enter Trym.func7, Trym.ntmps7
        go_wp2_with (go_at_call 30; refine (bytes30 n a L cap _ h).mono ?_; rintro e w' ⟨rfl, hw⟩; subst hw)
        go_ret
        exact ⟨rfl, Below.refl _ _⟩
  · have hd : decide (L ≤ 1048576) = false := by simpa using hb
    clear ho
    go_enter Trym.func7, Trym.ntmps7
    go_wp2_with (go_at_call 30; refine (bytes30 n a L cap _ h).mono ?_; rintro e w' ⟨rfl, hw⟩; subst hw)
    go_ret
    exact ⟨rfl, Below.refl _ _⟩

set_option maxRecDepth 100000 in
set_option maxHeartbeats 400000 in
/-- A copy to a process that is none: true. -/
theorem script_bad (N b off cap : Nat) (l : List E) (w : World) (hl : l.length ≤ 26214) (hN : N ≤ 65536) (hE : Envs w b off l) (hbad : ¬ ∀ i (hi : i < l.length), 0 ≤ l[i].t ∧ l[i].t < N) :
    Calls Trym.prog 7 #[.int .i64 N, .slice (some ⟨b, off, none⟩) l.length cap] w fun e w' => e = .returned (.bool true) ∧ Below w.heap.size w w' := by
  have hd : decide (l.length ≤ 1048576) = true := by simp; omega
  have HE : Hid (Envs w b off l) := hE
  have HB : Hid (¬ ∀ i (hi : i < l.length), 0 ≤ l[i].t ∧ l[i].t < N) := hbad
  clear hE hbad
  go_enter Trym.func7, Trym.ntmps7
  go_wp2_with (go_at_call 30; refine (bytes30 N _ l.length cap _ (by omega)).mono ?_; rintro e w' ⟨rfl, hw⟩; subst hw)
  go_loop [5] (fun i => ∃ k : Nat, k ≤ l.length ∧ i = .int .i64 k ∧ ∀ j (hj : j < l.length), j < k → 0 ≤ l[j].t ∧ l[j].t < N) (fun i => l.length - (intOf i).toNat)
  case atStart => exact ⟨0, by omega, rfl, fun j _ h => absurd h (by omega)⟩
  case round =>
    obtain ⟨k, hk, rfl, hgood⟩ := hrel
    have HG : Hid (∀ j (hj : j < l.length), j < k → 0 ≤ l[j].t ∧ l[j].t < N) := hgood
    clear hgood
    by_cases hkn : k = l.length
    · exact absurd (fun i hi => HG.out i hi (by omega)) HB.out
    have hlt : k < l.length := by omega
    have ha := (HE.out k hlt).a1
    by_cases hg : 0 ≤ l[k].t ∧ l[k].t < N
    · have HG1 : Hid (∀ j (hj : j < l.length), j < k + 1 → 0 ≤ l[j].t ∧ l[j].t < N) := fun j hj hjk => by
        by_cases e : j = k
        · subst e; exact hg
        · exact HG.out j hj (by omega)
      obtain ⟨g1, g2⟩ := hg
      generalize l[k].t = t at ha g1 g2
      go_wp2
      go_round
      case rel => exact ⟨k + 1, by omega, by go_num, HG1.out⟩
      case measure => simp [intOf]; omega
    · generalize l[k].t = t at ha hg
      by_cases g1 : t < 0
      · clear hg
        go_wp2
        go_ret
        exact ⟨rfl, Below.refl _ _⟩
      · have g2 : (N : Int) ≤ t := by omega
        clear hg
        go_wp2
        go_ret
        exact ⟨rfl, Below.refl _ _⟩
end Go.Proofs.Qxb6602655aMods
