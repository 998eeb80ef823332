/-
  FnSplittingPushOneStep: the plain law of released. No Go text in sight.
-/
import Derived.Test.Qxb6602655aModsOneOut
namespace Go.Proofs.Qxb6602655aMods
open Go.RowKit
set_option linter.unusedSimpArgs false

/-- The pools as the law lays them: 0: free; p + 1: waiting[p]. -/
def PP (lf : List E) (wl : Nat → List E) (i : Nat) : List E := match i with
  | 0 => lf
  | p + 1 => wl p

section
variable {lf : List E} {wl : Nat → List E} {t : Nat} {e : E} {cf : Nat → Int} {r : Int}
theorem P0_w (hw : wts t e.s = true) : stepP (PP lf wl) t e 0 = lf := by
  unfold stepP; rw [if_pos hw, upd_other _ _ (by omega)]; rfl
theorem Pt_w (hw : wts t e.s = true) : stepP (PP lf wl) t e (t + 1) = wl t ++ [e] := by
  unfold stepP; rw [if_pos hw, upd_same]; rfl
theorem Pp_w (hw : wts t e.s = true) {p : Nat} (hp : ¬ p = t) : stepP (PP lf wl) t e (p + 1) = wl p := by
  unfold stepP; rw [if_pos hw, upd_other _ _ (by omega)]; rfl
theorem C_w (hw : wts t e.s = true) : stepC cf t e = cf := by unfold stepC; rw [if_pos hw]
theorem P0_f (hw : wts t e.s = false) : stepP (PP lf wl) t e 0 = lf ++ [e] := by
  unfold stepP; rw [if_neg (by simp [hw]), upd_same]; rfl
theorem Pp_f (hw : wts t e.s = false) (p : Nat) : stepP (PP lf wl) t e (p + 1) = wl p := by
  unfold stepP; rw [if_neg (by simp [hw]), upd_other _ _ (by omega)]; rfl
theorem C_f (hw : wts t e.s = false) : stepC cf t e = upd cf t (wrap64 (cf t + 1)) := by unfold stepC; rw [if_neg (by simp [hw])]

theorem lets_congr {c c' : Nat → Int} {l l' : Nat → Nat} {n : Nat} (h : ∀ p, p < n → c p = c' p ∧ l p = l' p) : lets c l n = lets c' l' n := by
  induction n with
  | zero => rfl
  | succ n ih => simp only [lets]; rw [ih (fun p hp => h p (by omega)), (h n (by omega)).1, (h n (by omega)).2]
theorem lets_one {c c' : Nat → Int} {l l' : Nat → Nat} {t : Nat} : ∀ {n : Nat}, t < n → (∀ p, p ≠ t → c p = c' p ∧ l p = l' p) → lets c l n + (if c' t = 0 then l' t else 0) = lets c' l' n + (if c t = 0 then l t else 0)
  | 0, ht, _ => by omega
  | n + 1, ht, h => by
    simp only [lets]
    by_cases hn : n = t
    · subst hn
      rw [lets_congr (fun p hp => h p (by omega))]; omega
    · have := lets_one (n := n) (by omega) h
      rw [(h n hn).1, (h n hn).2]; omega
theorem lets_tl (c : Nat → Int) (wl : Nat → List E) (k : Nat) : lets c (fun p => (wl p).length) k ≤ tl wl k := by
  induction k with
  | zero => exact Nat.le_refl _
  | succ k ih => simp only [lets, tl]; split <;> omega

/-- The numbers of waiting copies let through, behind the push. -/
theorem lets_bound (k : Nat) : lets (stepC cf t e) (fun p => (stepP (PP lf wl) t e (p + 1)).length) k ≤ tl wl k + 1 := by
  by_cases hw : wts t e.s = true
  · have hle : lets (stepC cf t e) (fun p => (stepP (PP lf wl) t e (p + 1)).length) k ≤ lets (stepC cf t e) (fun p => (wl p).length) k + 1 := by
      by_cases ht : t < k
      · have h := lets_one (c := stepC cf t e) (c' := stepC cf t e) (l := fun p => (stepP (PP lf wl) t e (p + 1)).length) (l' := fun p => (wl p).length) ht (fun p hp => ⟨rfl, congrArg List.length (Pp_w hw hp)⟩)
        simp only [Pt_w hw, List.length_append, List.length_singleton] at h
        split at h <;> omega
      · rw [lets_congr (c := stepC cf t e) (c' := stepC cf t e) (l' := fun p => (wl p).length) (fun p hp => ⟨rfl, congrArg List.length (Pp_w hw (by omega))⟩)]; omega
    have := lets_tl (stepC cf t e) wl k
    omega
  · have hw' : wts t e.s = false := by simpa using hw
    rw [lets_congr (c := stepC cf t e) (c' := stepC cf t e) (l' := fun p => (wl p).length) (fun p hp => ⟨rfl, congrArg List.length (Pp_f hw' p)⟩)]
    have := lets_tl (stepC cf t e) wl k
    omega

theorem let_law {n : Nat} (ht : t < n) (h0 : 0 ≤ cf t) (h1 : cf t ≤ 9223372036854775807) (hb : tl wl n ≤ 1048576) :
    wrap64 (stepR (PP lf wl) cf r t e - r) = (lets (stepC cf t e) (fun p => (stepP (PP lf wl) t e (p + 1)).length) n : Int) - (lets cf (fun p => (wl p).length) n : Int) := by
  have hlt : (wl t).length ≤ tl wl n := by have := tl_mono wl (show t + 1 ≤ n by omega); simp only [tl] at this; omega
  have hPt : (PP lf wl (t + 1)).length = (wl t).length := rfl
  by_cases hw : wts t e.s = true
  · have h := lets_one (c := stepC cf t e) (c' := cf) (l := fun p => (stepP (PP lf wl) t e (p + 1)).length) (l' := fun p => (wl p).length) ht (fun p hp => ⟨by rw [C_w hw], congrArg List.length (Pp_w hw hp)⟩)
    simp only [Pt_w hw, C_w hw, List.length_append, List.length_singleton] at h ⊢
    unfold stepR
    rw [if_pos hw]
    by_cases hz : cf t = 0
    · rw [if_pos hz] at h ⊢
      rw [if_pos hz] at h
      unfold wrap64; omega
    · rw [if_neg hz] at h ⊢
      rw [if_neg hz] at h
      unfold wrap64; omega
  · have hw' : wts t e.s = false := by simpa using hw
    have h := lets_one (c := stepC cf t e) (c' := cf) (l := fun p => (stepP (PP lf wl) t e (p + 1)).length) (l' := fun p => (wl p).length) ht (fun p hp => ⟨by rw [C_f hw', upd_other _ _ hp], congrArg List.length (Pp_f hw' p)⟩)
    have hne : ¬ wrap64 (cf t + 1) = 0 := by unfold wrap64; omega
    simp only [C_f hw', upd_same, if_neg hne] at h ⊢
    generalize lets (upd cf t (wrap64 (cf t + 1))) (fun p => (stepP (PP lf wl) t e (p + 1)).length) n = A at h ⊢
    generalize lets cf (fun p => (wl p).length) n = B at h ⊢
    clear hne
    unfold stepR
    rw [if_neg hw]
    by_cases hz : cf t = 0
    · rw [if_pos hz] at h ⊢
      rw [hPt]
      unfold wrap64; omega
    · rw [if_neg hz] at h ⊢
      unfold wrap64; omega
end
end Go.Proofs.Qxb6602655aMods
