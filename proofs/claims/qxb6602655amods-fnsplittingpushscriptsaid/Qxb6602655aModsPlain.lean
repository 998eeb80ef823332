/-
  FnSplittingPushScript: the plain law: what the queue holds behind the first pushes of a script. No Go text in sight.
-/
import Derived.Test.Qxb6602655aModsZzPush
namespace Go.Proofs.Qxb6602655aMods
open Go.RowKit
set_option linter.unusedSimpArgs false

def isF (e : E) : Bool := !wts e.t e.s
def isW (p : Nat) (e : E) : Bool := wts e.t e.s && decide (e.t = (p : Int))
def isFp (p : Nat) (e : E) : Bool := !wts e.t e.s && decide (e.t = (p : Int))
/-- The pools behind the pushes of l. -/
def PL (l : List E) (i : Nat) : List E := if i = 0 then l.filter isF else l.filter (isW (i - 1))
def CN (l : List E) (p : Nat) : Nat := (l.filter (isFp p)).length
def CL (l : List E) (p : Nat) : Int := (CN l p : Int)
def sumTo (g : Nat → Nat) : Nat → Nat
  | 0 => 0
  | n + 1 => sumTo g n + g n
def term (l : List E) (p : Nat) : Nat := if CN l p = 0 then (l.filter (isW p)).length else 0
def RN (N : Nat) (l : List E) : Nat := sumTo (term l) N

theorem sumTo_congr {g h : Nat → Nat} {n : Nat} (e : ∀ p, p < n → g p = h p) : sumTo g n = sumTo h n := by
  induction n with
  | zero => rfl
  | succ n ih => simp only [sumTo]; rw [ih (fun p hp => e p (by omega)), e n (by omega)]
theorem sumTo_one {g h : Nat → Nat} {t : Nat} : ∀ {n : Nat}, t < n → (∀ p, p ≠ t → g p = h p) → sumTo g n + h t = sumTo h n + g t
  | 0, ht, _ => by omega
  | n + 1, ht, e => by
    simp only [sumTo]
    by_cases hn : n = t
    · subst hn
      rw [sumTo_congr (fun p hp => e p (by omega))]; omega
    · have := sumTo_one (n := n) (by omega) e
      rw [e n hn]; omega
theorem sumTo_le {g : Nat → Nat} {b : Nat} : ∀ {n : Nat}, (∀ p, g p ≤ b) → sumTo g n ≤ n * b
  | 0, _ => by simp [sumTo]
  | n + 1, h => by
    have := sumTo_le (n := n) h
    have := h n
    simp only [sumTo, Nat.add_mul, Nat.one_mul]; omega
theorem term_le (l : List E) (p : Nat) : term l p ≤ l.length := by
  unfold term; split
  · exact List.length_filter_le _ _
  · omega
theorem RN_le (N : Nat) (l : List E) : RN N l ≤ N * l.length := sumTo_le (term_le l)
theorem CN_le (l : List E) (p : Nat) : CN l p ≤ l.length := List.length_filter_le _ _
theorem PL_le (l : List E) (i : Nat) : (PL l i).length ≤ l.length := by unfold PL; split <;> exact List.length_filter_le _ _

section
variable {l : List E} {e : E} {t : Nat}
theorem filt_yes (p : E → Bool) (h : p e = true) : (l ++ [e]).filter p = l.filter p ++ [e] := by simp [List.filter_append, List.filter_cons, h]
theorem filt_no (p : E → Bool) (h : p e = false) : (l ++ [e]).filter p = l.filter p := by simp [List.filter_append, List.filter_cons, h]

theorem stepP_PL (ht : e.t = (t : Int)) : stepP (PL l) t e = PL (l ++ [e]) := by
  funext i
  unfold stepP
  by_cases hw : wts t e.s = true
  · rw [if_pos hw]
    by_cases h0 : i = 0
    · subst h0
      rw [upd_other _ _ (by omega)]
      simp only [PL, if_true]
      exact (filt_no isF (by simp [isF, ht, hw])).symm
    · by_cases hi : i = t + 1
      · subst hi
        rw [upd_same]
        simp only [PL, h0, if_false, Nat.add_sub_cancel]
        exact (filt_yes (isW t) (by simp [isW, ht, hw])).symm
      · rw [upd_other _ _ hi]
        simp only [PL, h0, if_false]
        exact (filt_no (isW (i - 1)) (by simp [isW, ht, hw]; omega)).symm
  · rw [if_neg hw]
    have hw' : wts t e.s = false := by simpa using hw
    by_cases h0 : i = 0
    · subst h0
      rw [upd_same]
      simp only [PL, if_true]
      exact (filt_yes isF (by simp [isF, ht, hw'])).symm
    · rw [upd_other _ _ h0]
      simp only [PL, h0, if_false]
      exact (filt_no (isW (i - 1)) (by simp [isW, ht, hw'])).symm

theorem CN_step (ht : e.t = (t : Int)) (p : Nat) : CN (l ++ [e]) p = if wts t e.s = true then CN l p else if p = t then CN l p + 1 else CN l p := by
  unfold CN
  by_cases hw : wts t e.s = true
  · rw [if_pos hw, filt_no (isFp p) (by simp [isFp, ht, hw])]
  · have hw' : wts t e.s = false := by simpa using hw
    rw [if_neg hw]
    by_cases hp : p = t
    · subst hp
      rw [if_pos rfl, filt_yes (isFp p) (by simp [isFp, ht, hw'])]; simp
    · rw [if_neg hp, filt_no (isFp p) (by simp [isFp, ht, hw']; omega)]
theorem W_step (ht : e.t = (t : Int)) (p : Nat) : ((l ++ [e]).filter (isW p)).length = if wts t e.s = true then (if p = t then (l.filter (isW p)).length + 1 else (l.filter (isW p)).length) else (l.filter (isW p)).length := by
  by_cases hw : wts t e.s = true
  · rw [if_pos hw]
    by_cases hp : p = t
    · subst hp
      rw [if_pos rfl, filt_yes (isW p) (by simp [isW, ht, hw])]; simp
    · rw [if_neg hp, filt_no (isW p) (by simp [isW, ht, hw]; omega)]
  · have hw' : wts t e.s = false := by simpa using hw
    rw [if_neg hw, filt_no (isW p) (by simp [isW, ht, hw'])]

theorem stepC_CL (ht : e.t = (t : Int)) (hl : l.length ≤ 1048576) : stepC (CL l) t e = CL (l ++ [e]) := by
  funext p
  unfold stepC
  by_cases hw : wts t e.s = true
  · rw [if_pos hw]; unfold CL; rw [CN_step ht, if_pos hw]
  · rw [if_neg hw]
    by_cases hp : p = t
    · subst hp
      rw [upd_same]; unfold CL; rw [CN_step ht, if_neg hw, if_pos rfl]
      have := CN_le l p
      unfold wrap64; omega
    · rw [upd_other _ _ hp]; unfold CL; rw [CN_step ht, if_neg hw, if_neg hp]

theorem stepR_RN {N : Nat} (ht : e.t = (t : Int)) (hN : t < N) (hN' : N ≤ 65536) (hl : l.length ≤ 1048576) : stepR (PL l) (CL l) (RN N l) t e = RN N (l ++ [e]) := by
  have hb : RN N l ≤ 65536 * 1048576 := Nat.le_trans (RN_le N l) (Nat.mul_le_mul hN' hl)
  have hother : ∀ p, p ≠ t → term (l ++ [e]) p = term l p := by
    intro p hp
    unfold term
    rw [CN_step ht, W_step ht]
    simp [hp]
  have hone := sumTo_one (g := term (l ++ [e])) (h := term l) hN hother
  have hW : (PL l (t + 1)).length = (l.filter (isW t)).length := by simp [PL]
  have hWl : (l.filter (isW t)).length ≤ l.length := List.length_filter_le _ _
  change RN N (l ++ [e]) + term l t = RN N l + term (l ++ [e]) t at hone
  unfold stepR
  have hterm : term (l ++ [e]) t = if wts t e.s = true then (if CN l t = 0 then (l.filter (isW t)).length + 1 else 0) else 0 := by
    unfold term
    rw [CN_step ht, W_step ht]
    by_cases hw : wts t e.s = true
    · simp [hw]
    · simp [hw]
  have hterm0 : term l t = if CN l t = 0 then (l.filter (isW t)).length else 0 := rfl
  rw [hterm, hterm0] at hone
  by_cases hw : wts t e.s = true
  · rw [if_pos hw] at hone ⊢
    by_cases hc : CN l t = 0
    · rw [if_pos (show CL l t = 0 by unfold CL; omega)]
      rw [if_pos hc, if_pos hc] at hone
      unfold wrap64; omega
    · rw [if_neg (show ¬ CL l t = 0 by unfold CL; omega)]
      rw [if_neg hc, if_neg hc] at hone
      omega
  · rw [if_neg hw] at hone ⊢
    by_cases hc : CN l t = 0
    · rw [if_pos (show CL l t = 0 by unfold CL; omega), hW]
      rw [if_pos hc] at hone
      unfold wrap64; omega
    · rw [if_neg (show ¬ CL l t = 0 by unfold CL; omega)]
      rw [if_neg hc] at hone
      omega
end

/-! ### Finding a script's copy in its pool -/
theorem filt_at (p : E → Bool) (l : List E) (i : Nat) (hi : i < l.length) (hp : p l[i] = true) : ((l.take i).filter p).length < (l.filter p).length ∧ (l.filter p)[((l.take i).filter p).length]? = some l[i] := by
  have e : l = l.take i ++ l[i] :: l.drop (i + 1) := by simp
  have e2 : l.filter p = (l.take i).filter p ++ l[i] :: (l.drop (i + 1)).filter p := by
    conv => lhs; rw [e]
    rw [List.filter_append, List.filter_cons, if_pos hp]
  constructor
  · rw [e2]; simp
  · rw [e2]; simp
theorem rows_get : ∀ (l : List E) (c : Nat) (hc : c < l.length) (j : Nat), j < 5 → (rows l)[c * 5 + j]? = (l[c].cells)[j]?
  | a :: l, 0, _, j, hj => by
    simp only [rows, List.flatMap_cons, Nat.zero_mul, Nat.zero_add, List.getElem_cons_zero]
    rw [List.getElem?_append_left (by rw [E.cells_length]; exact hj)]
  | a :: l, c + 1, hc, j, hj => by
    have hc' : c < l.length := by simpa using hc
    have ih := rows_get l c hc' j hj
    simp only [rows, List.flatMap_cons, List.getElem_cons_succ] at ih ⊢
    rw [List.getElem?_append_right (by rw [E.cells_length]; omega), E.cells_length, show (c + 1) * 5 + j - 5 = c * 5 + j by omega]
    exact ih
/-- The copy at place c of an owned row. -/
theorem own_copy {w : World} {base g n cap c : Nat} {l : List E} (h : w.ownsRow base 67 5 (.slice (some ⟨g, 0, none⟩) n cap) l.length (rows l)) (hc : c < l.length) :
    w.cell? ⟨g, c * 5, none⟩ = some (.int .i64 l[c].f) ∧ w.cell? ⟨g, c * 5 + 1, none⟩ = some (.int .i64 l[c].t) ∧ w.cell? ⟨g, c * 5 + 2, none⟩ = some (.int .i64 l[c].m) ∧ w.cell? ⟨g, c * 5 + 3, none⟩ = some (.int .i64 l[c].d) ∧ w.cell? ⟨g, c * 5 + 4, none⟩ = some (.int .i8 l[c].s) := by
  have hn : n = l.length := by
    rcases h.2 with ⟨e, _⟩ | ⟨_, _, _, e, _⟩
    · cases e
    · injection e
  subst hn
  have key : ∀ j, j < 5 → w.cell? ⟨g, c * 5 + j, none⟩ = (l[c].cells)[j]? := fun j hj => by
    rw [h.cellAt (c * 5 + j) (by omega), rows_get l c hc j hj]
  exact ⟨key 0 (by omega), key 1 (by omega), key 2 (by omega), key 3 (by omega), key 4 (by omega)⟩
theorem own_some {w : World} {base n c : Nat} {v : Value} {l : List E} (h : w.ownsRow base 67 5 v n (rows l)) (hn : n = l.length) (hc : c < l.length) : ∃ g cap, v = .slice (some ⟨g, 0, none⟩) l.length cap ∧ g < w.heap.size := by
  rcases h.2 with ⟨_, e⟩ | ⟨g, cap, cur, e, _, hg, _⟩
  · omega
  · exact ⟨g, cap, by rw [e, hn], (Array.getElem?_eq_some_iff.1 hg).1⟩
end Go.Proofs.Qxb6602655aMods
