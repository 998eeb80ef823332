/-
  FnSplittingPushScript: what the law's own check finds, round by round. No Go text in sight.
-/
import Derived.Test.Qxb6602655aModsScriptWalk
import Derived.Test.Qxb6602655aModsInit
namespace Go.Proofs.Qxb6602655aMods
open Go.RowKit
set_option linter.unusedSimpArgs false

section
variable {w : World} {base q ft wt N k t : Nat} {V : Nat → Value} {l : List E} {cf : Nat → Int} {r f m d s : Int}

theorem find_w (S : Q w base q ft wt N V (PL l) cf r) (hk : k < l.length) (he : l[k] = ⟨f, t, m, d, s⟩) (ht : t < N) (hw : wts t s = true) :
    ∃ g cap, w.cell? ⟨wt, t, none⟩ = some (.slice (some ⟨g, 0, none⟩) (PL l (t + 1)).length cap) ∧ At w g ((PL (l.take k) (t + 1)).length * 5) ⟨f, t, m, d, s⟩ ∧ (PL (l.take k) (t + 1)).length < (PL l (t + 1)).length := by
  have hp : isW t l[k] = true := by rw [he]; simp [isW, hw]
  obtain ⟨h1, h2⟩ := filt_at (isW t) l k hk hp
  have e1 : PL l (t + 1) = l.filter (isW t) := by simp [PL]
  have e2 : PL (l.take k) (t + 1) = (l.take k).filter (isW t) := by simp [PL]
  rw [← e1, ← e2] at h1 h2
  obtain ⟨g, cap, hv, _⟩ := own_some (S.own (t + 1) (by omega)) rfl h1
  have hc := (S.at_ (t + 1) (by omega)).1
  have ho := S.own (t + 1) (by omega)
  rw [hv] at hc ho
  obtain ⟨b0, b1, b2, b3, b4⟩ := own_copy ho h1
  have ee : (PL l (t + 1))[(PL (l.take k) (t + 1)).length] = ⟨f, t, m, d, s⟩ := by
    rw [List.getElem?_eq_getElem h1] at h2
    rw [← he]; exact Option.some.inj h2
  rw [ee] at b0 b1 b2 b3 b4
  exact ⟨g, cap, hc, ⟨b0, b1, b2, b3, b4⟩, h1⟩

theorem find_f (S : Q w base q ft wt N V (PL l) cf r) (hk : k < l.length) (he : l[k] = ⟨f, t, m, d, s⟩) (hw : wts t s = false) :
    ∃ g cap, V 0 = .slice (some ⟨g, 0, none⟩) (PL l 0).length cap ∧ At w g ((PL (l.take k) 0).length * 5) ⟨f, t, m, d, s⟩ ∧ (PL (l.take k) 0).length < (PL l 0).length := by
  have hp : isF l[k] = true := by rw [he]; simp [isF, hw]
  obtain ⟨h1, h2⟩ := filt_at isF l k hk hp
  have e1 : PL l 0 = l.filter isF := by simp [PL]
  have e2 : PL (l.take k) 0 = (l.take k).filter isF := by simp [PL]
  rw [← e1, ← e2] at h1 h2
  obtain ⟨g, cap, hv, _⟩ := own_some (S.own 0 (by omega)) rfl h1
  have ho := S.own 0 (by omega)
  rw [hv] at ho
  obtain ⟨b0, b1, b2, b3, b4⟩ := own_copy ho h1
  have ee : (PL l 0)[(PL (l.take k) 0).length] = ⟨f, t, m, d, s⟩ := by
    rw [List.getElem?_eq_getElem h1] at h2
    rw [← he]; exact Option.some.inj h2
  rw [ee] at b0 b1 b2 b3 b4
  exact ⟨g, cap, hv, ⟨b0, b1, b2, b3, b4⟩, h1⟩

theorem take_next (hk : k < l.length) (he : l[k] = ⟨f, t, m, d, s⟩) : l.take (k + 1) = l.take k ++ [⟨f, t, m, d, s⟩] := by rw [← he, List.take_succ_eq_append_getElem hk]
theorem nxt_w (hk : k < l.length) (he : l[k] = ⟨f, t, m, d, s⟩) (hw : wts t s = true) :
    (fun p : Nat => ((PL (l.take (k + 1)) (p + 1)).length : Int)) = upd (fun p : Nat => ((PL (l.take k) (p + 1)).length : Int)) t ((PL (l.take k) (t + 1)).length + 1) ∧ CL (l.take (k + 1)) = CL (l.take k) ∧ PL (l.take (k + 1)) 0 = PL (l.take k) 0 := by
  have e1 := take_next hk he
  have e2 : PL (l.take (k + 1)) = stepP (PL (l.take k)) t ⟨f, t, m, d, s⟩ := by rw [e1, stepP_PL rfl]
  rw [e2]
  unfold stepP
  rw [if_pos hw]
  refine ⟨?_, ?_, upd_other _ _ (by omega)⟩
  · funext p
    by_cases hp : p = t
    · subst hp; rw [upd_same, upd_same]; simp
    · rw [upd_other _ _ (by omega), upd_other _ _ hp]
  · funext p
    unfold CL
    rw [e1, CN_step (t := t) rfl, if_pos hw]
theorem nxt_f (hk : k < l.length) (he : l[k] = ⟨f, t, m, d, s⟩) (hw : wts t s = false) :
    (fun p : Nat => ((PL (l.take (k + 1)) (p + 1)).length : Int)) = (fun p : Nat => ((PL (l.take k) (p + 1)).length : Int)) ∧ CL (l.take (k + 1)) = upd (CL (l.take k)) t (CL (l.take k) t + 1) ∧ (PL (l.take (k + 1)) 0).length = (PL (l.take k) 0).length + 1 := by
  have e1 := take_next hk he
  have e2 : PL (l.take (k + 1)) = stepP (PL (l.take k)) t ⟨f, t, m, d, s⟩ := by rw [e1, stepP_PL rfl]
  rw [e2]
  unfold stepP
  rw [if_neg (by simp [hw])]
  refine ⟨?_, ?_, by rw [upd_same]; simp⟩
  · funext p
    rw [upd_other _ _ (by omega)]
  · funext p
    by_cases hp : p = t
    · subst hp
      rw [upd_same]
      unfold CL
      rw [e1, CN_step (t := p) rfl, if_neg (by simp [hw]), if_pos rfl]; omega
    · rw [upd_other _ _ hp]
      unfold CL
      rw [e1, CN_step (t := t) rfl, if_neg (by simp [hw]), if_neg hp]
theorem At.kept {w v : World} {row : Option Nat} {b o : Nat} {e : E} (h : At w b o e) (g : w.grownBy v row) (hr : some b ≠ row) : At v b o e :=
  ⟨g.cell h.a0 hr, g.cell h.a1 hr, g.cell h.a2 hr, g.cell h.a3 hr, g.cell h.a4 hr⟩
theorem At_box (w : World) (f t m d s : Int) (T : TypeId) : At (w.alloc (.cells #[.int .i64 f, .int .i64 t, .int .i64 m, .int .i64 d, .int .i8 s] T)) w.heap.size 0 ⟨f, t, m, d, s⟩ := by
  constructor <;> simp
end
/-- b1SameEnv, as a region wants it: every cell that was there reads as before. -/
theorem same31' (f t m d s : Int) (w : World) : Calls Trym.prog 31 #[.agg #[.int .i64 f, .int .i64 t, .int .i64 m, .int .i64 d, .int .i8 s], .agg #[.int .i64 f, .int .i64 t, .int .i64 m, .int .i64 d, .int .i8 s]] w fun r w' => r = .returned (.bool true) ∧ (∀ a v, w.cell? a = some v → w'.cell? a = some v) ∧ w.grownBy w' none :=
  (same31 f t m d s w).mono fun _ _ ⟨h, g⟩ => ⟨h, fun _ _ hc => g.cell hc (by simp), g⟩
end Go.Proofs.Qxb6602655aMods
