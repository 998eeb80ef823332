/-
  Rows of Env in memory; what FnSplittingPushOneStep's helpers do with them: b1ToPool (19), b1PoolIs (26), b1PoolIsPlus (27).
-/
import Derived.Test.Qxb6602655aModsZzPush2
namespace Go.Proofs.Qxb6602655aMods
open Go.RowKit
set_option linter.unusedSimpArgs false

/-- Five cells hold the copy e. -/
structure At (w : World) (b o : Nat) (e : E) : Prop where
  a0 : w.cell? ⟨b, o, none⟩ = some (.int .i64 e.f)
  a1 : w.cell? ⟨b, o + 1, none⟩ = some (.int .i64 e.t)
  a2 : w.cell? ⟨b, o + 2, none⟩ = some (.int .i64 e.m)
  a3 : w.cell? ⟨b, o + 3, none⟩ = some (.int .i64 e.d)
  a4 : w.cell? ⟨b, o + 4, none⟩ = some (.int .i8 e.s)
def Envs (w : World) (b off : Nat) (l : List E) : Prop := ∀ i (hi : i < l.length), At w b (off + i * 5) l[i]
theorem At.below {w v : World} {B b o : Nat} {e : E} (h : At w b o e) (g : Below B w v) (hb : b < B) : At v b o e :=
  ⟨(g.cell (p := ⟨b, _, none⟩) hb).trans h.a0, (g.cell (p := ⟨b, _, none⟩) hb).trans h.a1, (g.cell (p := ⟨b, _, none⟩) hb).trans h.a2, (g.cell (p := ⟨b, _, none⟩) hb).trans h.a3, (g.cell (p := ⟨b, _, none⟩) hb).trans h.a4⟩

theorem At.kept {w v : World} {row : Option Nat} {b o : Nat} {e : E} (h : At w b o e) (g : w.grownBy v row) (hr : some b ≠ row) : At v b o e :=
  ⟨g.cell h.a0 hr, g.cell h.a1 hr, g.cell h.a2 hr, g.cell h.a3 hr, g.cell h.a4 hr⟩
theorem At_box (w : World) (f t m d s : Int) (T : TypeId) : At (w.alloc (.cells #[.int .i64 f, .int .i64 t, .int .i64 m, .int .i64 d, .int .i8 s] T)) w.heap.size 0 ⟨f, t, m, d, s⟩ := by
  constructor <;> simp
/-- b1SameEnv, as a region wants it: every cell that was there reads as before. -/
theorem same31' (f t m d s : Int) (w : World) : Calls Trym.prog 31 #[.agg #[.int .i64 f, .int .i64 t, .int .i64 m, .int .i64 d, .int .i8 s], .agg #[.int .i64 f, .int .i64 t, .int .i64 m, .int .i64 d, .int .i8 s]] w fun r w' => r = .returned (.bool true) ∧ (∀ a v, w.cell? a = some v → w'.cell? a = some v) ∧ w.grownBy w' none :=
  (same31 f t m d s w).mono fun _ _ ⟨h, g⟩ => ⟨h, fun _ _ hc => g.cell hc (by simp), g⟩
theorem rows_get : ∀ (l : List E) (c : Nat) (hc : c < l.length) (j : Nat), j < 5 → (rows l)[c * 5 + j]? = (l[c].cells)[j]?
  | a :: l, 0, _, j, hj => by
    simp only [rows, List.flatMap_cons, Nat.zero_mul, Nat.zero_add, List.getElem_cons_zero]
    rw [List.getElem?_append_left (by rw [E.cells_length]; exact hj)]
  | a :: l, c + 1, hc, j, hj => by
    have hc' : c < l.length := by simpa using hc
    have ih := rows_get l c hc' j hj
    simp only [rows, List.flatMap_cons, List.getElem_cons_succ] at ih ⊢
    rw [List.getElem?_append_right (by rw [E.cells_length]; omega), E.cells_length, show (c + 1) * 5 + j - 5 = c * 5 + j by omega]
    exact ih
/-- The copy at place c of an owned row. -/
theorem own_copy {w : World} {base g n cap c : Nat} {l : List E} (h : w.ownsRow base 67 5 (.slice (some ⟨g, 0, none⟩) n cap) l.length (rows l)) (hc : c < l.length) :
    w.cell? ⟨g, c * 5, none⟩ = some (.int .i64 l[c].f) ∧ w.cell? ⟨g, c * 5 + 1, none⟩ = some (.int .i64 l[c].t) ∧ w.cell? ⟨g, c * 5 + 2, none⟩ = some (.int .i64 l[c].m) ∧ w.cell? ⟨g, c * 5 + 3, none⟩ = some (.int .i64 l[c].d) ∧ w.cell? ⟨g, c * 5 + 4, none⟩ = some (.int .i8 l[c].s) := by
  have hn : n = l.length := by
    rcases h.2 with ⟨e, _⟩ | ⟨_, _, _, e, _⟩
    · cases e
    · injection e
  subst hn
  have key : ∀ j, j < 5 → w.cell? ⟨g, c * 5 + j, none⟩ = (l[c].cells)[j]? := fun j hj => by
    rw [h.cellAt (c * 5 + j) (by omega), rows_get l c hc j hj]
  exact ⟨key 0 (by omega), key 1 (by omega), key 2 (by omega), key 3 (by omega), key 4 (by omega)⟩
theorem own_some {w : World} {base n c : Nat} {v : Value} {l : List E} (h : w.ownsRow base 67 5 v n (rows l)) (hn : n = l.length) (hc : c < l.length) : ∃ g cap, v = .slice (some ⟨g, 0, none⟩) l.length cap ∧ g < w.heap.size := by
  rcases h.2 with ⟨_, e⟩ | ⟨g, cap, cur, e, _, hg, _⟩
  · omega
  · exact ⟨g, cap, by rw [e, hn], (Array.getElem?_eq_some_iff.1 hg).1⟩

theorem Envs.kept {w v : World} {row : Option Nat} {b off : Nat} {l : List E} (h : Envs w b off l) (g : w.grownBy v row) (hr : some b ≠ row) : Envs v b off l := fun i hi => (h i hi).kept g hr

theorem gb_new {w v u : World} {g : Nat} (h : w.grownBy v none) (k : v.grownBy u (some g)) (hg : w.heap.size ≤ g) : w.grownBy u none :=
  ⟨k.os.trans h.os, k.tape.trans h.tape, k.output.trans h.output, Nat.le_trans h.size k.size, fun j hj _ => (k.block j (Nat.lt_of_lt_of_le hj h.size) (by simp; omega)).trans (h.block j hj (by simp))⟩

/-- What b1ToPool leaves. -/
def PoolOf (base : Nat) (l : List E) (w w' : World) (v : Value) : Prop := w'.ownsRow base 67 5 v l.length (rows l) ∧ w.grownBy w' none ∧ ∀ k, v.ownBlock = some k → w.heap.size ≤ k

theorem toPool_nil (base : Nat) (w : World) : Calls Trym.prog 19 #[.slice none 0 0] w fun e w' => ∃ v, e = .returned v ∧ PoolOf base [] w w' v := by
  have hne : ∀ w, (binOp .eql 52 (.slice none 0 0) (.slice none 0 0)).run Trym.prog w = .ok (.bool true) w := fun w => by
    rw [Lib.run_eql_slice_nil w 52 56 _ _ _ _ _ Trym.underlying52]; rfl
  go_enter Trym.func19, Trym.ntmps19
  go_wp2
  go_ret
  exact ⟨_, rfl, World.ownsRow_nil _ _ _ _, gb_refl _ _, by simp [Value.ownBlock]⟩

theorem rows_take {l : List E} {k : Nat} (hk : k < l.length) : rows (l.take (k + 1)) = rows (l.take k) ++ l[k].cells := by
  rw [List.take_succ_eq_append_getElem hk, rows_snoc]

set_option maxHeartbeats 1000000 in
theorem toPool_some (base : Nat) (a : Addr) (b off cap : Nat) (l : List E) (w : World) (hbase : base ≤ w.heap.size) (hl : l.length ≤ 1048576) (had : 0 < l.length → a = ⟨b, off, none⟩) (hE : Envs w b off l) :
    Calls Trym.prog 19 #[.slice (some a) l.length cap] w fun e w' => ∃ v, e = .returned v ∧ PoolOf base l w w' v := by
  have hne : ∀ w, (binOp .eql 52 (.slice (some a) l.length cap) (.slice none 0 0)).run Trym.prog w = .ok (.bool false) w := fun w => by
    rw [Lib.run_eql_slice_nil w 52 56 _ _ _ _ _ Trym.underlying52]; rfl
  obtain ⟨i0, hi, hz0, hz1, hz2⟩ := info_parts info67
  have HE : Hid (Envs w b off l) := hE
  have HA : Hid (0 < l.length → a = ⟨b, off, none⟩) := had
  clear hE had
  go_enter Trym.func19, Trym.ntmps19
  go_wp2_with (at_make; refine wpList_make_own _ rfl _ _ 59 rfl base 67 i0 (.agg #[.int .i64 0, .int .i64 0, .int .i64 0, .int .i64 0, .int .i8 0]) 5 Trym.underlying59 hi hz0 hz1 .i64 .i64 _ l.length rfl rfl rfl (by rw [hz2]; omega) (by unfold maxLen; omega) hbase ?_; intro w1 hown hg1)
  have HO : Hid (_) := hown
  have HG : Hid (_) := hg1
  clear hown hg1 hne
  go_loopw [3, 4] (fun v i wr => ∃ k : Nat, k ≤ l.length ∧ i = .int .i64 k ∧ v = .slice (some ⟨w.heap.size, 0, none⟩) k l.length ∧ wr.ownsRow base 67 5 (.slice (some ⟨w.heap.size, 0, none⟩) k l.length) k (rows (l.take k)) ∧ w.grownBy wr none) (fun _ i _ => l.length - (intOf i).toNat)
  case atStart => exact ⟨0, by omega, rfl, rfl, HO.out, HG.out⟩
  case round =>
    obtain ⟨k, hk, rfl, rfl, hown, hgr⟩ := hrel
    have HO1 : Hid (wr.ownsRow base 67 5 (.slice (some ⟨w.heap.size, 0, none⟩) k l.length) k (rows (l.take k))) := hown
    have HG1 : Hid (w.grownBy wr none) := hgr
    clear hown hgr HO HG
    by_cases hkl : k < l.length
    · have hak := HA.out (by omega)
      subst hak
      obtain ⟨a0, a1, a2, a3, a4⟩ := (HE.out.kept HG1.out (by simp)) k hkl
      have HR : Hid (rows (l.take (k + 1)) = rows (l.take k) ++ l[k].cells) := rows_take hkl
      obtain ⟨e, he⟩ : ∃ e, Hid (l[k] = e) := ⟨l[k], (rfl : l[k] = l[k])⟩
      rw [he.out] at a0 a1 a2 a3 a4 HR
      obtain ⟨f, t, m, d, s⟩ := e
      simp only at a0 a1 a2 a3 a4
      go_wp2_with fail
      refine (env23 f t m d s _).mono ?_
      rintro res w1 ⟨rfl, hg1⟩
      have HO2 : Hid (∀ o, (w1.alloc o).ownsRow base 67 5 (.slice (some ⟨w.heap.size, 0, none⟩) k l.length) k (rows (l.take k))) := fun o => (HO1.out.kept hg1 (.inr (by simp [Value.ownBlock]))).alloc o
      have HG2 : Hid (∀ o, wr.grownBy (w1.alloc o) none) := fun o => gb_alloc hg1 o
      clear a0 a1 a2 a3 a4 hg1
      go_wp2_with (at_builtin; refine wpList_append_fits _ rfl _ _ 59 rfl base 67 i0 5 Trym.underlying59 hi hz1 w.heap.size k l.length (rows (l.take k)) rfl (HO2.out _) ⟨w1.heap.size, 0, none⟩ 1 1 [.int .i64 f, .int .i64 t, .int .i64 m, .int .i64 d, .int .i8 s] rfl rfl (World.news_of_block (cs := #[.int .i64 f, .int .i64 t, .int .i64 m, .int .i64 d, .int .i8 s]) (t := 67) (fr := (0, 0)) (heap_alloc_new w1 _)) (by simp [Value.oneCell']) (by omega) ?_; intro w2 hown2 hg2)
      have G2 := gb_new (gb_trans HG1.out (HG2.out _)) hg2 (Nat.le_refl _)
      go_roundw
      case rel => exact ⟨k + 1, by omega, by go_num, rfl, by rw [HR.out]; exact hown2, G2⟩
      case measure => simp [intOf]; omega
    have hkl' : k = l.length := by omega
    subst hkl'
    rw [List.take_length] at HO1
    go_wp2
    go_ret
    exact ⟨_, rfl, HO1.out, HG1.out, by simp [Value.ownBlock]⟩

theorem own_at {w : World} {base c : Nat} {vx : Option Addr} {vc : Nat} {l : List E} (h : w.ownsRow base 67 5 (.slice vx l.length vc) l.length (rows l)) (hc : c < l.length) : ∃ g, vx = some ⟨g, 0, none⟩ ∧ At w g (c * 5) l[c] := by
  obtain ⟨g, cap, hv, _⟩ := own_some h rfl hc
  injection hv with e1 _ _
  subst e1
  obtain ⟨b0, b1, b2, b3, b4⟩ := own_copy h hc
  exact ⟨g, rfl, ⟨b0, b1, b2, b3, b4⟩⟩

set_option maxHeartbeats 1000000 in
/-- b1PoolIs: a pool that holds what es holds. -/
theorem poolIs (base : Nat) (vx : Option Addr) (vc : Nat) (ad : Option Addr) (b off cap : Nat) (l : List E) (w : World) (hl : l.length ≤ 1048576) (hown : w.ownsRow base 67 5 (.slice vx l.length vc) l.length (rows l)) (had : 0 < l.length → ad = some ⟨b, off, none⟩) (hE : Envs w b off l) :
    Calls Trym.prog 26 #[.slice vx l.length vc, .slice ad l.length cap] w fun e w' => e = .returned (.bool true) ∧ w.grownBy w' none := by
  have HE : Hid (Envs w b off l) := hE
  have HO : Hid (w.ownsRow base 67 5 (.slice vx l.length vc) l.length (rows l)) := hown
  have HA : Hid (0 < l.length → ad = some ⟨b, off, none⟩) := had
  clear hE had hown
  go_enter Trym.func26, Trym.ntmps26
  go_wp2
  go_loopw [5] (fun i wr => ∃ k : Nat, k ≤ l.length ∧ i = .int .i64 k ∧ w.grownBy wr none) (fun i _ => l.length - (intOf i).toNat)
  case atStart => exact ⟨0, by omega, rfl, gb_refl _ _⟩
  case round =>
    obtain ⟨k, hk, rfl, hgr⟩ := hrel
    have HG : Hid (w.grownBy wr none) := hgr
    clear hgr
    by_cases hkl : k < l.length
    · have hak := HA.out (by omega)
      subst hak
      obtain ⟨g, hv, hat⟩ := own_at (HO.out.kept HG.out (by cases (Value.slice vx l.length vc).ownBlock <;> simp)) hkl
      subst hv
      obtain ⟨x0, x1, x2, x3, x4⟩ := hat
      obtain ⟨a0, a1, a2, a3, a4⟩ := (HE.out.kept HG.out (by simp)) k hkl
      generalize l[k] = e at a0 a1 a2 a3 a4 x0 x1 x2 x3 x4
      obtain ⟨f, t, m, d, s⟩ := e
      simp only at a0 a1 a2 a3 a4 x0 x1 x2 x3 x4
      have i1 : (0 : Int) ≤ (k : Int) := by omega
      have i2 : (k : Int) < (l.length : Int) := by omega
      go_wp2
      go_region_with (go_at_call 31; refine (same31 f t m d s _).mono ?_; rintro res w1 ⟨rfl, hg1⟩)
      all_goals
        have HG1 : Hid (w.grownBy w1 none) := gb_trans HG.out (gb_trans (gb_drew (gb_refl _ _)) hg1)
        clear hg1 a0 a1 a2 a3 a4 x0 x1 x2 x3 x4
        go_wp2
        go_roundw
        case rel => exact ⟨k + 1, by omega, by go_num, HG1.out⟩
        case measure => simp [intOf]; omega
    · go_wp2
      go_ret
      exact ⟨rfl, HG.out⟩

set_option maxHeartbeats 1000000 in
/-- b1PoolIsPlus: a pool that holds what es holds, and one copy more. -/
theorem poolIsPlus (base : Nat) (vx : Option Addr) (vc : Nat) (ad : Option Addr) (b off cap : Nat) (l : List E) (ef et em ed es : Int) (w : World) (hl : l.length ≤ 1048576) (hown : w.ownsRow base 67 5 (.slice vx (l.length + 1) vc) (l.length + 1) (rows (l ++ [⟨ef, et, em, ed, es⟩]))) (had : 0 < l.length → ad = some ⟨b, off, none⟩) (hE : Envs w b off l) :
    Calls Trym.prog 27 #[.slice vx (l.length + 1) vc, .slice ad l.length cap, .agg #[.int .i64 ef, .int .i64 et, .int .i64 em, .int .i64 ed, .int .i8 es]] w fun e w' => e = .returned (.bool true) ∧ w.grownBy w' none := by
  have HE : Hid (Envs w b off l) := hE
  have hlen : (l ++ [(⟨ef, et, em, ed, es⟩ : E)]).length = l.length + 1 := by simp
  obtain ⟨g, hv, hdrop⟩ := own_at (vx := vx) (vc := vc) (l := l ++ [(⟨ef, et, em, ed, es⟩ : E)]) (c := 0) (by rw [hlen]; exact hown) (by rw [hlen]; omega)
  clear hdrop
  subst hv
  have HO : Hid (∀ (v : World) (c : Nat) (hc : c < (l ++ [(⟨ef, et, em, ed, es⟩ : E)]).length), w.grownBy v none → At v g (c * 5) (l ++ [(⟨ef, et, em, ed, es⟩ : E)])[c]) := fun v c hc hg => by
    obtain ⟨g', hv, hat⟩ := own_at (vx := some ⟨g, 0, none⟩) (vc := vc) (l := l ++ [(⟨ef, et, em, ed, es⟩ : E)]) (c := c) (by rw [hlen]; exact hown) hc
    injection hv with hv; injection hv with hv; subst hv
    exact hat.kept hg (by simp)
  have HA : Hid (0 < l.length → ad = some ⟨b, off, none⟩) := had
  clear hE had hown hlen
  go_enter Trym.func27, Trym.ntmps27
  go_wp2
  go_loopw [7] (fun i wr => ∃ k : Nat, k ≤ l.length ∧ i = .int .i64 k ∧ (w.alloc (.cells #[.int .i64 ef, .int .i64 et, .int .i64 em, .int .i64 ed, .int .i8 es] 56)).grownBy wr none) (fun i _ => l.length - (intOf i).toNat)
  case atStart => exact ⟨0, by omega, rfl, gb_refl _ _⟩
  case round =>
    obtain ⟨k, hk, rfl, hgr⟩ := hrel
    have HG : Hid (w.grownBy wr none) := gb_trans (gb_alloc (gb_refl _ _) _) hgr
    have HGB : Hid ((w.alloc (.cells #[.int .i64 ef, .int .i64 et, .int .i64 em, .int .i64 ed, .int .i8 es] 56)).grownBy wr none) := hgr
    obtain ⟨y0, y1, y2, y3, y4⟩ := (At_box w ef et em ed es 56).kept hgr (by simp)
    simp only [Nat.zero_add] at y0 y1 y2 y3 y4
    clear hgr
    by_cases hkl : k < l.length
    · have hak := HA.out (by omega)
      subst hak
      have hat := HO.out wr k (by simp; omega) HG.out
      rw [List.getElem_append_left hkl] at hat
      obtain ⟨x0, x1, x2, x3, x4⟩ := hat
      obtain ⟨a0, a1, a2, a3, a4⟩ := (HE.out.kept HG.out (by simp)) k hkl
      generalize l[k] = e at a0 a1 a2 a3 a4 x0 x1 x2 x3 x4
      obtain ⟨f, t, m, d, s⟩ := e
      simp only at a0 a1 a2 a3 a4 x0 x1 x2 x3 x4
      have i1 : (0 : Int) ≤ (k : Int) := by omega
      have i2 : (k : Int) < (l.length : Int) := by omega
      have i3 : (k : Int) < ((l.length + 1 : Nat) : Int) := by omega
      clear y0 y1 y2 y3 y4
      go_wp2
      go_region_with (go_at_call 31; refine (same31 f t m d s _).mono ?_; rintro res w1 ⟨rfl, hg1⟩)
      all_goals
        have HG1 : Hid (_) := gb_trans HGB.out (gb_trans (gb_drew (gb_refl _ _)) hg1)
        clear hg1 a0 a1 a2 a3 a4 x0 x1 x2 x3 x4
        go_wp2
        go_roundw
        case rel => exact ⟨k + 1, by omega, by go_num, HG1.out⟩
        case measure => simp [intOf]; omega
    · have hkl' : k = l.length := by omega
      subst hkl'
      have hat := HO.out wr l.length (by simp) HG.out
      have ee : (l ++ [(⟨ef, et, em, ed, es⟩ : E)])[l.length]'(by simp) = ⟨ef, et, em, ed, es⟩ := by simp
      rw [ee] at hat
      obtain ⟨x0, x1, x2, x3, x4⟩ := hat
      simp only at x0 x1 x2 x3 x4
      have i1 : (0 : Int) ≤ (l.length : Int) := by omega
      have i3 : (l.length : Int) < ((l.length + 1 : Nat) : Int) := by omega
      clear ee
      go_wp2
      go_region_with (go_at_call 31; refine (same31 ef et em ed es _).mono ?_; rintro res w1 ⟨rfl, hg1⟩)
      all_goals
        have HG1 : Hid (_) := gb_trans HG.out (gb_trans (gb_drew (gb_refl _ _)) hg1)
        clear hg1 x0 x1 x2 x3 x4 y0 y1 y2 y3 y4
        go_wp2
        go_ret
        exact ⟨rfl, HG1.out⟩
end Go.Proofs.Qxb6602655aMods
