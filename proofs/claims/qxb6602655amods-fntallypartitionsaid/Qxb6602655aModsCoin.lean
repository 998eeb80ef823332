/-
  b1CoinResult (14), zzBytes_FnTallyPartition (17): their contracts.
-/
import Derived.Test.Qxb6602655aModsTally
namespace Go.Proofs.Qxb6602655aMods
open Go.RowKit
set_option linter.unusedSimpArgs false

theorem gb_setCell_new {w v : World} {row : Option Nat} {b : Nat} (h : w.grownBy v row) (hb : w.heap.size ≤ b) (o : Nat) (s) (u : Value) : w.grownBy (v.setCell ⟨b, o, s⟩ u) row :=
  ⟨h.os, h.tape, h.output, by have := h.size; simp; omega, fun k hk hr => (Below.heap_setCell v ⟨b, o, s⟩ u k (by simp; omega)).trans (h.block k hk hr)⟩

/-- n numbers of the kind int from ⟨b, off⟩ on. -/
def Row (w : World) (b off n : Nat) (Z : Nat → Int) : Prop := ∀ i, i < n → w.cell? ⟨b, off + i, none⟩ = some (.int .i64 (Z i))
theorem Row.kept {w v : World} {row : Option Nat} {b off n : Nat} {Z : Nat → Int} (h : Row w b off n Z) (g : w.grownBy v row) (hr : some b ≠ row) : Row v b off n Z := fun i hi => g.cell (h i hi) hr

/-- m cells are there in block g, and may be written. -/
def There (w : World) (g m : Nat) : Prop := ∀ j, j < m → (∃ v, w.cell? ⟨g, j, none⟩ = some v) ∧ w.frozen? ⟨g, j, none⟩ = false
theorem There.stored {w : World} {g m : Nat} (h : There w g m) (a : Addr) (u : Value) : There (w.setCell a u) g m := by
  intro j hj
  obtain ⟨⟨v, hv⟩, hf⟩ := h j hj
  refine ⟨cell?_setCell_some hv, ?_⟩
  rw [World.frozen?_setCell]; exact hf
theorem There.drew {w : World} {g m : Nat} (h : There w g m) : There w.drew g m := h

/-- One round stored behind the first k. -/
theorem Rounds.stored {w : World} {g n k : Nat} {Z O C : Nat → Int} (h : Rounds w g k Z O C) (t : There w g (n * 3)) (hk : k < n) :
    Rounds (((w.setCell ⟨g, k * 3, none⟩ (.int .i64 (Z k))).setCell ⟨g, k * 3 + 1, none⟩ (.int .i64 (O k))).setCell ⟨g, k * 3 + 2, none⟩ (.int .i64 (C k))) g (k + 1) Z O C := by
  obtain ⟨⟨v0, h0⟩, _⟩ := t (k * 3) (by omega)
  obtain ⟨⟨v1, h1⟩, _⟩ := t (k * 3 + 1) (by omega)
  obtain ⟨⟨v2, h2⟩, _⟩ := t (k * 3 + 2) (by omega)
  intro i hi
  by_cases e : i = k
  · subst e
    refine ⟨?_, ?_, ?_⟩ <;> simp [go_sem, h0, h1, h2]
  · obtain ⟨a0, a1, a2⟩ := h i (by omega)
    have ne : ∀ (x y : Nat), x ≠ y → (⟨g, x, none⟩ : Addr) ≠ ⟨g, y, none⟩ := fun x y hxy he => by injection he with _ h2 _; exact hxy h2
    refine ⟨?_, ?_, ?_⟩
    all_goals
      rw [World.cell?_setCell_other _ _ _ _ (ne _ _ (by omega)), World.cell?_setCell_other _ _ _ _ (ne _ _ (by omega)), World.cell?_setCell_other _ _ _ _ (ne _ _ (by omega))]
      assumption

theorem info79 : (Trym.prog.info? 79).map (fun i => (i.zero, i.size, i.bytes)) = some (some (.agg #[.int .i64 0, .int .i64 0, .int .i64 0]), 3, 24) := by kernel_rfl
theorem made_there {w : World} {base g n : Nat} {e : TypeId} {xs : List Value} (h : w.ownsRow base e 3 (.slice (some ⟨g, 0, none⟩) n n) n xs) : There w g (n * 3) := by
  intro j hj
  refine ⟨?_, h.frozenAt j⟩
  rw [h.cellAt j hj]
  exact ⟨_, List.getElem?_eq_getElem (by rw [h.1]; exact hj)⟩

set_option maxHeartbeats 1000000 in
theorem coin_some (b0 o0 b1 o1 b2 o2 n c0 c1 c2 : Nat) (Z O C : Nat → Int) (m wd : Int) (w : World) (hn : n ≤ 1048576)
    (r0 : Row w b0 o0 n Z) (r1 : Row w b1 o1 n O) (r2 : Row w b2 o2 n C) :
    Calls Trym.prog 14 #[.slice (some ⟨b0, o0, none⟩) n c0, .slice (some ⟨b1, o1, none⟩) n c1, .slice (some ⟨b2, o2, none⟩) n c2, .int .i64 m, .int .i64 wd] w fun e w' =>
      ∃ g, e = .returned (.agg #[.slice (some ⟨g, 0, none⟩) n n, .int .i64 m, .int .i64 wd]) ∧ Rounds w' g n Z O C ∧ w.grownBy w' none := by
  obtain ⟨i0, hi, hz0, hz1, hz2⟩ := info_parts info79
  have R0 : Hid (Row w b0 o0 n Z) := r0
  have R1 : Hid (Row w b1 o1 n O) := r1
  have R2 : Hid (Row w b2 o2 n C) := r2
  clear r0 r1 r2
  have hne : ∀ w, (binOp .neq 42 (.slice (some ⟨b0, o0, none⟩) n c0) (.slice none 0 0)).run Trym.prog w = .ok (.bool true) w := fun w => by
    rw [run_neq_slice_nil_any w 42 3 _ _ _ _ _ Trym.underlying42]; rfl
  go_enter Trym.func14, Trym.ntmps14
  go_wp2_with (at_make; refine wpList_make_full _ rfl _ _ 45 rfl w.heap.size 79 i0 (.agg #[.int .i64 0, .int .i64 0, .int .i64 0]) 3 Trym.underlying45 hi hz0 hz1 .i64 .i64 _ _ n rfl rfl rfl rfl (by rw [hz2]; omega) (by unfold maxLen; omega) (by simp) ?_; intro w1 hown hg1)
  rw [show (w.alloc (.cells #[.slice none 0 0, .int .i64 0, .int .i64 0] 47)).heap.size = w.heap.size + 1 by simp] at hown
  have A := made_there hown
  have hsz : w.heap.size + 1 < w1.heap.size := (hown.lt _ rfl).2
  clear hown hi hz0 hz1 hz2 hne
  go_loopw [12] (fun i wr => ∃ k : Nat, k ≤ n ∧ i = .int .i64 k ∧ Rounds wr (w.heap.size + 1) k Z O C ∧ There wr (w.heap.size + 1) (n * 3) ∧ (w.alloc (.cells #[.slice none 0 0, .int .i64 0, .int .i64 0] 47)).grownBy wr none ∧ w.heap.size + 1 < wr.heap.size) (fun i _ => n - (intOf i).toNat)
  case atStart => exact ⟨0, by omega, rfl, fun i hi => absurd hi (by omega), A, hg1, hsz⟩
  case round =>
    obtain ⟨k, hk, rfl, hr, ht, hg, hsz⟩ := hrel
    have HR : Hid (Rounds wr (w.heap.size + 1) k Z O C) := hr
    have HT : Hid (There wr (w.heap.size + 1) (n * 3)) := ht
    have HG : Hid ((w.alloc (.cells #[.slice none 0 0, .int .i64 0, .int .i64 0] 47)).grownBy wr none) := hg
    have hws : w.heap.size < wr.heap.size := by omega
    clear A hg1
    by_cases hkn : k = n
    · subst hkn
      have hc : ∀ j v, (w.alloc (.cells #[.slice none 0 0, .int .i64 0, .int .i64 0] 47)).cell? ⟨w.heap.size, j, none⟩ = some v → wr.cell? ⟨w.heap.size, j, none⟩ = some v := fun j v h => hg.cell h (by simp)
      have hfz : ∀ j, wr.frozen? ⟨w.heap.size, j, none⟩ = false := fun j => by
        rw [World.frozen?_of_block (w := w.alloc (.cells #[.slice none 0 0, .int .i64 0, .int .i64 0] 47)) (hg.block w.heap.size (by simp) (by simp))]; simp
      have q0 := hc 0 _ (by simp; rfl)
      have q1 := hc 1 _ (by simp; rfl)
      have q2 := hc 2 _ (by simp; rfl)
      have p0 := hfz 0
      have p1 := hfz 1
      have p2 := hfz 2
      clear hc hfz hr ht hg
      go_wp2
      have F : wr.grownBy (((wr.setCell ⟨w.heap.size, 0, none⟩ (.slice (some ⟨w.heap.size + 1, 0, none⟩) k k)).setCell ⟨w.heap.size, 1, none⟩ (.int .i64 m)).setCell ⟨w.heap.size, 2, none⟩ (.int .i64 wd)) (some w.heap.size) :=
        gb_setCell (gb_setCell (gb_setCell (gb_refl _ _) _ _ _) _ _ _) _ _ _
      have F' : w.grownBy (((wr.setCell ⟨w.heap.size, 0, none⟩ (.slice (some ⟨w.heap.size + 1, 0, none⟩) k k)).setCell ⟨w.heap.size, 1, none⟩ (.int .i64 m)).setCell ⟨w.heap.size, 2, none⟩ (.int .i64 wd)) none :=
        gb_setCell_new (gb_setCell_new (gb_setCell_new (gb_trans (gb_alloc (gb_refl _ _) _) HG.out) (Nat.le_refl _) _ _ _) (Nat.le_refl _) _ _ _) (Nat.le_refl _) _ _ _
      exact bodyPost_ret (v := .agg #[.slice (some ⟨w.heap.size + 1, 0, none⟩) k k, .int .i64 m, .int .i64 wd]) (by simp [results, Trym.results14, go_sem, q0, q1, q2]) rfl ⟨_, rfl, HR.out.kept F (by simp), F'⟩
    have hlt : k < n := by omega
    have G : w.grownBy wr none := gb_trans (gb_alloc (gb_refl _ _) _) hg
    have s0 := (R0.out.kept G (by simp)) k hlt
    have s1 := (R1.out.kept G (by simp)) k hlt
    have s2 := (R2.out.kept G (by simp)) k hlt
    obtain ⟨⟨v0, t0⟩, f0⟩ := ht (k * 3) (by omega)
    obtain ⟨⟨v1, t1⟩, f1⟩ := ht (k * 3 + 1) (by omega)
    obtain ⟨⟨v2, t2⟩, f2⟩ := ht (k * 3 + 2) (by omega)
    have i1 : (0 : Int) ≤ (k : Int) := by omega
    have i2 : (k : Int) < (n : Int) := by omega
    clear hr ht hg G
    go_wp2
    go_region
    all_goals go_wp2
    all_goals
      go_roundw
      case rel =>
        refine ⟨k + 1, by omega, by go_num, HR.out.stored HT.out hlt, ((HT.out.stored _ _).stored _ _).stored _ _, gb_drew (gb_setCell_new (gb_setCell_new (gb_setCell_new HG.out ?_ _ _ _) ?_ _ _ _) ?_ _ _ _), ?_⟩
        · simp
        · simp
        · simp
        · simp; omega
      case measure => simp [intOf]; omega

/-- Nothing to lay: nil. -/
theorem coin_nil (a1 a2 : Option Addr) (c1 c2 : Nat) (m wd : Int) (w : World) :
    Calls Trym.prog 14 #[.slice none 0 0, .slice a1 0 c1, .slice a2 0 c2, .int .i64 m, .int .i64 wd] w fun e w' => e = .returned (.agg #[.slice none 0 0, .int .i64 m, .int .i64 wd]) ∧ w.grownBy w' none := by
  have hne : ∀ w, (binOp .neq 42 (.slice none 0 0) (.slice none 0 0)).run Trym.prog w = .ok (.bool false) w := fun w => by
    rw [run_neq_slice_nil_any w 42 3 _ _ _ _ _ Trym.underlying42]; rfl
  go_enter Trym.func14, Trym.ntmps14
  go_wp2
  go_loop [12] (fun i => i = .int .i64 0) (fun _ => 0)
  case atStart => rfl
  case round =>
    subst hrel
    go_wp2
    exact bodyPost_ret (v := .agg #[.slice none 0 0, .int .i64 m, .int .i64 wd]) (by simp [results, Trym.results14, go_sem]) rfl ⟨rfl, gb_alloc (gb_refl _ _) _⟩
/-- Nothing to lay: an empty list that is not nil. -/
theorem coin_empty (a : Addr) (a1 a2 : Option Addr) (c0 c1 c2 : Nat) (m wd : Int) (w : World) :
    Calls Trym.prog 14 #[.slice (some a) 0 c0, .slice a1 0 c1, .slice a2 0 c2, .int .i64 m, .int .i64 wd] w fun e w' => ∃ g, e = .returned (.agg #[.slice (some g) 0 0, .int .i64 m, .int .i64 wd]) ∧ w.grownBy w' none := by
  have hne : ∀ w, (binOp .neq 42 (.slice (some a) 0 c0) (.slice none 0 0)).run Trym.prog w = .ok (.bool true) w := fun w => by
    rw [run_neq_slice_nil_any w 42 3 _ _ _ _ _ Trym.underlying42]; rfl
  obtain ⟨i0, hi, hz0, hz1, hz2⟩ := info_parts info79
  go_enter Trym.func14, Trym.ntmps14
  go_wp2_with (at_make; refine wpList_make_full _ rfl _ _ 45 rfl w.heap.size 79 i0 (.agg #[.int .i64 0, .int .i64 0, .int .i64 0]) 3 Trym.underlying45 hi hz0 hz1 .i64 .i64 _ _ 0 rfl rfl rfl rfl (by rw [hz2]; omega) (by unfold maxLen; omega) (by simp) ?_; intro w1 hown hg1)
  have hc : ∀ j v, (w.alloc (.cells #[.slice none 0 0, .int .i64 0, .int .i64 0] 47)).cell? ⟨w.heap.size, j, none⟩ = some v → w1.cell? ⟨w.heap.size, j, none⟩ = some v := fun j v h => hg1.cell h (by simp)
  have hfz : ∀ j, w1.frozen? ⟨w.heap.size, j, none⟩ = false := fun j => by
    rw [World.frozen?_of_block (w := w.alloc (.cells #[.slice none 0 0, .int .i64 0, .int .i64 0] 47)) (hg1.block w.heap.size (by simp) (by simp))]; simp
  have q0 := hc 0 _ (by simp; rfl)
  have q1 := hc 1 _ (by simp; rfl)
  have q2 := hc 2 _ (by simp; rfl)
  have p0 := hfz 0
  have p1 := hfz 1
  have p2 := hfz 2
  have HG : Hid ((w.alloc (.cells #[.slice none 0 0, .int .i64 0, .int .i64 0] 47)).grownBy w1 none) := hg1
  clear hc hfz hown hg1 hi hz0 hz1 hz2 hne
  go_loop [12] (fun i => i = .int .i64 0) (fun _ => 0)
  case atStart => rfl
  case round =>
    subst hrel
    go_wp2
    have F' : w.grownBy (((w1.setCell ⟨w.heap.size, 0, none⟩ (.slice (some ⟨w.heap.size + 1, 0, none⟩) 0 0)).setCell ⟨w.heap.size, 1, none⟩ (.int .i64 m)).setCell ⟨w.heap.size, 2, none⟩ (.int .i64 wd)) none :=
      gb_setCell_new (gb_setCell_new (gb_setCell_new (gb_trans (gb_alloc (gb_refl _ _) _) HG.out) (Nat.le_refl _) _ _ _) (Nat.le_refl _) _ _ _) (Nat.le_refl _) _ _ _
    exact bodyPost_ret (v := .agg #[.slice (some ⟨w.heap.size + 1, 0, none⟩) 0 0, .int .i64 m, .int .i64 wd]) (by simp [results, Trym.results14, go_sem, q0, q1, q2]) rfl ⟨⟨_, rfl⟩, F'⟩

set_option maxHeartbeats 400000 in
theorem bytes17 (a0 a1 a2 : Option Addr) (n0 n1 n2 c0 c1 c2 : Nat) (m wd : Int) (w : World) (h0 : n0 ≤ 9223372036854775807) (h1 : n1 ≤ 9223372036854775807) (h2 : n2 ≤ 9223372036854775807) :
    Calls Trym.prog 17 #[.slice a0 n0 c0, .slice a1 n1 c1, .slice a2 n2 c2, .int .i64 m, .int .i64 wd] w fun e w' => e = .returned (.bool (decide (n0 + n1 + n2 ≤ 1048576))) ∧ w' = w := by
  by_cases h : n0 + n1 + n2 ≤ 1048576
  · have hd : decide (n0 + n1 + n2 ≤ 1048576) = true := by simp [h]
    rw [hd]
    go_enter Trym.func17, Trym.ntmps17
    go_wp2
    go_ret
    exact ⟨rfl, rfl⟩
  · have hd : decide (n0 + n1 + n2 ≤ 1048576) = false := by simpa using h
    rw [hd]
    go_enter Trym.func17, Trym.ntmps17
    go_wp2
    all_goals
      go_ret
      exact ⟨rfl, rfl⟩
end Go.Proofs.Qxb6602655aMods
