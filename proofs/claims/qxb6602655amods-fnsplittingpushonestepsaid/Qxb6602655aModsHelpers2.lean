/-
  FnSplittingPushOneStep's helpers on numbers: b1CloneInts (20), b1LetThroughPools (28), b1LetThroughEnv (29), zzBytes (18).
-/
import Derived.Test.Qxb6602655aModsHelpers
import Derived.Laws.CopyOwn
import Derived.Deep.OwnRows
namespace Go.Proofs.Qxb6602655aMods
open Go.RowKit
set_option linter.unusedSimpArgs false

/-- n numbers of the kind int from ⟨b, off⟩ on. -/
def Ints (w : World) (b off n : Nat) (Z : Nat → Int) : Prop := ∀ i, i < n → w.cell? ⟨b, off + i, none⟩ = some (.int .i64 (Z i))
theorem Ints.kept {w v : World} {row : Option Nat} {b off n : Nat} {Z : Nat → Int} (h : Ints w b off n Z) (g : w.grownBy v row) (hr : some b ≠ row) : Ints v b off n Z := fun i hi => g.cell (h i hi) hr
/-- N numbers in block g, which may be written. -/
def Nums (w : World) (g N : Nat) (f : Nat → Int) : Prop := ∀ p, p < N → w.cell? ⟨g, p, none⟩ = some (.int .i64 (f p)) ∧ w.frozen? ⟨g, p, none⟩ = false
theorem info3 : (Trym.prog.info? 3).map (fun i => (i.zero, i.size, i.bytes)) = some (some (.int .i64 0), 1, 8) := by kernel_rfl
theorem info59 : (Trym.prog.info? 59).map (fun i => (i.zero, i.size, i.bytes)) = some (some (.slice none 0 0), 1, 24) := by kernel_rfl
theorem size3 : (Trym.prog.info? 3).map (·.size) = some 1 := by kernel_rfl
theorem cell_heap {w : World} {b o : Nat} {c : Array Value} {e : TypeId} (h : w.heap[b]? = some (.cells c e (0, 0))) : w.cell? ⟨b, o, none⟩ = c[o]? ∧ w.frozen? ⟨b, o, none⟩ = false := by
  constructor
  · simp [World.cell?, h]
  · simp [World.frozen?, h]
theorem add_pl (b off j : Nat) : (⟨b, off, none⟩ : Addr).add j = ⟨b, off + j, none⟩ := by unfold Addr.add; split <;> simp_all
def vals (M : Nat) (Z : Nat → Int) : List Value := (List.range M).map fun i => .int .i64 (Z i)
theorem vals_length (M : Nat) (Z : Nat → Int) : (vals M Z).length = M := by simp [vals]
theorem vals_get (M : Nat) (Z : Nat → Int) (i : Nat) (h : i < M) : (vals M Z)[i]? = some (.int .i64 (Z i)) := by simp [vals, h]

set_option maxHeartbeats 400000 in
theorem clone20 (b off M cap : Nat) (Z : Nat → Int) (w : World) (hM : M ≤ 1048576) (h : Ints w b off M Z) :
    Calls Trym.prog 20 #[.slice (some ⟨b, off, none⟩) M cap] w fun e w' => e = .returned (.slice (some ⟨w.heap.size, 0, none⟩) M M) ∧ Nums w' w.heap.size M Z ∧ w.grownBy w' none := by
  have hne : ∀ w, (binOp .eql 42 (.slice (some ⟨b, off, none⟩) M cap) (.slice none 0 0)).run Trym.prog w = .ok (.bool false) w := fun w => by
    rw [Lib.run_eql_slice_nil w 42 3 _ _ _ _ _ Trym.underlying42]; rfl
  have mk1 := fun w => run_make_row' (P := Trym.prog) 42 3 (.int .i64 0) 8 Trym.underlying42 info3 rfl .i64 .i64 M (by omega) (by omega) w
  have HI : Hid (Ints w b off M Z) := h
  clear h
  have hg : (w.alloc (.cells (madeCells #[.int .i64 0] M) 3)).heap[w.heap.size]? = some (.cells (madeCells #[.int .i64 0] M) 3 (0, 0)) := heap_alloc_new w _
  have hms : (madeCells #[Value.int .i64 0] M).size = M := size_madeCells _ _
  have hcp := run_copy_row (P := Trym.prog) (w.alloc (.cells (madeCells #[.int .i64 0] M) 3)) 42 42 3 3 w.heap.size 0 M M ⟨b, off, none⟩ M cap (madeCells #[.int .i64 0] M) 3 (vals M Z) Trym.underlying42 size3 hg (by simp [vals_length])
    (fun j v hv => by
      have hj : j < M := by
        rcases Nat.lt_or_ge j M with h | h
        · exact h
        · rw [List.getElem?_eq_none (by rw [vals_length]; exact h)] at hv; cases hv
      rw [vals_get M Z j hj] at hv
      injection hv with hv; subst hv
      rw [add_pl]
      exact (gb_alloc (gb_refl w none) _).cell (HI.out j hj) (by simp)) (by rw [vals_length, hms]; omega) (by intro v hv; simp [vals] at hv; obtain ⟨a, _, rfl⟩ := hv; rfl)
  have HS : Hid (Nums ((w.alloc (.cells (madeCells #[.int .i64 0] M) 3)).setRow w.heap.size ((madeCells #[.int .i64 0] M).toList.take 0 ++ vals M Z ++ (madeCells #[.int .i64 0] M).toList.drop (0 + (vals M Z).length)).toArray) w.heap.size M Z) := fun p hp => by
    have hh := setRow_heap _ w.heap.size _ ((madeCells #[.int .i64 0] M).toList.take 0 ++ vals M Z ++ (madeCells #[.int .i64 0] M).toList.drop (0 + (vals M Z).length)).toArray 3 (0, 0) hg
    refine ⟨(cell_heap (o := p) hh).1.trans ?_, (cell_heap hh).2⟩
    rw [List.getElem?_toArray, List.take_zero, List.nil_append, List.getElem?_append_left (by rw [vals_length]; exact hp), vals_get M Z p hp]
  have HG : Hid (w.grownBy ((w.alloc (.cells (madeCells #[.int .i64 0] M) 3)).setRow w.heap.size ((madeCells #[.int .i64 0] M).toList.take 0 ++ vals M Z ++ (madeCells #[.int .i64 0] M).toList.drop (0 + (vals M Z).length)).toArray) none) :=
    ⟨rfl, rfl, rfl, by simp, fun k hk _ => (setRow_other _ _ _ _ (by omega)).trans (Below.heap_alloc w _ k hk)⟩
  generalize (w.alloc (.cells (madeCells #[.int .i64 0] M) 3)).setRow w.heap.size ((madeCells #[.int .i64 0] M).toList.take 0 ++ vals M Z ++ (madeCells #[.int .i64 0] M).toList.drop (0 + (vals M Z).length)).toArray = wX at hcp HS HG
  clear hg hms
  go_enter Trym.func20, Trym.ntmps20
  go_wp2
  go_ret
  exact ⟨rfl, HS.out, HG.out⟩

/-- How many waiting copies are let through: of the first k processes those without a free copy. -/
def lets (cf : Nat → Int) (len : Nat → Nat) : Nat → Nat
  | 0 => 0
  | k + 1 => lets cf len k + if cf k = 0 then len k else 0

set_option maxHeartbeats 400000 in
theorem lets28 (ft wt M N cm cn : Nat) (cf : Nat → Int) (len : Nat → Nat) (w : World) (hM : M ≤ 1048576) (hN : N ≤ 1048576) (hb : ∀ k, k ≤ N → lets cf len k ≤ 1048577) (hl : ∀ k, k < N → len k ≤ 1048577)
    (h1 : ∀ k, k < M → w.cell? ⟨ft, k, none⟩ = some (.int .i64 (cf k))) (h2 : ∀ k, k < N → ∃ x c, w.cell? ⟨wt, k, none⟩ = some (.slice x (len k) c)) :
    Calls Trym.prog 28 #[.slice (some ⟨ft, 0, none⟩) M cm, .slice (some ⟨wt, 0, none⟩) N cn] w fun e w' => e = .returned (.int .i64 (lets cf len (min M N))) ∧ w' = w := by
  have H1 : Hid (∀ k, k < M → w.cell? ⟨ft, k, none⟩ = some (.int .i64 (cf k))) := h1
  have H2 : Hid (∀ k, k < N → ∃ x c, w.cell? ⟨wt, k, none⟩ = some (.slice x (len k) c)) := h2
  have HB : Hid (∀ k, k ≤ N → lets cf len k ≤ 1048577) := hb
  have HL : Hid (∀ k, k < N → len k ≤ 1048577) := hl
  clear h1 h2 hb hl
  by_cases hmn : N < M
  all_goals
    first
      | (have hmin : min M N = N := Nat.min_eq_right (by omega)
         rw [hmin])
      | (have hmin : min M N = M := Nat.min_eq_left (by omega)
         rw [hmin])
    clear hmin
    go_enter Trym.func28, Trym.ntmps28
    go_wp2
    go_loop [6, 7] (fun v i => ∃ k : Nat, k ≤ M ∧ k ≤ N ∧ i = .int .i64 k ∧ v = .int .i64 (lets cf len k)) (fun _ i => N - (intOf i).toNat)
    case atStart => exact ⟨0, by omega, by omega, rfl, rfl⟩
    case round =>
      obtain ⟨k, hkM, hkN, rfl, rfl⟩ := hrel
      by_cases hk : k < M ∧ k < N
      · obtain ⟨k1, k2⟩ := hk
        have n1 := H1.out k k1
        obtain ⟨x, c, n2⟩ := H2.out k k2
        have hb := HB.out k hkN
        have hl := HL.out k k2
        have HS : Hid (lets cf len (k + 1) = lets cf len k + if cf k = 0 then len k else 0) := (rfl : _ = _)
        by_cases hz : cf k = 0
        · have hzb : (cf k == 0) = true := by simpa using hz
          have HT : Hid (lets cf len (k + 1) = lets cf len k + len k) := by show _ = _; rw [HS.out, if_pos hz]
          clear hz
          go_wp2
          go_round
          case rel => exact ⟨k + 1, by omega, by omega, by go_num, by rw [HT.out]; go_num⟩
          case measure => simp [intOf]; omega
        · have hzb : (cf k == 0) = false := by simpa using hz
          have HT : Hid (lets cf len (k + 1) = lets cf len k) := by show _ = _; rw [HS.out, if_neg hz]; rfl
          clear hz
          go_wp2
          go_round
          case rel => exact ⟨k + 1, by omega, by omega, by go_num, by rw [HT.out]⟩
          case measure => simp [intOf]; omega
      · first
          | (have hkk : k = N := by omega
             subst hkk)
          | (have hkk : k = M := by omega
             subst hkk)
        go_wp2
        go_ret
        exact ⟨rfl, rfl⟩

set_option maxHeartbeats 400000 in
theorem lets29 (b off bw ow M N cm cn : Nat) (cf : Nat → Int) (len : Nat → Nat) (w : World) (hM : M ≤ 1048576) (hN : N ≤ 1048576) (hb : ∀ k, k ≤ N → lets cf len k ≤ 1048577) (hl : ∀ k, k < N → len k ≤ 1048577)
    (h1 : ∀ k, k < M → w.cell? ⟨b, off + k, none⟩ = some (.int .i64 (cf k))) (h2 : ∀ k, k < N → ∃ x c, w.cell? ⟨bw, ow + k, none⟩ = some (.slice x (len k) c)) :
    Calls Trym.prog 29 #[.slice (some ⟨b, off, none⟩) M cm, .slice (some ⟨bw, ow, none⟩) N cn] w fun e w' => e = .returned (.int .i64 (lets cf len (min M N))) ∧ w' = w := by
  have H1 : Hid (∀ k, k < M → w.cell? ⟨b, off + k, none⟩ = some (.int .i64 (cf k))) := h1
  have H2 : Hid (∀ k, k < N → ∃ x c, w.cell? ⟨bw, ow + k, none⟩ = some (.slice x (len k) c)) := h2
  have HB : Hid (∀ k, k ≤ N → lets cf len k ≤ 1048577) := hb
  have HL : Hid (∀ k, k < N → len k ≤ 1048577) := hl
  clear h1 h2 hb hl
  by_cases hmn : N < M
  all_goals
    first
      | (have hmin : min M N = N := Nat.min_eq_right (by omega)
         rw [hmin])
      | (have hmin : min M N = M := Nat.min_eq_left (by omega)
         rw [hmin])
    clear hmin
    go_enter Trym.func29, Trym.ntmps29
    go_wp2
    go_loop [6, 7] (fun v i => ∃ k : Nat, k ≤ M ∧ k ≤ N ∧ i = .int .i64 k ∧ v = .int .i64 (lets cf len k)) (fun _ i => N - (intOf i).toNat)
    case atStart => exact ⟨0, by omega, by omega, rfl, rfl⟩
    case round =>
      obtain ⟨k, hkM, hkN, rfl, rfl⟩ := hrel
      by_cases hk : k < M ∧ k < N
      · obtain ⟨k1, k2⟩ := hk
        have n1 := H1.out k k1
        obtain ⟨x, c, n2⟩ := H2.out k k2
        have hb := HB.out k hkN
        have hl := HL.out k k2
        have HS : Hid (lets cf len (k + 1) = lets cf len k + if cf k = 0 then len k else 0) := (rfl : _ = _)
        by_cases hz : cf k = 0
        · have hzb : (cf k == 0) = true := by simpa using hz
          have HT : Hid (lets cf len (k + 1) = lets cf len k + len k) := by show _ = _; rw [HS.out, if_pos hz]
          clear hz
          go_wp2
          go_round
          case rel => exact ⟨k + 1, by omega, by omega, by go_num, by rw [HT.out]; go_num⟩
          case measure => simp [intOf]; omega
        · have hzb : (cf k == 0) = false := by simpa using hz
          have HT : Hid (lets cf len (k + 1) = lets cf len k) := by show _ = _; rw [HS.out, if_neg hz]; rfl
          clear hz
          go_wp2
          go_round
          case rel => exact ⟨k + 1, by omega, by omega, by go_num, by rw [HT.out]⟩
          case measure => simp [intOf]; omega
      · first
          | (have hkk : k = N := by omega
             subst hkk)
          | (have hkk : k = M := by omega
             subst hkk)
        go_wp2
        go_ret
        exact ⟨rfl, rfl⟩
end Go.Proofs.Qxb6602655aMods
