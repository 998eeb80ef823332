/-
  For FnNextSequenceScriptDecodesInLockstep (5): what a row of steps holds (said of cells), and zzBytes (13).
-/
import Derived.Test.Qxb6602441aModsZz
import Derived.Test.Qxb6602441aModsDecode
import Derived.Test.Qxb6602441aModsEqArr
namespace Go.Proofs.Qxb6602441aMods
open Go.RowKit

/-- m cells from ⟨b, off⟩ on, each a number of the kind uint32. -/
def U32s (w : World) (b off m : Nat) : Prop := ∀ j, j < m → ∃ v : Int, w.cell? ⟨b, off + j, none⟩ = some (.int .u32 v) ∧ 0 ≤ v ∧ v ≤ 4294967295
def Open (w : World) (b m : Nat) : Prop := ∀ j, j < m → w.frozen? ⟨b, j, none⟩ = false
theorem U32s.kept {w v : World} {row : Option Nat} {b off m : Nat} (h : U32s w b off m) (g : w.grownBy v row) (hr : some b ≠ row) : U32s v b off m := by
  intro j hj
  obtain ⟨x, hx, hb⟩ := h j hj
  exact ⟨x, g.cell hx hr, hb⟩
theorem U32s.below {w v : World} {B b off m : Nat} (h : U32s w b off m) (g : Below B w v) (hr : b < B) : U32s v b off m := by
  intro j hj
  obtain ⟨x, hx, hb⟩ := h j hj
  exact ⟨x, (g.cell (p := ⟨b, off + j, none⟩) hr).trans hx, hb⟩
/-- One step's three numbers. -/
theorem U32s.three {w : World} {b off n : Nat} (h : U32s w b off (n * 3)) (k : Nat) (hk : k < n) : ∃ x y z : Int,
    w.cell? ⟨b, off + k * 3, none⟩ = some (.int .u32 x) ∧ w.cell? ⟨b, off + k * 3 + 1, none⟩ = some (.int .u32 y) ∧ w.cell? ⟨b, off + k * 3 + 2, none⟩ = some (.int .u32 z) ∧
    (0 ≤ x ∧ x ≤ 4294967295) ∧ (0 ≤ y ∧ y ≤ 4294967295) ∧ (0 ≤ z ∧ z ≤ 4294967295) := by
  obtain ⟨x, hx, bx⟩ := h (k * 3) (by omega)
  obtain ⟨y, hy, cy⟩ := h (k * 3 + 1) (by omega)
  obtain ⟨z, hz, bz⟩ := h (k * 3 + 2) (by omega)
  exact ⟨x, y, z, hx, by simpa [Nat.add_assoc] using hy, by simpa [Nat.add_assoc] using hz, bx, cy, bz⟩
/-- One step stored. -/
theorem U32s.stored {w : World} {b n : Nat} (h : U32s w b 0 (n * 3)) (k : Nat) (_hk : k < n) (x y z : Int) (bx : 0 ≤ x ∧ x ≤ 4294967295) (cy : 0 ≤ y ∧ y ≤ 4294967295) (bz : 0 ≤ z ∧ z ≤ 4294967295) :
    U32s (((w.setCell ⟨b, k * 3, none⟩ (.int .u32 x)).setCell ⟨b, k * 3 + 1, none⟩ (.int .u32 y)).setCell ⟨b, k * 3 + 2, none⟩ (.int .u32 z)) b 0 (n * 3) := by
  have one : ∀ (w : World) (o : Nat) (v : Int), (0 ≤ v ∧ v ≤ 4294967295) → U32s w b 0 (n * 3) → U32s (w.setCell ⟨b, o, none⟩ (.int .u32 v)) b 0 (n * 3) := by
    intro w o v hv hw j hj
    obtain ⟨u, hu, bu⟩ := hw j hj
    by_cases e : j = o
    · subst e
      refine ⟨v, ?_, hv⟩
      simp only [Nat.zero_add] at hu ⊢
      simp [go_sem, hu]
    · refine ⟨u, ?_, bu⟩
      simp only [Nat.zero_add] at hu ⊢
      rw [World.cell?_setCell_other w _ _ _ (by intro h; injection h with _ h2 _; omega)]
      exact hu
  exact one _ _ _ bz (one _ _ _ cy (one _ _ _ bx h))
theorem Open.stored {w : World} {b m : Nat} (h : Open w b m) (a : Addr) (u : Value) : Open (w.setCell a u) b m := by
  intro j hj
  rw [World.frozen?_setCell]
  exact h j hj
theorem Open.kept {w v : World} {row : Option Nat} {b m : Nat} (h : Open w b m) (g : w.grownBy v row) (hb : b < w.heap.size) (hr : some b ≠ row) : Open v b m := fun j hj =>
  (World.frozen?_of_block (w := w) (g.block b hb hr)).trans (h j hj)

theorem info34 : (Trym.prog.info? 34).map (fun i => (i.zero, i.size, i.bytes)) = some (some (.agg #[.int .u32 0, .int .u32 0, .int .u32 0]), 3, 12) := by kernel_rfl
/-- The row that 'make([]ZZStep, n)' lays. -/
theorem made_u32 {w : World} {base g n : Nat} (h : w.ownsRow base 34 3 (.slice (some ⟨g, 0, none⟩) n n) n (madeCells (Value.agg #[.int .u32 0, .int .u32 0, .int .u32 0]).cells (n * 3)).toList) :
    U32s w g 0 (n * 3) ∧ Open w g (n * 3) := by
  refine ⟨fun j hj => ⟨0, ?_, by omega, by omega⟩, fun j _ => h.frozenAt j⟩
  rw [Nat.zero_add, h.cellAt j hj]
  have h3 : j % 3 = 0 ∨ j % 3 = 1 ∨ j % 3 = 2 := by omega
  have hs : j < (madeCells (Value.agg #[.int .u32 0, .int .u32 0, .int .u32 0]).cells (n * 3)).size := by rw [size_madeCells]; exact hj
  rw [Array.getElem?_toList, Array.getElem?_eq_getElem hs]
  simp only [madeCells, Array.getElem_map, Array.getElem_range]
  rcases h3 with e | e | e <;> simp [Value.cells, e]

set_option maxHeartbeats 400000 in
theorem bytes_any (a : Option Addr) (n cap : Nat) (r0 r1 r2 : Int) (w : World) (hn : n ≤ 9223372036854775807) :
    Calls Trym.prog 13 #[.slice a n cap, .agg #[.int .u32 r0, .int .u32 r1, .int .u32 r2]] w fun e w' => e = .returned (.bool (decide (n ≤ 1048576))) ∧ w' = w.alloc (.cells #[.int .u32 r0, .int .u32 r1, .int .u32 r2] 24) := by
  by_cases h : n ≤ 1048576
  · have hd : decide (n ≤ 1048576) = true := by simp [h]
    rw [hd]
    go_enter Trym.func13, Trym.ntmps13
    go_wp2
    go_ret
    exact ⟨rfl, rfl⟩
  · have hd : decide (n ≤ 1048576) = false := by simpa using h
    rw [hd]
    go_enter Trym.func13, Trym.ntmps13
    go_wp2
    go_ret
    exact ⟨rfl, rfl⟩
end Go.Proofs.Qxb6602441aMods
