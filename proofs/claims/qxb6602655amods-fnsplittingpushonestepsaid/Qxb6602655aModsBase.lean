/-
  What a call did to the world, said of blocks ('grownBy': new blocks, and writes to one block alone): small laws for the laws on (*splitting).push.
-/
import Derived.Test.Qxb6602655aModsRows
import Derived.WalkKit
import Derived.WalkSpells
import Derived.WalkLawsBesides
import Derived.Deep.QuietTactic
import Derived.BigQuiet
import Derived.RegionTactic
import Derived.Deep.RegionHeld3
import Derived.Deep.AppendLies
namespace Go.Proofs.Qxb6602655aMods
open Go.RowKit
set_option linter.unusedSimpArgs false

/-! ### What one call did to the world: new blocks, and writes to block 'row' alone -/
theorem gb_refl (w : World) (row : Option Nat) : w.grownBy w row := ⟨rfl, rfl, rfl, Nat.le_refl _, fun _ _ _ => rfl⟩
theorem gb_drew {w v : World} {row : Option Nat} (h : w.grownBy v row) : w.grownBy v.drew row := ⟨h.os, h.tape, h.output, h.size, h.block⟩
theorem gb_drewN {w v : World} {row : Option Nat} (h : w.grownBy v row) (n : Nat) : w.grownBy (v.drewN n) row := ⟨h.os, h.tape, h.output, h.size, h.block⟩
theorem gb_alloc {w v : World} {row : Option Nat} (h : w.grownBy v row) (o : Obj) : w.grownBy (v.alloc o) row :=
  ⟨h.os, h.tape, h.output, by have := h.size; simp; omega, fun k hk hr => (Below.heap_alloc v o k (Nat.lt_of_lt_of_le hk h.size)).trans (h.block k hk hr)⟩
theorem gb_setCell {w v : World} {b : Nat} (h : w.grownBy v (some b)) (o : Nat) (s) (u : Value) : w.grownBy (v.setCell ⟨b, o, s⟩ u) (some b) :=
  ⟨h.os, h.tape, h.output, by have := h.size; simp; omega, fun k hk hr => (Below.heap_setCell v ⟨b, o, s⟩ u k (by simpa using hr)).trans (h.block k hk hr)⟩
theorem gb_weak {w v : World} {row : Option Nat} (h : w.grownBy v none) : w.grownBy v row := ⟨h.os, h.tape, h.output, h.size, fun k hk _ => h.block k hk (by simp)⟩
theorem gb_trans {u v w : World} {row : Option Nat} (h : u.grownBy v row) (k : v.grownBy w row) : u.grownBy w row :=
  ⟨k.os.trans h.os, k.tape.trans h.tape, k.output.trans h.output, Nat.le_trans h.size k.size, fun j hj hr => (k.block j (Nat.lt_of_lt_of_le hj h.size) hr).trans (h.block j hj hr)⟩

theorem gb_setCell_new {w v : World} {row : Option Nat} {b : Nat} (h : w.grownBy v row) (hb : w.heap.size ≤ b) (o : Nat) (s) (u : Value) : w.grownBy (v.setCell ⟨b, o, s⟩ u) row :=
  ⟨h.os, h.tape, h.output, by have := h.size; simp; omega, fun k hk hr => (Below.heap_setCell v ⟨b, o, s⟩ u k (by simp; omega)).trans (h.block k hk hr)⟩

theorem below_gb {w v : World} (h : w.grownBy v none) : Below w.heap.size w v := ⟨h.os, h.tape, h.output, h.size, fun k hk => h.block k hk (by simp)⟩
theorem gb_below {w v : World} (h : Below w.heap.size w v) : w.grownBy v none := ⟨h.os, h.tape, h.output, h.size, fun k hk _ => h.block k hk⟩

/-- One copy in flight: sender, receiver, message, depth, coin bit. -/
structure E where
  f : Int
  t : Int
  m : Int
  d : Int
  s : Int
/-- Its five cells. -/
def E.cells (e : E) : List Value := [.int .i64 e.f, .int .i64 e.t, .int .i64 e.m, .int .i64 e.d, .int .i8 e.s]
theorem E.cells_length (e : E) : e.cells.length = 5 := rfl
theorem E.cells_one (e : E) : ∀ u ∈ e.cells, u.oneCell' = true := by simp [E.cells, Value.oneCell']
def rows (l : List E) : List Value := l.flatMap E.cells
theorem rows_length (l : List E) : (rows l).length = l.length * 5 := by
  induction l with
  | nil => rfl
  | cons a l ih => simp only [rows, List.flatMap_cons, List.length_append, List.length_cons, E.cells_length] at ih ⊢; omega
theorem rows_snoc (l : List E) (e : E) : rows (l ++ [e]) = rows l ++ e.cells := by simp [rows]
theorem info67 : (Trym.prog.info? 67).map (fun i => (i.zero, i.size, i.bytes)) = some (some (.agg #[.int .i64 0, .int .i64 0, .int .i64 0, .int .i64 0, .int .i8 0]), 5, 40) := by kernel_rfl
end Go.Proofs.Qxb6602655aMods
