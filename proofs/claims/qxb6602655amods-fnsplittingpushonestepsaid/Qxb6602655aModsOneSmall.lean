/-
  FnSplittingPushOneStep (6): small laws for the walks.
-/
import Derived.Test.Qxb6602655aModsLets
namespace Go.Proofs.Qxb6602655aMods
open Go.RowKit
set_option linter.unusedSimpArgs false

theorem ret_bool {a b : Int} (h : a = b) : Ending.returned (.bool (a == b)) = .returned (.bool true) := by simp [h]
theorem ob_any (v : Value) : v.ownBlock = none ∨ v.ownBlock ≠ none := by cases v.ownBlock <;> simp
theorem Nums.kept {w v : World} {row : Option Nat} {g N : Nat} {f : Nat → Int} (h : Nums w g N f) (k : w.grownBy v row) (hr : some g ≠ row) : Nums v g N f := fun p hp =>
  ⟨k.cell (h p hp).1 hr, (World.frozen?_of_block (w := w) (k.block g (World.block_lt_of_cell? w ⟨g, p, none⟩ (h p hp).1) hr)).trans (h p hp).2⟩
end Go.Proofs.Qxb6602655aMods
