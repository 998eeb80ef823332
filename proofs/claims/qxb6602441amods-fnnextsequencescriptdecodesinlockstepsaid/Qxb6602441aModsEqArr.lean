/-
  '==' and '!=' on the array type 24 ([3]uint32), where both sides are the same.
-/
import Derived.Test.Qxb6602441aModsRows
import Derived.WalkKit
import Derived.ChangeKeysEq
namespace Go.Proofs.Qxb6602441aMods
open Go.RowKit

theorem cells22' : Trym.prog.cellsOf 22 = 1 := by kernel_rfl
theorem info22 : (Trym.prog.info? 22).isSome = true := by kernel_rfl
theorem part22 (xs : Array Value) (o : Nat) (k : IntKind) (n : Int) (h : xs[o]? = some (.int k n)) (w : World) : (part 22 xs o).run Trym.prog w = .ok (.int k n) w := by
  unfold part
  simp [go_sem, h]
theorem eq24 (x y z : Int) (w : World) : (Op.equalIn 10000 24 (.agg #[.int .u32 x, .int .u32 y, .int .u32 z]) (.agg #[.int .u32 x, .int .u32 y, .int .u32 z])).run Trym.prog w = .ok true w := by
  obtain ⟨i, hi⟩ := Option.isSome_iff_exists.1 info22
  rw [run_equalIn_array w 9999 _ _ Trym.underlying24 hi]
  rw [cells22']
  have p0 : ∀ w, (part 22 #[Value.int .u32 x, .int .u32 y, .int .u32 z] 0).run Trym.prog w = .ok (.int .u32 x) w := part22 _ 0 .u32 x rfl
  have p1 : ∀ w, (part 22 #[Value.int .u32 x, .int .u32 y, .int .u32 z] 1).run Trym.prog w = .ok (.int .u32 y) w := part22 _ 1 .u32 y rfl
  have p2 : ∀ w, (part 22 #[Value.int .u32 x, .int .u32 y, .int .u32 z] 2).run Trym.prog w = .ok (.int .u32 z) w := part22 _ 2 .u32 z rfl
  have q : ∀ (n : Int) (w : World), (Op.equalIn 9999 22 (.int .u32 n) (.int .u32 n)).run Trym.prog w = .ok true w := fun n w => by
    rw [run_equalIn_int w 9998 22 .u32 .u32 n n Trym.underlying22]; simp
  simp [Op.eqItems, List.range, List.range.loop, p0, p1, p2, q]
/-- 'a == b' and 'a != b' at the walk's own entry. -/
theorem eql24 (x y z : Int) (w : World) : (binOp .eql 24 (.agg #[.int .u32 x, .int .u32 y, .int .u32 z]) (.agg #[.int .u32 x, .int .u32 y, .int .u32 z])).run Trym.prog w = .ok (.bool true) w := by
  rw [run_eql_struct, eq24]; rfl
theorem neq24 (x y z : Int) (w : World) : (binOp .neq 24 (.agg #[.int .u32 x, .int .u32 y, .int .u32 z]) (.agg #[.int .u32 x, .int .u32 y, .int .u32 z])).run Trym.prog w = .ok (.bool false) w := by
  rw [run_neq_struct, eq24]; rfl
end Go.Proofs.Qxb6602441aMods
