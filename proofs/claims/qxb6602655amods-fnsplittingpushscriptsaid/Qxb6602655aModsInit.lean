/-
  The queue as FnSplittingPushScript makes it: empty.
-/
import Derived.Test.Qxb6602655aModsPlain
import Derived.Deep.OwnRows
namespace Go.Proofs.Qxb6602655aMods
open Go.RowKit
set_option linter.unusedSimpArgs false

theorem cell_heap {w : World} {b o : Nat} {c : Array Value} {e : TypeId} (h : w.heap[b]? = some (.cells c e (0, 0))) : w.cell? ⟨b, o, none⟩ = c[o]? ∧ w.frozen? ⟨b, o, none⟩ = false := by
  constructor
  · simp [World.cell?, h]
  · simp [World.frozen?, h]
theorem made_at {z : Value} {n j : Nat} (h : j < n) : (madeCells #[z] n)[j]? = some z := by
  have hs : j < (madeCells #[z] n).size := by rw [size_madeCells]; exact h
  rw [Array.getElem?_eq_getElem hs]
  simp [madeCells, Nat.mod_one]

theorem Q_init {w : World} {base q ft wt N : Nat} (hq : w.heap[q]? = some (.cells #[.slice none 0 0, .slice (some ⟨ft, 0, none⟩) N N, .slice (some ⟨wt, 0, none⟩) N N, .int .i64 0] 83 (0, 0)))
    (hft : w.heap[ft]? = some (.cells (madeCells #[.int .i64 0] N) 3 (0, 0))) (hwt : w.heap[wt]? = some (.cells (madeCells #[.slice none 0 0] N) 59 (0, 0)))
    (d1 : q ≠ ft) (d2 : q ≠ wt) (d3 : ft ≠ wt) (bq : base ≤ q) (bft : base ≤ ft) (bwt : base ≤ wt) :
    Q w base q ft wt N (fun _ => .slice none 0 0) (PL []) (CL []) 0 where
  c1 := ⟨N, (cell_heap (o := 1) hq).1⟩
  c2 := ⟨N, (cell_heap (o := 2) hq).1⟩
  c3 := (cell_heap (o := 3) hq).1
  f3 := (cell_heap hq).2
  nums := fun p hp => ⟨(cell_heap (o := p) hft).1.trans (made_at hp), (cell_heap hft).2⟩
  at_ := fun i hi => by
    cases i with
    | zero => exact ⟨(cell_heap (o := 0) hq).1, (cell_heap hq).2⟩
    | succ p => exact ⟨(cell_heap (o := p) hwt).1.trans (made_at (by omega)), (cell_heap hwt).2⟩
  own := fun i _ => by
    have e : PL [] i = [] := by simp [PL]
    rw [e]; exact World.ownsRow_nil _ _ _ _
  sep := fun _ _ _ _ _ => .inl rfl
  nq := fun _ _ => by simp [Value.ownBlock]
  nft := fun _ _ => by simp [Value.ownBlock]
  nwt := fun _ _ => by simp [Value.ownBlock]
  d1 := d1
  d2 := d2
  d3 := d3
  bq := bq
  bft := bft
  bwt := bwt
  lft := (Array.getElem?_eq_some_iff.1 hft).1
  lwt := (Array.getElem?_eq_some_iff.1 hwt).1
theorem info3 : (Trym.prog.info? 3).map (fun i => (i.zero, i.size, i.bytes)) = some (some (.int .i64 0), 1, 8) := by kernel_rfl
theorem info59 : (Trym.prog.info? 59).map (fun i => (i.zero, i.size, i.bytes)) = some (some (.slice none 0 0), 1, 24) := by kernel_rfl
theorem heap_two (w : World) (o1 o2 o3 : Obj) : (((w.alloc o1).alloc o2).alloc o3).heap[w.heap.size]? = some o1 ∧ (((w.alloc o1).alloc o2).alloc o3).heap[w.heap.size + 1]? = some o2 ∧ (((w.alloc o1).alloc o2).alloc o3).heap[w.heap.size + 1 + 1]? = some o3 := by
  have s1 : (w.alloc o1).heap.size = w.heap.size + 1 := by simp
  have s2 : ((w.alloc o1).alloc o2).heap.size = w.heap.size + 1 + 1 := by simp
  refine ⟨?_, ?_, ?_⟩
  · rw [Below.heap_alloc _ _ _ (by omega), Below.heap_alloc _ _ _ (by omega)]; exact heap_alloc_new w o1
  · rw [Below.heap_alloc _ _ _ (by omega)]
    have h := heap_alloc_new (w.alloc o1) o2
    rwa [s1] at h
  · have h := heap_alloc_new ((w.alloc o1).alloc o2) o3
    rwa [s2] at h
end Go.Proofs.Qxb6602655aMods
