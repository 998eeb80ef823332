/-
  nextSequence (20), ZZNextSequence (12): their contracts. 'code', 'rep0' .. 'rep2': the plain function that nextSequence computes.
-/
import Derived.Test.Qxb6602441aModsRows
import Derived.WalkKit
import Derived.WalkSpells
import Derived.WalkLawsBesides
import Derived.Deep.QuietTactic
import Derived.BigQuiet
namespace Go.Proofs.Qxb6602441aMods
open Go.RowKit
set_option linter.unusedSimpArgs false

/-! ### What one call did to the world: new blocks, and writes to block 'row' alone -/
theorem gb_refl (w : World) (row : Option Nat) : w.grownBy w row := ⟨rfl, rfl, rfl, Nat.le_refl _, fun _ _ _ => rfl⟩
theorem gb_drew {w v : World} {row : Option Nat} (h : w.grownBy v row) : w.grownBy v.drew row := ⟨h.os, h.tape, h.output, h.size, h.block⟩
theorem gb_drewN {w v : World} {row : Option Nat} (h : w.grownBy v row) (n : Nat) : w.grownBy (v.drewN n) row := ⟨h.os, h.tape, h.output, h.size, h.block⟩
theorem gb_alloc {w v : World} {row : Option Nat} (h : w.grownBy v row) (o : Obj) : w.grownBy (v.alloc o) row :=
  ⟨h.os, h.tape, h.output, by have := h.size; simp; omega, fun k hk hr => (Below.heap_alloc v o k (Nat.lt_of_lt_of_le hk h.size)).trans (h.block k hk hr)⟩
theorem gb_setCell {w v : World} {b : Nat} (h : w.grownBy v (some b)) (o : Nat) (s) (u : Value) : w.grownBy (v.setCell ⟨b, o, s⟩ u) (some b) :=
  ⟨h.os, h.tape, h.output, by have := h.size; simp; omega, fun k hk hr => (Below.heap_setCell v ⟨b, o, s⟩ u k (by simpa using hr)).trans (h.block k hk hr)⟩
theorem gb_weak {w v : World} {row : Option Nat} (h : w.grownBy v none) : w.grownBy v row := ⟨h.os, h.tape, h.output, h.size, fun k hk _ => h.block k hk (by simp)⟩
theorem gb_trans {u v w : World} {row : Option Nat} (h : u.grownBy v row) (k : v.grownBy w row) : u.grownBy w row :=
  ⟨k.os.trans h.os, k.tape.trans h.tape, k.output.trans h.output, Nat.le_trans h.size k.size, fun j hj hr => (k.block j (Nat.lt_of_lt_of_le hj h.size) hr).trans (h.block j hj hr)⟩

/-- Three numbers of the kind uint32 lie in block b, and may be written. -/
structure RepsAt (w : World) (b : Nat) (x y z : Int) : Prop where
  c0 : w.cell? ⟨b, 0, none⟩ = some (.int .u32 x)
  c1 : w.cell? ⟨b, 1, none⟩ = some (.int .u32 y)
  c2 : w.cell? ⟨b, 2, none⟩ = some (.int .u32 z)
  f0 : w.frozen? ⟨b, 0, none⟩ = false
  f1 : w.frozen? ⟨b, 1, none⟩ = false
  f2 : w.frozen? ⟨b, 2, none⟩ = false
theorem RepsAt.lt {w : World} {b : Nat} {x y z : Int} (h : RepsAt w b x y z) : b < w.heap.size := World.block_lt_of_cell? w ⟨b, 0, none⟩ h.c0
theorem RepsAt.kept {w v : World} {row : Option Nat} {b : Nat} {x y z : Int} (h : RepsAt w b x y z) (g : w.grownBy v row) (hr : some b ≠ row) : RepsAt v b x y z := by
  have hb := g.block b h.lt hr
  have hc : ∀ o, v.cell? ⟨b, o, none⟩ = w.cell? ⟨b, o, none⟩ := fun o => World.cell?_of_block (w := w) hb
  have hf : ∀ o, v.frozen? ⟨b, o, none⟩ = w.frozen? ⟨b, o, none⟩ := fun o => World.frozen?_of_block (w := w) hb
  exact ⟨(hc 0).trans h.c0, (hc 1).trans h.c1, (hc 2).trans h.c2, (hf 0).trans h.f0, (hf 1).trans h.f1, (hf 2).trans h.f2⟩

/-- Three stores into that block. -/
def setReps (w : World) (b : Nat) (x y z : Int) : World := ((w.setCell ⟨b, 0, none⟩ (.int .u32 x)).setCell ⟨b, 1, none⟩ (.int .u32 y)).setCell ⟨b, 2, none⟩ (.int .u32 z)
theorem RepsAt.set {w : World} {b : Nat} {r0 r1 r2 : Int} (h : RepsAt w b r0 r1 r2) (x y z : Int) : RepsAt (setReps w b x y z) b x y z ∧ w.grownBy (setReps w b x y z) (some b) := by
  refine ⟨?_, gb_setCell (gb_setCell (gb_setCell (gb_refl _ _) _ _ _) _ _ _) _ _ _⟩
  obtain ⟨c0, c1, c2, f0, f1, f2⟩ := h
  unfold setReps
  constructor <;> simp [go_sem, *]
/-- The world behind nextSequence where it stores: three stores, three new blocks. -/
theorem RepsAt.set3 {w : World} {b : Nat} {r0 r1 r2 : Int} (h : RepsAt w b r0 r1 r2) (x y z : Int) (o1 o2 o3 : Obj) :
    RepsAt ((((setReps w b x y z).alloc o1).alloc o2).alloc o3) b x y z ∧ w.grownBy ((((setReps w b x y z).alloc o1).alloc o2).alloc o3) (some b) := by
  obtain ⟨k, g⟩ := h.set x y z
  have G : (setReps w b x y z).grownBy ((((setReps w b x y z).alloc o1).alloc o2).alloc o3) none := gb_alloc (gb_alloc (gb_alloc (gb_refl _ _) _) _) _
  exact ⟨k.kept G (by simp), gb_trans g (gb_weak G)⟩

/-! ### The plain function -/
/-- r0 - 1 as a uint32. -/
def less1 (r0 : Int) : Int := (r0 - 1) % 4294967296
def plus3 (d : Int) : Int := (d + 3) % 4294967296
def code (lit dist r0 r1 r2 : Int) : Int :=
  if 0 < lit ∧ dist = r0 then 1 else if dist = r1 then (if lit = 0 then 1 else 2) else if dist = r2 then (if lit = 0 then 2 else 3) else if lit = 0 ∧ dist = less1 r0 then 3 else plus3 dist
def rep1 (lit dist r0 r1 _r2 : Int) : Int := if 0 < lit ∧ dist = r0 then r1 else r0
def rep2 (lit dist r0 r1 r2 : Int) : Int := if 0 < lit ∧ dist = r0 then r2 else if dist = r1 then r2 else r1

/-- What the contract says of a call of nextSequence. -/
def NextPost (lit len dist r0 r1 r2 : Int) (b : Nat) (w : World) (e : Ending) (w' : World) : Prop :=
  e = .returned (.agg #[.int .u32 lit, .int .u32 len, .int .u32 (code lit dist r0 r1 r2)]) ∧ RepsAt w' b dist (rep1 lit dist r0 r1 r2) (rep2 lit dist r0 r1 r2) ∧ w.grownBy w' (some b)

set_option maxHeartbeats 400000 in
theorem next_A (lit len dist r0 r1 r2 : Int) (b : Nat) (w : World) (hl : 0 < lit) (hd : dist = r0) (h : RepsAt w b r0 r1 r2) :
    Calls Trym.prog 20 #[.int .u32 lit, .int .u32 len, .int .u32 dist, .pointer (some ⟨b, 0, none⟩)] w (NextPost lit len dist r0 r1 r2 b w) := by
  subst hd
  have ec : code lit dist dist r1 r2 = 1 := by simp [code, hl]
  have e1 : rep1 lit dist dist r1 r2 = r1 := by simp [rep1, hl]
  have e2 : rep2 lit dist dist r1 r2 = r2 := by simp [rep2, hl]
  unfold NextPost
  rw [ec, e1, e2]
  clear ec e1 e2
  have hb : b < w.heap.size := h.lt
  have hb1 : b < w.heap.size + 1 := by omega
  have hb2 : b < w.heap.size + 1 + 1 := by omega
  have g := fun v => h.kept (row := none) (v := v)
  obtain ⟨c0, c1, c2, f0, f1, f2⟩ := h
  have hl0 : (lit == 0) = false := by simp; omega
  go_enter Trym.func20, Trym.ntmps20
  go_wp2
  have G : w.grownBy (((w.alloc (Obj.cells #[Value.int IntKind.u32 lit, Value.int IntKind.u32 len, Value.int IntKind.u32 1] 49)).alloc
        (Obj.cells #[Value.int IntKind.u32 lit, Value.int IntKind.u32 len, Value.int IntKind.u32 1] 49)).alloc
    (Obj.cells #[Value.int IntKind.u32 dist, Value.int IntKind.u32 r1, Value.int IntKind.u32 r2] 24)) none := gb_alloc (gb_alloc (gb_alloc (gb_refl _ _) _) _) _
  exact bodyPost_ret (v := .agg #[.int .u32 lit, .int .u32 len, .int .u32 1]) (by simp [results, Trym.results20, go_sem]) rfl ⟨rfl, g _ G (by simp), gb_weak G⟩

set_option maxHeartbeats 400000 in
theorem next_B0 (lit len dist r0 r1 r2 : Int) (b : Nat) (w : World) (hl : lit = 0) (hd : dist = r1) (h : RepsAt w b r0 r1 r2) :
    Calls Trym.prog 20 #[.int .u32 lit, .int .u32 len, .int .u32 dist, .pointer (some ⟨b, 0, none⟩)] w (NextPost lit len dist r0 r1 r2 b w) := by
  have ec : code lit dist r0 r1 r2 = 1 := by simp [code, hl, hd]
  have e1 : rep1 lit dist r0 r1 r2 = r0 := by simp [rep1, hl, hd]
  have e2 : rep2 lit dist r0 r1 r2 = r2 := by simp [rep2, hl, hd]
  unfold NextPost
  rw [ec, e1, e2]
  clear ec e1 e2
  subst hd
  subst hl
  have hb : b < w.heap.size := h.lt
  have hb1 : b < w.heap.size + 1 := by omega
  have hb2 : b < w.heap.size + 1 + 1 := by omega
  have HG : Hid (∀ o1 o2 o3, RepsAt ((((setReps w b dist r0 r2).alloc o1).alloc o2).alloc o3) b dist r0 r2 ∧ w.grownBy ((((setReps w b dist r0 r2).alloc o1).alloc o2).alloc o3) (some b)) := fun o1 o2 o3 => h.set3 dist r0 r2 o1 o2 o3
  obtain ⟨c0, c1, c2, f0, f1, f2⟩ := h
  go_enter Trym.func20, Trym.ntmps20
  go_wp2
  exact bodyPost_ret (v := .agg #[.int .u32 0, .int .u32 len, .int .u32 1]) (by simp [results, Trym.results20, go_sem]) rfl ⟨rfl, (HG.out _ _ _).1, (HG.out _ _ _).2⟩

set_option maxHeartbeats 400000 in
theorem next_B1 (lit len dist r0 r1 r2 : Int) (b : Nat) (w : World) (hl : 0 < lit) (h0 : ¬ dist = r0) (hd : dist = r1) (h : RepsAt w b r0 r1 r2) :
    Calls Trym.prog 20 #[.int .u32 lit, .int .u32 len, .int .u32 dist, .pointer (some ⟨b, 0, none⟩)] w (NextPost lit len dist r0 r1 r2 b w) := by
  have ec : code lit dist r0 r1 r2 = 2 := by simp [code, hl, hd, Int.ne_of_gt hl, (show ¬ r1 = r0 from hd ▸ h0)]
  have e1 : rep1 lit dist r0 r1 r2 = r0 := by simp [rep1, hl, hd, Int.ne_of_gt hl, (show ¬ r1 = r0 from hd ▸ h0)]
  have e2 : rep2 lit dist r0 r1 r2 = r2 := by simp [rep2, hl, hd, Int.ne_of_gt hl, (show ¬ r1 = r0 from hd ▸ h0)]
  unfold NextPost
  rw [ec, e1, e2]
  clear ec e1 e2
  subst hd
  have hb : b < w.heap.size := h.lt
  have hb1 : b < w.heap.size + 1 := by omega
  have hb2 : b < w.heap.size + 1 + 1 := by omega
  have HG : Hid (∀ o1 o2 o3, RepsAt ((((setReps w b dist r0 r2).alloc o1).alloc o2).alloc o3) b dist r0 r2 ∧ w.grownBy ((((setReps w b dist r0 r2).alloc o1).alloc o2).alloc o3) (some b)) := fun o1 o2 o3 => h.set3 dist r0 r2 o1 o2 o3
  obtain ⟨c0, c1, c2, f0, f1, f2⟩ := h
  have hl0 : (lit == 0) = false := by simp; omega
  have h0b : (dist == r0) = false := by simpa using h0
  go_enter Trym.func20, Trym.ntmps20
  go_wp2
  exact bodyPost_ret (v := .agg #[.int .u32 lit, .int .u32 len, .int .u32 2]) (by simp [results, Trym.results20, go_sem]) rfl ⟨rfl, (HG.out _ _ _).1, (HG.out _ _ _).2⟩

set_option maxHeartbeats 400000 in
theorem next_C0 (lit len dist r0 r1 r2 : Int) (b : Nat) (w : World) (hl : lit = 0) (h1 : ¬ dist = r1) (hd : dist = r2) (h : RepsAt w b r0 r1 r2) :
    Calls Trym.prog 20 #[.int .u32 lit, .int .u32 len, .int .u32 dist, .pointer (some ⟨b, 0, none⟩)] w (NextPost lit len dist r0 r1 r2 b w) := by
  have ec : code lit dist r0 r1 r2 = 2 := by simp [code, hl, hd, (show ¬ r2 = r1 from hd ▸ h1)]
  have e1 : rep1 lit dist r0 r1 r2 = r0 := by simp [rep1, hl, hd, (show ¬ r2 = r1 from hd ▸ h1)]
  have e2 : rep2 lit dist r0 r1 r2 = r1 := by simp [rep2, hl, hd, (show ¬ r2 = r1 from hd ▸ h1)]
  unfold NextPost
  rw [ec, e1, e2]
  clear ec e1 e2
  subst hd
  subst hl
  have hb : b < w.heap.size := h.lt
  have hb1 : b < w.heap.size + 1 := by omega
  have hb2 : b < w.heap.size + 1 + 1 := by omega
  have HG : Hid (∀ o1 o2 o3, RepsAt ((((setReps w b dist r0 r1).alloc o1).alloc o2).alloc o3) b dist r0 r1 ∧ w.grownBy ((((setReps w b dist r0 r1).alloc o1).alloc o2).alloc o3) (some b)) := fun o1 o2 o3 => h.set3 dist r0 r1 o1 o2 o3
  obtain ⟨c0, c1, c2, f0, f1, f2⟩ := h
  have h1b : (dist == r1) = false := by simpa using h1
  go_enter Trym.func20, Trym.ntmps20
  go_wp2
  exact bodyPost_ret (v := .agg #[.int .u32 0, .int .u32 len, .int .u32 2]) (by simp [results, Trym.results20, go_sem]) rfl ⟨rfl, (HG.out _ _ _).1, (HG.out _ _ _).2⟩

set_option maxHeartbeats 400000 in
theorem next_C1 (lit len dist r0 r1 r2 : Int) (b : Nat) (w : World) (hl : 0 < lit) (h0 : ¬ dist = r0) (h1 : ¬ dist = r1) (hd : dist = r2) (h : RepsAt w b r0 r1 r2) :
    Calls Trym.prog 20 #[.int .u32 lit, .int .u32 len, .int .u32 dist, .pointer (some ⟨b, 0, none⟩)] w (NextPost lit len dist r0 r1 r2 b w) := by
  have ec : code lit dist r0 r1 r2 = 3 := by simp [code, hl, hd, Int.ne_of_gt hl, (show ¬ r2 = r0 from hd ▸ h0), (show ¬ r2 = r1 from hd ▸ h1)]
  have e1 : rep1 lit dist r0 r1 r2 = r0 := by simp [rep1, hl, hd, Int.ne_of_gt hl, (show ¬ r2 = r0 from hd ▸ h0), (show ¬ r2 = r1 from hd ▸ h1)]
  have e2 : rep2 lit dist r0 r1 r2 = r1 := by simp [rep2, hl, hd, Int.ne_of_gt hl, (show ¬ r2 = r0 from hd ▸ h0), (show ¬ r2 = r1 from hd ▸ h1)]
  unfold NextPost
  rw [ec, e1, e2]
  clear ec e1 e2
  subst hd
  have hb : b < w.heap.size := h.lt
  have hb1 : b < w.heap.size + 1 := by omega
  have hb2 : b < w.heap.size + 1 + 1 := by omega
  have HG : Hid (∀ o1 o2 o3, RepsAt ((((setReps w b dist r0 r1).alloc o1).alloc o2).alloc o3) b dist r0 r1 ∧ w.grownBy ((((setReps w b dist r0 r1).alloc o1).alloc o2).alloc o3) (some b)) := fun o1 o2 o3 => h.set3 dist r0 r1 o1 o2 o3
  obtain ⟨c0, c1, c2, f0, f1, f2⟩ := h
  have hl0 : (lit == 0) = false := by simp; omega
  have h0b : (dist == r0) = false := by simpa using h0
  have h1b : (dist == r1) = false := by simpa using h1
  go_enter Trym.func20, Trym.ntmps20
  go_wp2
  exact bodyPost_ret (v := .agg #[.int .u32 lit, .int .u32 len, .int .u32 3]) (by simp [results, Trym.results20, go_sem]) rfl ⟨rfl, (HG.out _ _ _).1, (HG.out _ _ _).2⟩

set_option maxHeartbeats 400000 in
theorem next_D (lit len dist r0 r1 r2 : Int) (b : Nat) (w : World) (hl : lit = 0) (h1 : ¬ dist = r1) (h2 : ¬ dist = r2) (hd : dist = less1 r0) (h : RepsAt w b r0 r1 r2) :
    Calls Trym.prog 20 #[.int .u32 lit, .int .u32 len, .int .u32 dist, .pointer (some ⟨b, 0, none⟩)] w (NextPost lit len dist r0 r1 r2 b w) := by
  have ec : code lit dist r0 r1 r2 = 3 := by simp [code, hl, h1, h2, ← hd]
  have e1 : rep1 lit dist r0 r1 r2 = r0 := by simp [rep1, hl, h1, h2, ← hd]
  have e2 : rep2 lit dist r0 r1 r2 = r1 := by simp [rep2, hl, h1, h2, ← hd]
  unfold NextPost
  rw [ec, e1, e2]
  clear ec e1 e2
  subst hl
  have hb : b < w.heap.size := h.lt
  have hb1 : b < w.heap.size + 1 := by omega
  have hb2 : b < w.heap.size + 1 + 1 := by omega
  have HG : Hid (∀ o1 o2 o3, RepsAt ((((setReps w b dist r0 r1).alloc o1).alloc o2).alloc o3) b dist r0 r1 ∧ w.grownBy ((((setReps w b dist r0 r1).alloc o1).alloc o2).alloc o3) (some b)) := fun o1 o2 o3 => h.set3 dist r0 r1 o1 o2 o3
  obtain ⟨c0, c1, c2, f0, f1, f2⟩ := h
  have h1b : (dist == r1) = false := by simpa using h1
  have h2b : (dist == r2) = false := by simpa using h2
  have hdb : (dist == (r0 - 1) % 4294967296) = true := by rw [hd]; simp [less1]
  clear hd
  go_enter Trym.func20, Trym.ntmps20
  go_wp2
  exact bodyPost_ret (v := .agg #[.int .u32 0, .int .u32 len, .int .u32 3]) (by simp [results, Trym.results20, go_sem]) rfl ⟨rfl, (HG.out _ _ _).1, (HG.out _ _ _).2⟩

set_option maxHeartbeats 400000 in
theorem next_E0 (lit len dist r0 r1 r2 : Int) (b : Nat) (w : World) (hl : lit = 0) (h1 : ¬ dist = r1) (h2 : ¬ dist = r2) (hd : ¬ dist = less1 r0) (h : RepsAt w b r0 r1 r2) :
    Calls Trym.prog 20 #[.int .u32 lit, .int .u32 len, .int .u32 dist, .pointer (some ⟨b, 0, none⟩)] w (NextPost lit len dist r0 r1 r2 b w) := by
  have ec : code lit dist r0 r1 r2 = plus3 dist := by simp [code, hl, h1, h2, hd]
  have e1 : rep1 lit dist r0 r1 r2 = r0 := by simp [rep1, hl, h1, h2, hd]
  have e2 : rep2 lit dist r0 r1 r2 = r1 := by simp [rep2, hl, h1, h2, hd]
  unfold NextPost
  rw [ec, e1, e2]
  clear ec e1 e2
  subst hl
  have hb : b < w.heap.size := h.lt
  have hb1 : b < w.heap.size + 1 := by omega
  have hb2 : b < w.heap.size + 1 + 1 := by omega
  have HG : Hid (∀ o1 o2 o3, RepsAt ((((setReps w b dist r0 r1).alloc o1).alloc o2).alloc o3) b dist r0 r1 ∧ w.grownBy ((((setReps w b dist r0 r1).alloc o1).alloc o2).alloc o3) (some b)) := fun o1 o2 o3 => h.set3 dist r0 r1 o1 o2 o3
  obtain ⟨c0, c1, c2, f0, f1, f2⟩ := h
  have h1b : (dist == r1) = false := by simpa using h1
  have h2b : (dist == r2) = false := by simpa using h2
  have hdb : (dist == (r0 - 1) % 4294967296) = false := by simpa [less1] using hd
  clear hd
  go_enter Trym.func20, Trym.ntmps20
  go_wp2
  exact bodyPost_ret (v := .agg #[.int .u32 0, .int .u32 len, .int .u32 ((dist + 3) % 4294967296)]) (by simp [results, Trym.results20, go_sem]) rfl ⟨rfl, (HG.out _ _ _).1, (HG.out _ _ _).2⟩

set_option maxHeartbeats 400000 in
theorem next_E1 (lit len dist r0 r1 r2 : Int) (b : Nat) (w : World) (hl : 0 < lit) (h0 : ¬ dist = r0) (h1 : ¬ dist = r1) (h2 : ¬ dist = r2) (h : RepsAt w b r0 r1 r2) :
    Calls Trym.prog 20 #[.int .u32 lit, .int .u32 len, .int .u32 dist, .pointer (some ⟨b, 0, none⟩)] w (NextPost lit len dist r0 r1 r2 b w) := by
  have ec : code lit dist r0 r1 r2 = plus3 dist := by simp [code, hl, h0, h1, h2, Int.ne_of_gt hl]
  have e1 : rep1 lit dist r0 r1 r2 = r0 := by simp [rep1, hl, h0, h1, h2, Int.ne_of_gt hl]
  have e2 : rep2 lit dist r0 r1 r2 = r1 := by simp [rep2, hl, h0, h1, h2, Int.ne_of_gt hl]
  unfold NextPost
  rw [ec, e1, e2]
  clear ec e1 e2
  have hb : b < w.heap.size := h.lt
  have hb1 : b < w.heap.size + 1 := by omega
  have hb2 : b < w.heap.size + 1 + 1 := by omega
  have HG : Hid (∀ o1 o2 o3, RepsAt ((((setReps w b dist r0 r1).alloc o1).alloc o2).alloc o3) b dist r0 r1 ∧ w.grownBy ((((setReps w b dist r0 r1).alloc o1).alloc o2).alloc o3) (some b)) := fun o1 o2 o3 => h.set3 dist r0 r1 o1 o2 o3
  obtain ⟨c0, c1, c2, f0, f1, f2⟩ := h
  have hl0 : (lit == 0) = false := by simp; omega
  have h0b : (dist == r0) = false := by simpa using h0
  have h1b : (dist == r1) = false := by simpa using h1
  have h2b : (dist == r2) = false := by simpa using h2
  go_enter Trym.func20, Trym.ntmps20
  go_wp2
  exact bodyPost_ret (v := .agg #[.int .u32 lit, .int .u32 len, .int .u32 ((dist + 3) % 4294967296)]) (by simp [results, Trym.results20, go_sem]) rfl ⟨rfl, (HG.out _ _ _).1, (HG.out _ _ _).2⟩
end Go.Proofs.Qxb6602441aMods
