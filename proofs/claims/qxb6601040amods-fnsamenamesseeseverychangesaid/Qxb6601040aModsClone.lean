/-
  zzClone (13), namesBytes (12), sameText (16): their contracts; rows of strings of one's own.
-/
import Derived.Test.Qxb6601040aModsNames
import Derived.Laws.CopyOwn
namespace Go.Proofs.Qxb6601040aMods
open Go.RowKit
set_option linter.unusedSimpArgs false

theorem info9 : (Trym.prog.info? 9).map (fun i => (i.zero, i.size, i.bytes)) = some (some (.string ByteArray.empty), 1, 16) := by kernel_rfl
theorem cell_heap {w : World} {b o : Nat} {c : Array Value} {e : TypeId} (h : w.heap[b]? = some (.cells c e (0, 0))) : w.cell? ⟨b, o, none⟩ = c[o]? ∧ w.frozen? ⟨b, o, none⟩ = false := by
  constructor
  · simp [World.cell?, h]
  · simp [World.frozen?, h]
theorem made_at {z : Value} {n j : Nat} (h : j < n) : (madeCells #[z] n)[j]? = some z := by
  have hs : j < (madeCells #[z] n).size := by rw [size_madeCells]; exact h
  rw [Array.getElem?_eq_getElem hs]
  simp [madeCells, Nat.mod_one]

/-- n strings in block b, which may be written. -/
def Own (w : World) (b n : Nat) (F : Nat → ByteArray) : Prop := ∀ i, i < n → w.cell? ⟨b, i, none⟩ = some (.string (F i)) ∧ w.frozen? ⟨b, i, none⟩ = false
theorem Own.kept {w v : World} {row : Option Nat} {b n : Nat} {F : Nat → ByteArray} (h : Own w b n F) (g : w.grownBy v row) (hr : some b ≠ row) : Own v b n F := fun i hi => by
  obtain ⟨h1, h2⟩ := h i hi
  have hb : b < w.heap.size := World.block_lt_of_cell? w ⟨b, i, none⟩ h1
  exact ⟨g.cell h1 hr, (World.frozen?_of_block (w := w) (g.block b hb hr)).trans h2⟩
theorem Own.strs {w : World} {b n : Nat} {F : Nat → ByteArray} (h : Own w b n F) : Strs w (some ⟨b, 0, none⟩) n F := fun i hi => ⟨b, 0, rfl, by simpa using (h i hi).1⟩
def upd (F : Nat → ByteArray) (k : Nat) (t : ByteArray) : Nat → ByteArray := fun i => if i = k then t else F i
theorem upd_same (F : Nat → ByteArray) (k : Nat) (t : ByteArray) : upd F k t k = t := by simp [upd]
theorem upd_other (F : Nat → ByteArray) {k i : Nat} (t : ByteArray) (h : i ≠ k) : upd F k t i = F i := by simp [upd, h]
theorem Own.set {w : World} {b n k : Nat} {F : Nat → ByteArray} (h : Own w b n F) (t : ByteArray) (hk : k < n) : Own (w.setCell ⟨b, k, none⟩ (.string t)) b n (upd F k t) := fun i hi => by
  refine ⟨?_, by rw [World.frozen?_setCell]; exact (h i hi).2⟩
  by_cases e : i = k
  · subst e
    rw [upd_same]
    exact World.cell?_setCell_same _ _ _ (h i hk).1
  · rw [upd_other _ _ e, World.cell?_setCell_other _ _ _ _ (by intro x; injection x with _ x2; exact e x2.symm)]
    exact (h i hi).1
theorem Own.ext {w : World} {b n : Nat} {F G : Nat → ByteArray} (h : Own w b n F) (e : ∀ i, i < n → F i = G i) : Own w b n G := fun i hi => by rw [← e i hi]; exact h i hi
theorem own_made (w : World) (n : Nat) : Own (w.alloc (.cells (madeCells #[.string ByteArray.empty] n) 9)) w.heap.size n (fun _ => ByteArray.empty) := fun i hi => by
  have h := cell_heap (o := i) (heap_alloc_new w (.cells (madeCells #[.string ByteArray.empty] n) 9))
  rw [made_at hi] at h
  exact h

/-- It returned an int. -/
def AnInt (e : Ending) : Prop := ∃ v, e = .returned (.int .i64 v)
/-- It returned a bool. -/
def ABool (e : Ending) : Prop := ∃ b, e = .returned (.bool b)

set_option maxHeartbeats 400000 in
theorem names12 (a : Option Addr) (n c : Nat) (S : Nat → ByteArray) (w : World) (hn : n ≤ 65536) (hS : Strs w a n S) :
    Calls Trym.prog 12 #[.slice a n c] w fun e w' => AnInt e ∧ w.grownBy w' none := by
  have HS : Hid (Strs w a n S) := hS
  clear hS
  go_enter Trym.func12, Trym.ntmps12
  go_wp2
  go_loop [3, 4] (fun v i => ∃ (k : Nat) (s : Int), k ≤ n ∧ i = .int .i64 k ∧ v = .int .i64 s ∧ 0 ≤ s ∧ s ≤ 1048576) (fun _ i => n - (intOf i).toNat)
  case atStart => exact ⟨0, _, by omega, rfl, rfl, by omega, by omega⟩
  case round =>
    obtain ⟨k, s, hk, rfl, rfl, s1, s2⟩ := hrel
    by_cases hkn : k < n
    · obtain ⟨b1, o1, e1, c1⟩ := HS.out k hkn
      subst e1
      generalize S k = t at c1
      have i1 : (0 : Int) ≤ (k : Int) := by omega
      have i2 : (k : Int) < (n : Int) := by omega
      by_cases hb : t.size ≤ 1048576
      · by_cases hb2 : s + t.size ≤ 1048576
        · go_wp2
          go_round
          case rel => exact ⟨k + 1, s + t.size, by omega, by go_num, rfl, by omega, by omega⟩
          case measure => simp [intOf]; omega
        · go_wp2
          go_ret
          exact ⟨⟨_, rfl⟩, gb_refl _ _⟩
      · go_wp2
        go_ret
        exact ⟨⟨_, rfl⟩, gb_refl _ _⟩
    · go_wp2
      go_ret
      exact ⟨⟨_, rfl⟩, gb_refl _ _⟩

/-- The copy: the same strings in a block of its own, or nil. -/
def Copied (w w' : World) (a : Option Addr) (n : Nat) (S : Nat → ByteArray) : Prop := (a = none ∧ n = 0) ∨ (a = some ⟨w.heap.size, 0, none⟩ ∧ Own w' w.heap.size n S)
theorem Copied.strs {w w' v : World} {a : Option Addr} {n : Nat} {S : Nat → ByteArray} (h : Copied w w' a n S) (g : w'.grownBy v none) : Strs v a n S := by
  rcases h with ⟨_, rfl⟩ | ⟨rfl, h⟩
  · intro i hi; omega
  · exact (h.kept g (by simp)).strs

set_option maxHeartbeats 400000 in
theorem clone13_some (x : Addr) (n c : Nat) (S : Nat → ByteArray) (w : World) (hn : n ≤ 65536) (hS : Strs w (some x) n S) :
    Calls Trym.prog 13 #[.slice (some x) n c] w fun e w' => e = .returned (.slice (some ⟨w.heap.size, 0, none⟩) n n) ∧ Own w' w.heap.size n S ∧ w.grownBy w' none := by
  have hne : ∀ w, (binOp .eql 22 (.slice (some x) n c) (.slice none 0 0)).run Trym.prog w = .ok (.bool false) w := fun w => by
    rw [Lib.run_eql_slice_nil w 22 9 _ _ _ _ _ Trym.underlying22]; rfl
  have mk1 := fun w => run_make_row' (P := Trym.prog) 22 9 (.string ByteArray.empty) 16 Trym.underlying22 info9 rfl .i64 .i64 n (by omega) (by omega) w
  have HS : Hid (Strs w (some x) n S) := hS
  clear hS
  go_enter Trym.func13, Trym.ntmps13
  go_wp2
  clear hne mk1
  go_loopw [4] (fun i wr => ∃ k : Nat, k ≤ n ∧ i = .int .i64 k ∧ Own wr w.heap.size n (fun i => if i < k then S i else ByteArray.empty) ∧ w.grownBy wr none) (fun i _ => n - (intOf i).toNat)
  case atStart => exact ⟨0, by omega, rfl, (own_made w n).ext (fun i _ => by simp), gb_alloc (gb_refl _ _) _⟩
  case round =>
    obtain ⟨k, hk, rfl, hO, hg⟩ := hrel
    have HO : Hid (Own wr w.heap.size n (fun i => if i < k then S i else ByteArray.empty)) := hO
    have HG : Hid (w.grownBy wr none) := hg
    clear hO hg
    by_cases hkn : k < n
    · obtain ⟨b1, o1, e1, c1⟩ := HS.out.kept0 HG.out k hkn
      injection e1 with e1
      subst e1
      obtain ⟨d1, d2⟩ := HO.out k hkn
      have i1 : (0 : Int) ≤ (k : Int) := by omega
      have i2 : (k : Int) < (n : Int) := by omega
      have HR : Hid (Own (wr.setCell ⟨w.heap.size, k, none⟩ (.string (S k))) w.heap.size n (fun i => if i < k + 1 then S i else ByteArray.empty)) := (HO.out.set (S k) hkn).ext (fun i _ => by
        by_cases e : i = k
        · subst e; rw [upd_same]; simp
        · rw [upd_other _ _ e]
          by_cases e2 : i < k
          · rw [if_pos e2, if_pos (by omega)]
          · rw [if_neg e2, if_neg (by omega)])
      generalize S k = s at c1 HR
      go_wp2
      go_roundw
      case rel => exact ⟨k + 1, by omega, by go_num, HR.out, gb_setCell_new HG.out (Nat.le_refl _) _ _ _⟩
      case measure => simp [intOf]; omega
    · go_wp2
      go_ret
      exact ⟨rfl, HO.out.ext (fun i hi => by rw [if_pos (by omega)]), HG.out⟩

theorem clone13_none (c : Nat) (w : World) :
    Calls Trym.prog 13 #[.slice none 0 c] w fun e w' => e = .returned (.slice none 0 0) ∧ w.grownBy w' none := by
  have hne : ∀ w, (binOp .eql 22 (.slice none 0 c) (.slice none 0 0)).run Trym.prog w = .ok (.bool true) w := fun w => by
    rw [Lib.run_eql_slice_nil w 22 9 _ _ _ _ _ Trym.underlying22]; rfl
  go_enter Trym.func13, Trym.ntmps13
  go_wp2
  go_ret
  exact ⟨rfl, gb_refl _ _⟩

theorem clone13 (a : Option Addr) (n c : Nat) (S : Nat → ByteArray) (w : World) (hn : n ≤ 65536) (hS : Strs w a n S) (h0 : a = none → n = 0) :
    Calls Trym.prog 13 #[.slice a n c] w fun e w' => ∃ a', e = .returned (.slice a' n n) ∧ Copied w w' a' n S ∧ w.grownBy w' none := by
  cases a with
  | none =>
    obtain rfl := h0 rfl
    exact (clone13_none c w).mono fun e w' ⟨h, g⟩ => ⟨none, h, .inl ⟨rfl, rfl⟩, g⟩
  | some x => exact (clone13_some x n c S w hn hS).mono fun e w' ⟨h, o, g⟩ => ⟨_, h, .inr ⟨rfl, o⟩, g⟩
end Go.Proofs.Qxb6601040aMods
