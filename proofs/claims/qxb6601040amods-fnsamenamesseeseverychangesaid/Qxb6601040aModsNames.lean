/-
  sameNames (29), ZZsameNames (14), zzClone (13), namesBytes (12): their contracts.
-/
import Derived.Test.Qxb6601040aModsRows
import Derived.WalkKit
import Derived.WalkSpells
import Derived.WalkLawsBesides
import Derived.Deep.QuietTactic
import Derived.BigQuiet
import Derived.RegionTactic
import Derived.Deep.OwnRows
import Derived.Deep.RegionWith
namespace Go.Proofs.Qxb6601040aMods
open Go.RowKit
set_option linter.unusedSimpArgs false

/-! ### What one call did to the world: new blocks, and writes to block 'row' alone -/
theorem gb_refl (w : World) (row : Option Nat) : w.grownBy w row := ⟨rfl, rfl, rfl, Nat.le_refl _, fun _ _ _ => rfl⟩
theorem gb_drew {w v : World} {row : Option Nat} (h : w.grownBy v row) : w.grownBy v.drew row := ⟨h.os, h.tape, h.output, h.size, h.block⟩
theorem gb_drewN {w v : World} {row : Option Nat} (h : w.grownBy v row) (n : Nat) : w.grownBy (v.drewN n) row := ⟨h.os, h.tape, h.output, h.size, h.block⟩
theorem gb_alloc {w v : World} {row : Option Nat} (h : w.grownBy v row) (o : Obj) : w.grownBy (v.alloc o) row :=
  ⟨h.os, h.tape, h.output, by have := h.size; simp; omega, fun k hk hr => (Below.heap_alloc v o k (Nat.lt_of_lt_of_le hk h.size)).trans (h.block k hk hr)⟩
theorem gb_setCell {w v : World} {b : Nat} (h : w.grownBy v (some b)) (o : Nat) (s) (u : Value) : w.grownBy (v.setCell ⟨b, o, s⟩ u) (some b) :=
  ⟨h.os, h.tape, h.output, by have := h.size; simp; omega, fun k hk hr => (Below.heap_setCell v ⟨b, o, s⟩ u k (by simpa using hr)).trans (h.block k hk hr)⟩
theorem gb_weak {w v : World} {row : Option Nat} (h : w.grownBy v none) : w.grownBy v row := ⟨h.os, h.tape, h.output, h.size, fun k hk _ => h.block k hk (by simp)⟩
theorem gb_trans {u v w : World} {row : Option Nat} (h : u.grownBy v row) (k : v.grownBy w row) : u.grownBy w row :=
  ⟨k.os.trans h.os, k.tape.trans h.tape, k.output.trans h.output, Nat.le_trans h.size k.size, fun j hj hr => (k.block j (Nat.lt_of_lt_of_le hj h.size) hr).trans (h.block j hj hr)⟩
theorem gb_setCell_new {w v : World} {row : Option Nat} {b : Nat} (h : w.grownBy v row) (hb : w.heap.size ≤ b) (o : Nat) (s) (u : Value) : w.grownBy (v.setCell ⟨b, o, s⟩ u) row :=
  ⟨h.os, h.tape, h.output, by have := h.size; simp; omega, fun k hk hr => (Below.heap_setCell v ⟨b, o, s⟩ u k (by simp; omega)).trans (h.block k hk hr)⟩
theorem below_gb {w v : World} (h : w.grownBy v none) : Below w.heap.size w v := ⟨h.os, h.tape, h.output, h.size, fun k hk => h.block k hk (by simp)⟩

/-- n strings lie at ad (which is of no matter where n is 0). -/
def Strs (w : World) (ad : Option Addr) (n : Nat) (S : Nat → ByteArray) : Prop := ∀ i, i < n → ∃ b off, ad = some ⟨b, off, none⟩ ∧ w.cell? ⟨b, off + i, none⟩ = some (.string (S i))
theorem Strs.kept {w v : World} {row : Option Nat} {ad : Option Addr} {n : Nat} {S : Nat → ByteArray} (h : Strs w ad n S) (g : w.grownBy v row) (hr : ∀ a, ad = some a → some a.block ≠ row) : Strs v ad n S := fun i hi => by
  obtain ⟨b, off, e, hc⟩ := h i hi
  exact ⟨b, off, e, g.cell hc (by simpa using hr _ e)⟩
theorem Strs.kept0 {w v : World} {ad : Option Addr} {n : Nat} {S : Nat → ByteArray} (h : Strs w ad n S) (g : w.grownBy v none) : Strs v ad n S := h.kept g (by simp)

/-- Are the two lists the same? -/
def eqB (S : Nat → ByteArray) (n : Nat) (T : Nat → ByteArray) (m : Nat) : Bool := decide (n = m) && (List.range n).all (fun i => decide (S i = T i))
theorem eqB_iff {S T : Nat → ByteArray} {n m : Nat} : eqB S n T m = true ↔ n = m ∧ ∀ i, i < n → S i = T i := by
  unfold eqB
  simp
theorem eqB_no {S T : Nat → ByteArray} {n m : Nat} : eqB S n T m = false ↔ ¬ (n = m ∧ ∀ i, i < n → S i = T i) := by
  rw [← eqB_iff]
  simp

set_option maxHeartbeats 400000 in
theorem same_yes (a b : Option Addr) (n c d : Nat) (S T : Nat → ByteArray) (w : World) (hn : n ≤ 9223372036854775807) (hS : Strs w a n S) (hT : Strs w b n T) (heq : ∀ i, i < n → S i = T i) :
    Calls Trym.prog 29 #[.slice a n c, .slice b n d] w fun e w' => e = .returned (.bool true) ∧ w.grownBy w' none := by
  have HS : Hid (Strs w a n S) := hS
  have HT : Hid (Strs w b n T) := hT
  have HE : Hid (∀ i, i < n → S i = T i) := heq
  clear hS hT heq
  go_enter Trym.func29, Trym.ntmps29
  go_wp2
  go_loopw [13] (fun i wr => ∃ k : Nat, k ≤ n ∧ i = .int .i64 k ∧ w.grownBy wr none) (fun i _ => n - (intOf i).toNat)
  case atStart => exact ⟨0, by omega, rfl, gb_refl _ _⟩
  case round =>
    obtain ⟨k, hk, rfl, hg⟩ := hrel
    have HG : Hid (w.grownBy wr none) := hg
    clear hg
    by_cases hkn : k < n
    · obtain ⟨b1, o1, e1, c1⟩ := HS.out.kept0 HG.out k hkn
      obtain ⟨b2, o2, e2, c2⟩ := HT.out.kept0 HG.out k hkn
      subst e1
      subst e2
      rw [← HE.out k hkn] at c2
      generalize S k = s at c1 c2
      have i1 : (0 : Int) ≤ (k : Int) := by omega
      have i2 : (k : Int) < (n : Int) := by omega
      go_wp2
      go_quiet (fail)
      go_wp2
      go_roundw
      case rel => exact ⟨k + 1, by omega, by go_num, gb_drewN HG.out _⟩
      case measure => simp [intOf]; omega
    · go_wp2
      go_ret
      exact ⟨rfl, HG.out⟩

theorem same_len (a b : Option Addr) (n m c d : Nat) (w : World) (_hn : n ≤ 9223372036854775807) (_hm : m ≤ 9223372036854775807) (hnm : n ≠ m) :
    Calls Trym.prog 29 #[.slice a n c, .slice b m d] w fun e w' => e = .returned (.bool false) ∧ w.grownBy w' none := by
  go_enter Trym.func29, Trym.ntmps29
  go_wp2
  go_ret
  exact ⟨rfl, gb_refl _ _⟩

theorem bytes_ne {s t : ByteArray} (h : s ≠ t) : (s.toList == t.toList) = false := by
  rw [ByteArray.toList_eq, ByteArray.toList_eq]
  refine beq_eq_false_iff_ne.mpr (fun e => h ?_)
  cases s; cases t
  congr
  exact Array.toList_inj.mp e
theorem first_diff {S T : Nat → ByteArray} {n : Nat} (h : ¬ ∀ i, i < n → S i = T i) : ∃ j, j < n ∧ S j ≠ T j ∧ ∀ i, i < j → S i = T i := by
  induction n with
  | zero => exact absurd (fun i hi => absurd hi (by omega)) h
  | succ n ih =>
    by_cases hb : ∀ i, i < n → S i = T i
    · refine ⟨n, by omega, fun e => h (fun i hi => ?_), hb⟩
      by_cases hin : i = n
      · subst hin; exact e
      · exact hb i (by omega)
    · obtain ⟨j, hj, h1, h2⟩ := ih hb
      exact ⟨j, by omega, h1, h2⟩

set_option maxHeartbeats 400000 in
theorem same_no (a b : Option Addr) (n c d j : Nat) (S T : Nat → ByteArray) (w : World) (hn : n ≤ 9223372036854775807) (hS : Strs w a n S) (hT : Strs w b n T) (hj : j < n) (hd : S j ≠ T j) (heq : ∀ i, i < j → S i = T i) :
    Calls Trym.prog 29 #[.slice a n c, .slice b n d] w fun e w' => e = .returned (.bool false) ∧ w.grownBy w' none := by
  have HS : Hid (Strs w a n S) := hS
  have HT : Hid (Strs w b n T) := hT
  have HE : Hid (∀ i, i < j → S i = T i) := heq
  have HD : Hid (S j ≠ T j) := hd
  clear hS hT heq hd
  go_enter Trym.func29, Trym.ntmps29
  go_wp2
  go_loopw [13] (fun i wr => ∃ k : Nat, k ≤ j ∧ i = .int .i64 k ∧ w.grownBy wr none) (fun i _ => n - (intOf i).toNat)
  case atStart => exact ⟨0, by omega, rfl, gb_refl _ _⟩
  case round =>
    obtain ⟨k, hk, rfl, hg⟩ := hrel
    have HG : Hid (w.grownBy wr none) := hg
    clear hg
    obtain ⟨b1, o1, e1, c1⟩ := HS.out.kept0 HG.out k (by omega)
    obtain ⟨b2, o2, e2, c2⟩ := HT.out.kept0 HG.out k (by omega)
    subst e1
    subst e2
    have i1 : (0 : Int) ≤ (k : Int) := by omega
    have i2 : (k : Int) < (n : Int) := by omega
    by_cases hkj : k = j
    · subst hkj
      have hd := bytes_ne HD.out
      generalize S k = s at c1 hd
      generalize T k = t at c2 hd
      go_wp2
      go_quiet (fail)
      go_wp2
      go_ret
      exact ⟨rfl, gb_drewN HG.out _⟩
    · rw [← HE.out k (by omega)] at c2
      generalize S k = s at c1 c2
      go_wp2
      go_quiet (fail)
      go_wp2
      go_roundw
      case rel => exact ⟨k + 1, by omega, by go_num, gb_drewN HG.out _⟩
      case measure => simp [intOf]; omega

theorem same29 (a b : Option Addr) (n m c d : Nat) (S T : Nat → ByteArray) (w : World) (hn : n ≤ 9223372036854775807) (hm : m ≤ 9223372036854775807) (hS : Strs w a n S) (hT : Strs w b m T) :
    Calls Trym.prog 29 #[.slice a n c, .slice b m d] w fun e w' => e = .returned (.bool (eqB S n T m)) ∧ w.grownBy w' none := by
  by_cases hnm : n = m
  · subst hnm
    by_cases h : ∀ i, i < n → S i = T i
    · rw [show eqB S n T n = true from eqB_iff.mpr ⟨rfl, h⟩]
      exact same_yes a b n c d S T w hn hS hT h
    · rw [show eqB S n T n = false from eqB_no.mpr (fun x => h x.2)]
      obtain ⟨j, h1, h2, h3⟩ := first_diff h
      exact same_no a b n c d j S T w hn hS hT h1 h2 h3
  · rw [show eqB S n T m = false from eqB_no.mpr (fun x => hnm x.1)]
    exact same_len a b n m c d w hn hm hnm

theorem same14 (a b : Option Addr) (n m c d : Nat) (S T : Nat → ByteArray) (w : World) (hn : n ≤ 9223372036854775807) (hm : m ≤ 9223372036854775807) (hS : Strs w a n S) (hT : Strs w b m T) :
    Calls Trym.prog 14 #[.slice a n c, .slice b m d] w fun e w' => e = .returned (.bool (eqB S n T m)) ∧ w.grownBy w' none := by
  have H : Hid (∀ w1, w.grownBy w1 none → Calls Trym.prog 29 #[.slice a n c, .slice b m d] w1 fun e w' => e = .returned (.bool (eqB S n T m)) ∧ w1.grownBy w' none) := fun w1 g => same29 a b n m c d S T w1 hn hm (hS.kept0 g) (hT.kept0 g)
  clear hS hT
  go_enter Trym.func14, Trym.ntmps14
  go_wp2_with fail
  refine (H.out w (gb_refl _ _)).mono ?_
  rintro e w1 ⟨rfl, hg⟩
  have HG : Hid (w.grownBy w1 none) := hg
  clear hg
  go_wp2
  go_ret
  exact ⟨rfl, HG.out⟩
end Go.Proofs.Qxb6601040aMods
