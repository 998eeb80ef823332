/-
  (CoinRound).Outcome (33), (CoinResult).Tally (15): their contracts.
-/
import Derived.Test.Qxb6602655aModsRows
import Derived.WalkKit
import Derived.WalkSpells
import Derived.WalkLawsBesides
import Derived.Deep.QuietTactic
import Derived.BigQuiet
import Derived.RegionTactic
namespace Go.Proofs.Qxb6602655aMods
open Go.RowKit
set_option linter.unusedSimpArgs false

/-! ### What one call did to the world: new blocks, and writes to block 'row' alone -/
theorem gb_refl (w : World) (row : Option Nat) : w.grownBy w row := ⟨rfl, rfl, rfl, Nat.le_refl _, fun _ _ _ => rfl⟩
theorem gb_drew {w v : World} {row : Option Nat} (h : w.grownBy v row) : w.grownBy v.drew row := ⟨h.os, h.tape, h.output, h.size, h.block⟩
theorem gb_drewN {w v : World} {row : Option Nat} (h : w.grownBy v row) (n : Nat) : w.grownBy (v.drewN n) row := ⟨h.os, h.tape, h.output, h.size, h.block⟩
theorem gb_alloc {w v : World} {row : Option Nat} (h : w.grownBy v row) (o : Obj) : w.grownBy (v.alloc o) row :=
  ⟨h.os, h.tape, h.output, by have := h.size; simp; omega, fun k hk hr => (Below.heap_alloc v o k (Nat.lt_of_lt_of_le hk h.size)).trans (h.block k hk hr)⟩
theorem gb_setCell {w v : World} {b : Nat} (h : w.grownBy v (some b)) (o : Nat) (s) (u : Value) : w.grownBy (v.setCell ⟨b, o, s⟩ u) (some b) :=
  ⟨h.os, h.tape, h.output, by have := h.size; simp; omega, fun k hk hr => (Below.heap_setCell v ⟨b, o, s⟩ u k (by simpa using hr)).trans (h.block k hk hr)⟩
theorem gb_weak {w v : World} {row : Option Nat} (h : w.grownBy v none) : w.grownBy v row := ⟨h.os, h.tape, h.output, h.size, fun k hk _ => h.block k hk (by simp)⟩
theorem gb_trans {u v w : World} {row : Option Nat} (h : u.grownBy v row) (k : v.grownBy w row) : u.grownBy w row :=
  ⟨k.os.trans h.os, k.tape.trans h.tape, k.output.trans h.output, Nat.le_trans h.size k.size, fun j hj hr => (k.block j (Nat.lt_of_lt_of_le hj h.size) hr).trans (h.block j hj hr)⟩

/-! ### The plain functions -/
/-- A round's outcome: 0, 1: agreed; 2: mixed; 3: stalled. -/
def cls (z o c : Int) : Nat := if wrap64 (z + o) < c then 3 else if 0 < z ∧ 0 < o then 2 else if 0 < o then 1 else 0
theorem cls_lt (z o c : Int) : cls z o c < 4 := by
  unfold cls
  split
  · omega
  split
  · omega
  split <;> omega
def name : Nat → ByteArray
  | 0 => ⟨#[48]⟩
  | 1 => ⟨#[49]⟩
  | 2 => ⟨#[109, 105, 120, 101, 100]⟩
  | _ => ⟨#[115, 116, 97, 108, 108, 101, 100]⟩

set_option maxHeartbeats 400000 in
theorem outcome_3 (z o c : Int) (w : World) (h : wrap64 (z + o) < c) : Calls Trym.prog 33 #[.agg #[.int .i64 z, .int .i64 o, .int .i64 c]] w fun e w' => e = .returned (.string ⟨#[115, 116, 97, 108, 108, 101, 100]⟩) ∧ w' = w.alloc (.cells #[.int .i64 z, .int .i64 o, .int .i64 c] 79) := by
  go_enter Trym.func33, Trym.ntmps33
  go_wp2
  go_ret
  exact ⟨rfl, rfl⟩
set_option maxHeartbeats 400000 in
theorem outcome_2 (z o c : Int) (w : World) (h : ¬ wrap64 (z + o) < c) (hz : 0 < z) (ho : 0 < o) : Calls Trym.prog 33 #[.agg #[.int .i64 z, .int .i64 o, .int .i64 c]] w fun e w' => e = .returned (.string ⟨#[109, 105, 120, 101, 100]⟩) ∧ w' = w.alloc (.cells #[.int .i64 z, .int .i64 o, .int .i64 c] 79) := by
  go_enter Trym.func33, Trym.ntmps33
  go_wp2
  go_ret
  exact ⟨rfl, rfl⟩
set_option maxHeartbeats 400000 in
theorem outcome_1 (z o c : Int) (w : World) (h : ¬ wrap64 (z + o) < c) (hz : ¬ 0 < z) (ho : 0 < o) : Calls Trym.prog 33 #[.agg #[.int .i64 z, .int .i64 o, .int .i64 c]] w fun e w' => e = .returned (.string ⟨#[49]⟩) ∧ w' = w.alloc (.cells #[.int .i64 z, .int .i64 o, .int .i64 c] 79) := by
  go_enter Trym.func33, Trym.ntmps33
  go_wp2
  go_ret
  exact ⟨rfl, rfl⟩
set_option maxHeartbeats 400000 in
theorem outcome_0 (z o c : Int) (w : World) (h : ¬ wrap64 (z + o) < c) (ho : ¬ 0 < o) : Calls Trym.prog 33 #[.agg #[.int .i64 z, .int .i64 o, .int .i64 c]] w fun e w' => e = .returned (.string ⟨#[48]⟩) ∧ w' = w.alloc (.cells #[.int .i64 z, .int .i64 o, .int .i64 c] 79) := by
  by_cases hz : 0 < z
  · go_enter Trym.func33, Trym.ntmps33
    go_wp2
    go_ret
    exact ⟨rfl, rfl⟩
  · go_enter Trym.func33, Trym.ntmps33
    go_wp2
    go_ret
    exact ⟨rfl, rfl⟩
theorem outcome_any (z o c : Int) (w : World) : Calls Trym.prog 33 #[.agg #[.int .i64 z, .int .i64 o, .int .i64 c]] w fun e w' => e = .returned (.string (name (cls z o c))) ∧ w' = w.alloc (.cells #[.int .i64 z, .int .i64 o, .int .i64 c] 79) := by
  by_cases h : wrap64 (z + o) < c
  · have e : cls z o c = 3 := by simp [cls, h]
    rw [e]; exact outcome_3 z o c w h
  by_cases ho : 0 < o
  · by_cases hz : 0 < z
    · have e : cls z o c = 2 := by simp [cls, h, ho, hz]
      rw [e]; exact outcome_2 z o c w h hz ho
    · have e : cls z o c = 1 := by simp [cls, h, ho, hz]
      rw [e]; exact outcome_1 z o c w h hz ho
  · have e : cls z o c = 0 := by simp [cls, h, ho]
    rw [e]; exact outcome_0 z o c w h ho
theorem out0 {z o c : Int} (h : Hid (cls z o c = 0)) (w : World) : Calls Trym.prog 33 #[.agg #[.int .i64 z, .int .i64 o, .int .i64 c]] w fun e w' => e = .returned (.string ⟨#[48]⟩) ∧ w' = w.alloc (.cells #[.int .i64 z, .int .i64 o, .int .i64 c] 79) := by
  have := outcome_any z o c w; rw [h.out] at this; exact this
theorem out1 {z o c : Int} (h : Hid (cls z o c = 1)) (w : World) : Calls Trym.prog 33 #[.agg #[.int .i64 z, .int .i64 o, .int .i64 c]] w fun e w' => e = .returned (.string ⟨#[49]⟩) ∧ w' = w.alloc (.cells #[.int .i64 z, .int .i64 o, .int .i64 c] 79) := by
  have := outcome_any z o c w; rw [h.out] at this; exact this
theorem out2 {z o c : Int} (h : Hid (cls z o c = 2)) (w : World) : Calls Trym.prog 33 #[.agg #[.int .i64 z, .int .i64 o, .int .i64 c]] w fun e w' => e = .returned (.string ⟨#[109, 105, 120, 101, 100]⟩) ∧ w' = w.alloc (.cells #[.int .i64 z, .int .i64 o, .int .i64 c] 79) := by
  have := outcome_any z o c w; rw [h.out] at this; exact this
theorem out3 {z o c : Int} (h : Hid (cls z o c = 3)) (w : World) : Calls Trym.prog 33 #[.agg #[.int .i64 z, .int .i64 o, .int .i64 c]] w fun e w' => e = .returned (.string ⟨#[115, 116, 97, 108, 108, 101, 100]⟩) ∧ w' = w.alloc (.cells #[.int .i64 z, .int .i64 o, .int .i64 c] 79) := by
  have := outcome_any z o c w; rw [h.out] at this; exact this

/-- How many of the first i rounds are of kind k. -/
def cnt (f : Nat → Nat) (k : Nat) : Nat → Nat
  | 0 => 0
  | i + 1 => cnt f k i + (if f i = k then 1 else 0)
theorem cnt_le (f : Nat → Nat) (k i : Nat) : cnt f k i ≤ i := by
  induction i with
  | zero => simp [cnt]
  | succ i ih => simp only [cnt]; split <;> omega
theorem cnt_succ (f : Nat → Nat) (k c : Nat) (h : f k = c) (j : Nat) (_hj : j < 4) : cnt f j (k + 1) = cnt f j k + (if c = j then 1 else 0) := by
  subst h; rfl
theorem cnt_sum (f : Nat → Nat) (h : ∀ i, f i < 4) (i : Nat) : cnt f 0 i + cnt f 1 i + cnt f 2 i + cnt f 3 i = i := by
  induction i with
  | zero => simp [cnt]
  | succ i ih =>
    have := h i
    have h4 : f i = 0 ∨ f i = 1 ∨ f i = 2 ∨ f i = 3 := by omega
    simp only [cnt]
    rcases h4 with e | e | e | e <;> simp [e] <;> omega

/-- n rounds lie in block g. -/
def Rounds (w : World) (g n : Nat) (Z O C : Nat → Int) : Prop := ∀ i, i < n → w.cell? ⟨g, i * 3, none⟩ = some (.int .i64 (Z i)) ∧ w.cell? ⟨g, i * 3 + 1, none⟩ = some (.int .i64 (O i)) ∧ w.cell? ⟨g, i * 3 + 2, none⟩ = some (.int .i64 (C i))
theorem Rounds.kept {w v : World} {row : Option Nat} {g n : Nat} {Z O C : Nat → Int} (h : Rounds w g n Z O C) (k : w.grownBy v row) (hr : some g ≠ row) : Rounds v g n Z O C := fun i hi =>
  ⟨k.cell (h i hi).1 hr, k.cell (h i hi).2.1 hr, k.cell (h i hi).2.2 hr⟩

set_option maxHeartbeats 1000000 in
theorem tally_some (g n cap : Nat) (Z O C : Nat → Int) (m wd : Int) (w : World) (hn : n ≤ 1048576) (hR : Rounds w g n Z O C) :
    Calls Trym.prog 15 #[.agg #[.slice (some ⟨g, 0, none⟩) n cap, .int .i64 m, .int .i64 wd]] w fun e w' =>
      e = .returned (.tuple #[.int .i64 (cnt (fun i => cls (Z i) (O i) (C i)) 0 n), .int .i64 (cnt (fun i => cls (Z i) (O i) (C i)) 1 n), .int .i64 (cnt (fun i => cls (Z i) (O i) (C i)) 2 n), .int .i64 (cnt (fun i => cls (Z i) (O i) (C i)) 3 n)]) ∧ w.grownBy w' none := by
  obtain ⟨f, hf⟩ : ∃ f : Nat → Nat, f = fun i => cls (Z i) (O i) (C i) := ⟨_, rfl⟩
  rw [← hf]
  have HF : Hid (f = fun i => cls (Z i) (O i) (C i)) := hf
  clear hf
  have HR : Hid (Rounds w g n Z O C) := hR
  clear hR
  go_enter Trym.func15, Trym.ntmps15
  go_wp2
  go_loopw [2, 3, 4, 5, 11] (fun a b c d i wr => ∃ k : Nat, k ≤ n ∧ i = .int .i64 k ∧ a = .int .i64 (cnt f 0 k) ∧ b = .int .i64 (cnt f 1 k) ∧ c = .int .i64 (cnt f 2 k) ∧ d = .int .i64 (cnt f 3 k) ∧ w.grownBy wr none) (fun _ _ _ _ i _ => n - (intOf i).toNat)
  case atStart => exact ⟨0, by omega, rfl, rfl, rfl, rfl, rfl, gb_alloc (gb_refl _ _) _⟩
  case round =>
    obtain ⟨k, hk, rfl, rfl, rfl, rfl, rfl, hgr⟩ := hrel
    have HG : Hid (w.grownBy wr none) := hgr
    have hsz : w.heap.size ≤ wr.heap.size := hgr.size
    by_cases hkn : k = n
    · subst hkn
      clear hgr
      go_wp2
      exact bodyPost_ret (v := .tuple #[.int .i64 (cnt f 0 k), .int .i64 (cnt f 1 k), .int .i64 (cnt f 2 k), .int .i64 (cnt f 3 k)]) (by simp [results, Trym.results15, go_sem]) rfl ⟨rfl, HG.out⟩
    have hlt : k < n := by omega
    obtain ⟨c0, c1, c2⟩ := (HR.out.kept hgr (by simp)) k hlt
    clear hgr
    have l0 := cnt_le f 0 k
    have l1 := cnt_le f 1 k
    have l2 := cnt_le f 2 k
    have l3 := cnt_le f 3 k
    have hc4 := cls_lt (Z k) (O k) (C k)
    have h4 : cls (Z k) (O k) (C k) = 0 ∨ cls (Z k) (O k) (C k) = 1 ∨ cls (Z k) (O k) (C k) = 2 ∨ cls (Z k) (O k) (C k) = 3 := by omega
    clear hc4
    rcases h4 with e | e | e | e
    · have E : Hid (cls (Z k) (O k) (C k) = 0) := e
      clear e
      go_wp2_with (go_at_call 33; refine (out0 E _).mono ?_; rintro e w' ⟨rfl, rfl⟩)
      have S := cnt_succ f k 0 (by rw [HF.out]; exact E.out)
      go_roundw
      case rel => exact ⟨k + 1, by omega, by go_num, by rw [S 0 (by omega)]; go_num, by rw [S 1 (by omega)]; go_num, by rw [S 2 (by omega)]; go_num, by rw [S 3 (by omega)]; go_num, gb_alloc (gb_alloc HG.out _) _⟩
      case measure => simp [intOf]; omega
    · have E : Hid (cls (Z k) (O k) (C k) = 1) := e
      clear e
      go_wp2_with (go_at_call 33; refine (out1 E _).mono ?_; rintro e w' ⟨rfl, rfl⟩)
      have S := cnt_succ f k 1 (by rw [HF.out]; exact E.out)
      go_roundw
      case rel => exact ⟨k + 1, by omega, by go_num, by rw [S 0 (by omega)]; go_num, by rw [S 1 (by omega)]; go_num, by rw [S 2 (by omega)]; go_num, by rw [S 3 (by omega)]; go_num, gb_alloc (gb_alloc HG.out _) _⟩
      case measure => simp [intOf]; omega
    · have E : Hid (cls (Z k) (O k) (C k) = 2) := e
      clear e
      go_wp2_with (go_at_call 33; refine (out2 E _).mono ?_; rintro e w' ⟨rfl, rfl⟩)
      have S := cnt_succ f k 2 (by rw [HF.out]; exact E.out)
      go_roundw
      case rel => exact ⟨k + 1, by omega, by go_num, by rw [S 0 (by omega)]; go_num, by rw [S 1 (by omega)]; go_num, by rw [S 2 (by omega)]; go_num, by rw [S 3 (by omega)]; go_num, gb_alloc (gb_alloc HG.out _) _⟩
      case measure => simp [intOf]; omega
    · have E : Hid (cls (Z k) (O k) (C k) = 3) := e
      clear e
      go_wp2_with (go_at_call 33; refine (out3 E _).mono ?_; rintro e w' ⟨rfl, rfl⟩)
      have S := cnt_succ f k 3 (by rw [HF.out]; exact E.out)
      go_roundw
      case rel => exact ⟨k + 1, by omega, by go_num, by rw [S 0 (by omega)]; go_num, by rw [S 1 (by omega)]; go_num, by rw [S 2 (by omega)]; go_num, by rw [S 3 (by omega)]; go_num, gb_alloc (gb_alloc HG.out _) _⟩
      case measure => simp [intOf]; omega

theorem tally_nil (m wd : Int) (w : World) :
    Calls Trym.prog 15 #[.agg #[.slice none 0 0, .int .i64 m, .int .i64 wd]] w fun e w' => e = .returned (.tuple #[.int .i64 0, .int .i64 0, .int .i64 0, .int .i64 0]) ∧ w.grownBy w' none := by
  go_enter Trym.func15, Trym.ntmps15
  go_wp2
  go_loop [2, 3, 4, 5, 11] (fun a b c d i => a = .int .i64 0 ∧ b = .int .i64 0 ∧ c = .int .i64 0 ∧ d = .int .i64 0 ∧ i = .int .i64 0) (fun _ _ _ _ _ => 0)
  case atStart => exact ⟨rfl, rfl, rfl, rfl, rfl⟩
  case round =>
    obtain ⟨rfl, rfl, rfl, rfl, rfl⟩ := hrel
    go_wp2
    exact bodyPost_ret (v := .tuple #[.int .i64 0, .int .i64 0, .int .i64 0, .int .i64 0]) (by simp [results, Trym.results15, go_sem]) rfl ⟨rfl, gb_alloc (gb_refl _ _) _⟩
theorem tally_empty (a : Addr) (cap : Nat) (m wd : Int) (w : World) :
    Calls Trym.prog 15 #[.agg #[.slice (some a) 0 cap, .int .i64 m, .int .i64 wd]] w fun e w' => e = .returned (.tuple #[.int .i64 0, .int .i64 0, .int .i64 0, .int .i64 0]) ∧ w.grownBy w' none := by
  go_enter Trym.func15, Trym.ntmps15
  go_wp2
  go_loop [2, 3, 4, 5, 11] (fun a b c d i => a = .int .i64 0 ∧ b = .int .i64 0 ∧ c = .int .i64 0 ∧ d = .int .i64 0 ∧ i = .int .i64 0) (fun _ _ _ _ _ => 0)
  case atStart => exact ⟨rfl, rfl, rfl, rfl, rfl⟩
  case round =>
    obtain ⟨rfl, rfl, rfl, rfl, rfl⟩ := hrel
    go_wp2
    exact bodyPost_ret (v := .tuple #[.int .i64 0, .int .i64 0, .int .i64 0, .int .i64 0]) (by simp [results, Trym.results15, go_sem]) rfl ⟨rfl, gb_alloc (gb_refl _ _) _⟩
end Go.Proofs.Qxb6602655aMods
