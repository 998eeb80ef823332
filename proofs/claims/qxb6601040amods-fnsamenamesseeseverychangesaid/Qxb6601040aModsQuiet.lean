/-
  sameNames (29), ZZsameNames (14), sameText (16): they only read (they draw).
-/
import Derived.Test.Qxb6601040aModsBytes
namespace Go.Proofs.Qxb6601040aMods
open Go.RowKit
set_option linter.unusedSimpArgs false

/-- It drew, and did no more. -/
def Drew (w w' : World) : Prop := ∃ m, w' = w.drewN m
theorem Drew.refl (w : World) : Drew w w := ⟨0, rfl⟩
theorem Drew.more {w v : World} (h : Drew w v) (n : Nat) : Drew w (v.drewN n) := by
  obtain ⟨m, rfl⟩ := h
  exact ⟨m + n, by rw [World.drewN_drewN]⟩
theorem Drew.gb {w v : World} (h : Drew w v) : w.grownBy v none := by
  obtain ⟨m, rfl⟩ := h
  exact gb_drewN (gb_refl _ _) _

set_option maxHeartbeats 400000 in
theorem q_yes (a b : Option Addr) (n c d : Nat) (S T : Nat → ByteArray) (w : World) (hn : n ≤ 9223372036854775807) (hS : Strs w a n S) (hT : Strs w b n T) (heq : ∀ i, i < n → S i = T i) :
    Calls Trym.prog 29 #[.slice a n c, .slice b n d] w fun e w' => e = .returned (.bool true) ∧ Drew w w' := by
  have HS : Hid (Strs w a n S) := hS
  have HT : Hid (Strs w b n T) := hT
  have HE : Hid (∀ i, i < n → S i = T i) := heq
  clear hS hT heq
  go_enter Trym.func29, Trym.ntmps29
  go_wp2
  go_loopw [13] (fun i wr => ∃ k : Nat, k ≤ n ∧ i = .int .i64 k ∧ Drew w wr) (fun i _ => n - (intOf i).toNat)
  case atStart => exact ⟨0, by omega, rfl, .refl _⟩
  case round =>
    obtain ⟨k, hk, rfl, hg⟩ := hrel
    have HG : Hid (Drew w wr) := hg
    clear hg
    by_cases hkn : k < n
    · obtain ⟨b1, o1, e1, c1⟩ := HS.out.kept0 HG.out.gb k hkn
      obtain ⟨b2, o2, e2, c2⟩ := HT.out.kept0 HG.out.gb k hkn
      subst e1
      subst e2
      rw [← HE.out k hkn] at c2
      generalize S k = s at c1 c2
      have i1 : (0 : Int) ≤ (k : Int) := by omega
      have i2 : (k : Int) < (n : Int) := by omega
      go_wp2
      go_quiet (fail)
      go_wp2
      go_roundw
      case rel => exact ⟨k + 1, by omega, by go_num, HG.out.more _⟩
      case measure => simp [intOf]; omega
    · go_wp2
      go_ret
      exact ⟨rfl, HG.out⟩

theorem q_len (a b : Option Addr) (n m c d : Nat) (w : World) (_hn : n ≤ 9223372036854775807) (_hm : m ≤ 9223372036854775807) (hnm : n ≠ m) :
    Calls Trym.prog 29 #[.slice a n c, .slice b m d] w fun e w' => e = .returned (.bool false) ∧ Drew w w' := by
  go_enter Trym.func29, Trym.ntmps29
  go_wp2
  go_ret
  exact ⟨rfl, .refl _⟩

set_option maxHeartbeats 400000 in
theorem q_no (a b : Option Addr) (n c d j : Nat) (S T : Nat → ByteArray) (w : World) (hn : n ≤ 9223372036854775807) (hS : Strs w a n S) (hT : Strs w b n T) (hj : j < n) (hd : S j ≠ T j) (heq : ∀ i, i < j → S i = T i) :
    Calls Trym.prog 29 #[.slice a n c, .slice b n d] w fun e w' => e = .returned (.bool false) ∧ Drew w w' := by
  have HS : Hid (Strs w a n S) := hS
  have HT : Hid (Strs w b n T) := hT
  have HE : Hid (∀ i, i < j → S i = T i) := heq
  have HD : Hid (S j ≠ T j) := hd
  clear hS hT heq hd
  go_enter Trym.func29, Trym.ntmps29
  go_wp2
  go_loopw [13] (fun i wr => ∃ k : Nat, k ≤ j ∧ i = .int .i64 k ∧ Drew w wr) (fun i _ => n - (intOf i).toNat)
  case atStart => exact ⟨0, by omega, rfl, .refl _⟩
  case round =>
    obtain ⟨k, hk, rfl, hg⟩ := hrel
    have HG : Hid (Drew w wr) := hg
    clear hg
    obtain ⟨b1, o1, e1, c1⟩ := HS.out.kept0 HG.out.gb k (by omega)
    obtain ⟨b2, o2, e2, c2⟩ := HT.out.kept0 HG.out.gb k (by omega)
    subst e1
    subst e2
    have i1 : (0 : Int) ≤ (k : Int) := by omega
    have i2 : (k : Int) < (n : Int) := by omega
    by_cases hkj : k = j
    · subst hkj
      have hd := bytes_ne HD.out
      generalize S k = s at c1 hd
      generalize T k = t at c2 hd
      go_wp2
      go_quiet (fail)
      go_wp2
      go_ret
      exact ⟨rfl, HG.out.more _⟩
    · rw [← HE.out k (by omega)] at c2
      generalize S k = s at c1 c2
      go_wp2
      go_quiet (fail)
      go_wp2
      go_roundw
      case rel => exact ⟨k + 1, by omega, by go_num, HG.out.more _⟩
      case measure => simp [intOf]; omega

theorem q29 (a b : Option Addr) (n m c d : Nat) (S T : Nat → ByteArray) (w : World) (hn : n ≤ 9223372036854775807) (hm : m ≤ 9223372036854775807) (hS : Strs w a n S) (hT : Strs w b m T) :
    Calls Trym.prog 29 #[.slice a n c, .slice b m d] w fun e w' => e = .returned (.bool (eqB S n T m)) ∧ Drew w w' := by
  by_cases hnm : n = m
  · subst hnm
    by_cases h : ∀ i, i < n → S i = T i
    · rw [show eqB S n T n = true from eqB_iff.mpr ⟨rfl, h⟩]
      exact q_yes a b n c d S T w hn hS hT h
    · rw [show eqB S n T n = false from eqB_no.mpr (fun x => h x.2)]
      obtain ⟨j, h1, h2, h3⟩ := first_diff h
      exact q_no a b n c d j S T w hn hS hT h1 h2 h3
  · rw [show eqB S n T m = false from eqB_no.mpr (fun x => hnm x.1)]
    exact q_len a b n m c d w hn hm hnm

theorem q14 (a b : Option Addr) (n m c d : Nat) (S T : Nat → ByteArray) (w : World) (hn : n ≤ 9223372036854775807) (hm : m ≤ 9223372036854775807) (hS : Strs w a n S) (hT : Strs w b m T) :
    Calls Trym.prog 14 #[.slice a n c, .slice b m d] w fun e w' => e = .returned (.bool (eqB S n T m)) ∧ Drew w w' := by
  have H : Hid (Calls Trym.prog 29 #[.slice a n c, .slice b m d] w fun e w' => e = .returned (.bool (eqB S n T m)) ∧ Drew w w') := q29 a b n m c d S T w hn hm hS hT
  clear hS hT
  go_enter Trym.func14, Trym.ntmps14
  go_wp2_with fail
  refine H.out.mono ?_
  rintro e w1 ⟨rfl, hg⟩
  have HG : Hid (Drew w w1) := hg
  clear hg
  go_wp2
  go_ret
  exact ⟨rfl, HG.out⟩

set_option maxHeartbeats 400000 in
theorem q16 (s t : ByteArray) (w : World) (hs : s.size ≤ 9223372036854775807) (ht : t.size ≤ 9223372036854775807) :
    Calls Trym.prog 16 #[.string s, .string t] w fun e w' => e = .returned (.bool (decide (s = t))) ∧ Drew w w' := by
  by_cases hst : s.size = t.size
  · go_enter Trym.func16, Trym.ntmps16
    go_wp2
    go_loopw [5] (fun i wr => ∃ k : Nat, k ≤ s.size ∧ i = .int .i64 k ∧ (∀ i (h1 : i < s.size) (h2 : i < t.size), i < k → s[i] = t[i]) ∧ Drew w wr) (fun i _ => s.size - (intOf i).toNat)
    case atStart => exact ⟨0, by omega, rfl, fun i _ _ h => absurd h (by omega), .refl _⟩
    case round =>
      obtain ⟨k, hk, rfl, hq, hg⟩ := hrel
      have HG : Hid (Drew w wr) := hg
      have HQ : Hid (∀ i (h1 : i < s.size) (h2 : i < t.size), i < k → s[i] = t[i]) := hq
      clear hg hq
      by_cases hkn : k < s.size
      · have i1 : (0 : Int) ≤ (k : Int) := by omega
        have i2 : (k : Int) < (s.size : Int) := by omega
        have i3 : (k : Int) < (t.size : Int) := by omega
        have hkt : k < t.size := by omega
        by_cases hb : s[k] = t[k]
        · have hb2 : ((s[k].toNat : Int) != (t[k].toNat : Int)) = false := by rw [hb]; simp
          have HQ1 : Hid (∀ i (h1 : i < s.size) (h2 : i < t.size), i < k + 1 → s[i] = t[i]) := fun i h1 h2 h => by
            by_cases e : i = k
            · subst e; exact hb
            · exact HQ.out i h1 h2 (by omega)
          clear hb
          go_wp2
          go_quiet (fail)
          go_wp2
          go_roundw
          case rel => exact ⟨k + 1, by omega, by go_num, HQ1.out, HG.out.more _⟩
          case measure => simp [intOf]; omega
        · have hb2 : ((s[k].toNat : Int) != (t[k].toNat : Int)) = true := by
            rw [bne_iff_ne]
            intro h
            exact hb (UInt8.toNat_inj.mp (by exact_mod_cast h))
          have hno : s ≠ t := fun e => hb (by subst e; rfl)
          have hd : decide (s = t) = false := decide_eq_false hno
          clear hb hno
          go_wp2
          go_quiet (fail)
          go_wp2
          go_ret
          exact ⟨by rw [hd]; rfl, HG.out.more _⟩
      · go_wp2
        go_ret
        exact ⟨by rw [decide_eq_true (bytes_ext hst (fun i h1 h2 => HQ.out i h1 h2 (by omega)))]; rfl, HG.out⟩
  · go_enter Trym.func16, Trym.ntmps16
    go_wp2
    go_ret
    exact ⟨by rw [decide_eq_false (fun e => hst (by rw [e]))]; rfl, .refl _⟩
end Go.Proofs.Qxb6601040aMods
