/-
  zzBytes of the two laws (11, 15): they return a bool, and write nothing. sameText (16).
-/
import Derived.Test.Qxb6601040aModsClone
namespace Go.Proofs.Qxb6601040aMods
open Go.RowKit
set_option linter.unusedSimpArgs false

set_option maxHeartbeats 1000000 in
theorem bytes11 (a0 a1 a2 : Option Addr) (n0 n1 n2 c0 c1 c2 : Nat) (S0 S1 S2 : Nat → ByteArray) (w : World) (h0 : n0 ≤ 9223372036854775807) (h1 : n1 ≤ 9223372036854775807) (h2 : n2 ≤ 9223372036854775807) (hS0 : Strs w a0 n0 S0) (hS1 : Strs w a1 n1 S1) (hS2 : Strs w a2 n2 S2) :
    Calls Trym.prog 11 #[.slice a0 n0 c0, .slice a1 n1 c1, .slice a2 n2 c2] w fun e w' => ABool e ∧ w.grownBy w' none := by
  have HS0 : Hid (Strs w a0 n0 S0) := hS0
  have HS1 : Hid (Strs w a1 n1 S1) := hS1
  have HS2 : Hid (Strs w a2 n2 S2) := hS2
  clear hS0 hS1 hS2
  go_enter Trym.func11, Trym.ntmps11
  by_cases g1 : n0 ≤ 1048576
  · go_wp2
    go_loop [7, 8] (fun v i => ∃ (k : Nat) (s : Int), k ≤ n0 ∧ i = .int .i64 k ∧ v = .int .i64 s ∧ 0 ≤ s ∧ s ≤ 1048576) (fun _ i => n0 - (intOf i).toNat)
    case atStart => exact ⟨0, _, by omega, rfl, rfl, by omega, by omega⟩
    case round =>
      obtain ⟨k0, s0, hk0, rfl, rfl, s01, s02⟩ := hrel
      by_cases hk0n : k0 < n0
      · obtain ⟨b1, o1, e1, ce⟩ := HS0.out k0 hk0n
        subst e1
        generalize S0 k0 = t at ce
        have i1 : (0 : Int) ≤ (k0 : Int) := by omega
        have i2 : (k0 : Int) < (n0 : Int) := by omega
        by_cases hb : t.size ≤ 1048576
        · by_cases hb2 : s0 + t.size ≤ 1048576
          · go_wp2
            go_round
            case rel => exact ⟨k0 + 1, s0 + t.size, by omega, by go_num, rfl, by omega, by omega⟩
            case measure => simp [intOf]; omega
          · go_wp2
            go_ret
            exact ⟨⟨_, rfl⟩, gb_refl _ _⟩
        · go_wp2
          go_ret
          exact ⟨⟨_, rfl⟩, gb_refl _ _⟩
      · by_cases g1 : n1 ≤ 1048576
        · by_cases g2 : s0 + n1 ≤ 1048576
          · go_wp2
            go_loop [7, 9] (fun v i => ∃ (k : Nat) (s : Int), k ≤ n1 ∧ i = .int .i64 k ∧ v = .int .i64 s ∧ 0 ≤ s ∧ s ≤ 1048576) (fun _ i => n1 - (intOf i).toNat)
            case atStart => exact ⟨0, _, by omega, rfl, rfl, by omega, by omega⟩
            case round =>
              obtain ⟨k1, s1, hk1, rfl, rfl, s11, s12⟩ := hrel
              by_cases hk1n : k1 < n1
              · obtain ⟨b1, o1, e1, ce⟩ := HS1.out k1 hk1n
                subst e1
                generalize S1 k1 = t at ce
                have i1 : (0 : Int) ≤ (k1 : Int) := by omega
                have i2 : (k1 : Int) < (n1 : Int) := by omega
                by_cases hb : t.size ≤ 1048576
                · by_cases hb2 : s1 + t.size ≤ 1048576
                  · go_wp2
                    go_round
                    case rel => exact ⟨k1 + 1, s1 + t.size, by omega, by go_num, rfl, by omega, by omega⟩
                    case measure => simp [intOf]; omega
                  · go_wp2
                    go_ret
                    exact ⟨⟨_, rfl⟩, gb_refl _ _⟩
                · go_wp2
                  go_ret
                  exact ⟨⟨_, rfl⟩, gb_refl _ _⟩
              · by_cases g1 : n2 ≤ 1048576
                · by_cases g2 : s1 + n2 ≤ 1048576
                  · go_wp2
                    go_loop [7, 10] (fun v i => ∃ (k : Nat) (s : Int), k ≤ n2 ∧ i = .int .i64 k ∧ v = .int .i64 s ∧ 0 ≤ s ∧ s ≤ 1048576) (fun _ i => n2 - (intOf i).toNat)
                    case atStart => exact ⟨0, _, by omega, rfl, rfl, by omega, by omega⟩
                    case round =>
                      obtain ⟨k2, s2, hk2, rfl, rfl, s21, s22⟩ := hrel
                      by_cases hk2n : k2 < n2
                      · obtain ⟨b1, o1, e1, ce⟩ := HS2.out k2 hk2n
                        subst e1
                        generalize S2 k2 = t at ce
                        have i1 : (0 : Int) ≤ (k2 : Int) := by omega
                        have i2 : (k2 : Int) < (n2 : Int) := by omega
                        by_cases hb : t.size ≤ 1048576
                        · by_cases hb2 : s2 + t.size ≤ 1048576
                          · go_wp2
                            go_round
                            case rel => exact ⟨k2 + 1, s2 + t.size, by omega, by go_num, rfl, by omega, by omega⟩
                            case measure => simp [intOf]; omega
                          · go_wp2
                            go_ret
                            exact ⟨⟨_, rfl⟩, gb_refl _ _⟩
                        · go_wp2
                          go_ret
                          exact ⟨⟨_, rfl⟩, gb_refl _ _⟩
                      · go_wp2
                        go_ret
                        exact ⟨⟨_, rfl⟩, gb_refl _ _⟩
                  · go_wp2
                    go_ret
                    exact ⟨⟨_, rfl⟩, gb_refl _ _⟩
                · go_wp2
                  go_ret
                  exact ⟨⟨_, rfl⟩, gb_refl _ _⟩
          · go_wp2
            go_ret
            exact ⟨⟨_, rfl⟩, gb_refl _ _⟩
        · go_wp2
          go_ret
          exact ⟨⟨_, rfl⟩, gb_refl _ _⟩
  · go_wp2
    go_ret
    exact ⟨⟨_, rfl⟩, gb_refl _ _⟩

set_option maxHeartbeats 1000000 in
theorem bytes15 (a0 : Option Addr) (n0 c0 : Nat) (z : Int) (t : ByteArray) (S0 : Nat → ByteArray) (w : World) (h0 : n0 ≤ 9223372036854775807) (ht : t.size ≤ 9223372036854775807) (hS0 : Strs w a0 n0 S0) :
    Calls Trym.prog 15 #[.slice a0 n0 c0, .int .i64 z, .string t] w fun e w' => ABool e ∧ w.grownBy w' none := by
  have HS0 : Hid (Strs w a0 n0 S0) := hS0
  clear hS0
  go_enter Trym.func15, Trym.ntmps15
  by_cases g1 : n0 ≤ 1048576
  · go_wp2
    go_loop [7, 8] (fun v i => ∃ (k : Nat) (s : Int), k ≤ n0 ∧ i = .int .i64 k ∧ v = .int .i64 s ∧ 0 ≤ s ∧ s ≤ 1048576) (fun _ i => n0 - (intOf i).toNat)
    case atStart => exact ⟨0, _, by omega, rfl, rfl, by omega, by omega⟩
    case round =>
      obtain ⟨k0, s0, hk0, rfl, rfl, s01, s02⟩ := hrel
      by_cases hk0n : k0 < n0
      · obtain ⟨b1, o1, e1, ce⟩ := HS0.out k0 hk0n
        subst e1
        generalize S0 k0 = u at ce
        have i1 : (0 : Int) ≤ (k0 : Int) := by omega
        have i2 : (k0 : Int) < (n0 : Int) := by omega
        by_cases hb : u.size ≤ 1048576
        · by_cases hb2 : s0 + u.size ≤ 1048576
          · go_wp2
            go_round
            case rel => exact ⟨k0 + 1, s0 + u.size, by omega, by go_num, rfl, by omega, by omega⟩
            case measure => simp [intOf]; omega
          · go_wp2
            go_ret
            exact ⟨⟨_, rfl⟩, gb_refl _ _⟩
        · go_wp2
          go_ret
          exact ⟨⟨_, rfl⟩, gb_refl _ _⟩
      · by_cases g1 : t.size ≤ 1048576
        · by_cases g2 : s0 + t.size ≤ 1048576
          · go_wp2
            go_ret
            exact ⟨⟨_, rfl⟩, gb_refl _ _⟩
          · go_wp2
            go_ret
            exact ⟨⟨_, rfl⟩, gb_refl _ _⟩
        · go_wp2
          go_ret
          exact ⟨⟨_, rfl⟩, gb_refl _ _⟩
  · go_wp2
    go_ret
    exact ⟨⟨_, rfl⟩, gb_refl _ _⟩

theorem bytes_ext {s t : ByteArray} (h : s.size = t.size) (e : ∀ i (h1 : i < s.size) (h2 : i < t.size), s[i] = t[i]) : s = t := by
  cases s with | mk a =>
  cases t with | mk b =>
  congr
  exact Array.ext h (fun i h1 h2 => e i h1 h2)

set_option maxHeartbeats 400000 in
theorem text16 (s t : ByteArray) (w : World) (hs : s.size ≤ 9223372036854775807) (ht : t.size ≤ 9223372036854775807) :
    Calls Trym.prog 16 #[.string s, .string t] w fun e w' => e = .returned (.bool (decide (s = t))) ∧ w.grownBy w' none := by
  by_cases hst : s.size = t.size
  · go_enter Trym.func16, Trym.ntmps16
    go_wp2
    go_loopw [5] (fun i wr => ∃ k : Nat, k ≤ s.size ∧ i = .int .i64 k ∧ (∀ i (h1 : i < s.size) (h2 : i < t.size), i < k → s[i] = t[i]) ∧ w.grownBy wr none) (fun i _ => s.size - (intOf i).toNat)
    case atStart => exact ⟨0, by omega, rfl, fun i _ _ h => absurd h (by omega), gb_refl _ _⟩
    case round =>
      obtain ⟨k, hk, rfl, hq, hg⟩ := hrel
      have HG : Hid (w.grownBy wr none) := hg
      have HQ : Hid (∀ i (h1 : i < s.size) (h2 : i < t.size), i < k → s[i] = t[i]) := hq
      clear hg hq
      by_cases hkn : k < s.size
      · have i1 : (0 : Int) ≤ (k : Int) := by omega
        have i2 : (k : Int) < (s.size : Int) := by omega
        have i3 : (k : Int) < (t.size : Int) := by omega
        have hkt : k < t.size := by omega
        by_cases hb : s[k] = t[k]
        · have hb2 : ((s[k].toNat : Int) != (t[k].toNat : Int)) = false := by rw [hb]; simp
          have HQ1 : Hid (∀ i (h1 : i < s.size) (h2 : i < t.size), i < k + 1 → s[i] = t[i]) := fun i h1 h2 h => by
            by_cases e : i = k
            · subst e; exact hb
            · exact HQ.out i h1 h2 (by omega)
          clear hb
          go_wp2
          go_quiet (fail)
          go_wp2
          go_roundw
          case rel => exact ⟨k + 1, by omega, by go_num, HQ1.out, gb_drewN HG.out _⟩
          case measure => simp [intOf]; omega
        · have hb2 : ((s[k].toNat : Int) != (t[k].toNat : Int)) = true := by
            rw [bne_iff_ne]
            intro h
            exact hb (UInt8.toNat_inj.mp (by exact_mod_cast h))
          have hno : s ≠ t := fun e => hb (by subst e; rfl)
          have hd : decide (s = t) = false := decide_eq_false hno
          clear hb hno
          go_wp2
          go_quiet (fail)
          go_wp2
          go_ret
          exact ⟨by rw [hd]; rfl, gb_drewN HG.out _⟩
      · go_wp2
        go_ret
        exact ⟨by rw [decide_eq_true (bytes_ext hst (fun i h1 h2 => HQ.out i h1 h2 (by omega)))]; rfl, HG.out⟩
  · go_enter Trym.func16, Trym.ntmps16
    go_wp2
    go_ret
    exact ⟨by rw [decide_eq_false (fun e => hst (by rw [e]))]; rfl, gb_refl _ _⟩
end Go.Proofs.Qxb6601040aMods
