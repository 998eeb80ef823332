/-
  FnSplittingPushOneStep (6): the ways on which the law answers true by its own guards.
-/
import Derived.Test.Qxb6602655aModsFill
namespace Go.Proofs.Qxb6602655aMods
open Go.RowKit
set_option linter.unusedSimpArgs false

/-- The waiting copies of the first k processes. -/
def tl (wl : Nat → List E) : Nat → Nat
  | 0 => 0
  | k + 1 => tl wl k + (wl k).length
theorem tl_mono (wl : Nat → List E) {j k : Nat} (h : j ≤ k) : tl wl j ≤ tl wl k := by
  induction k with
  | zero => have : j = 0 := by omega
            subst this; exact Nat.le_refl _
  | succ k ih =>
    by_cases e : j = k + 1
    · subst e; exact Nat.le_refl _
    · have := ih (by omega); simp only [tl]; omega

set_option maxRecDepth 100000 in
set_option maxHeartbeats 1000000 in
theorem one_big (a0 a1 a2 : Option Addr) (n0 n1 N c0 c1 c2 bw ow : Nat) (aw : Nat → Option Addr) (cw bE oE : Nat → Nat) (wl : Nat → List E) (r ef et em ed es : Int) (w : World) (h0 : n0 ≤ 9223372036854775807) (h1 : n1 ≤ 9223372036854775807) (h2 : N ≤ 9223372036854775807) (hL : Lists w bw ow N aw cw bE oE wl) (had : 0 < N → a2 = some ⟨bw, ow, none⟩) (hbig : ¬ (n0 ≤ 1048576 ∧ n1 ≤ 1048576 ∧ N ≤ 1048576 ∧ 40 * n0 + 8 * n1 + 24 * N ≤ 1048576)) :
    Calls Trym.prog 6 #[.slice a0 n0 c0, .slice a1 n1 c1, .slice a2 N c2, .int .i64 r, .agg #[.int .i64 ef, .int .i64 et, .int .i64 em, .int .i64 ed, .int .i8 es]] w fun e w' => e = .returned (.bool true) ∧ Below w.heap.size w w' := by
  have HL : Hid (Lists w bw ow N aw cw bE oE wl) := hL
  have HA : Hid (0 < N → a2 = some ⟨bw, ow, none⟩) := had
  clear hL had
  go_enter Trym.func6, Trym.ntmps6
  go_wp2_with fail
  refine (bytes18 a0 a1 a2 n0 n1 N c0 c1 c2 bw ow aw cw bE oE wl r ef et em ed es _ h0 h1 h2 (HL.out.kept (gb_alloc (gb_refl _ _) _)) HA.out).mono ?_
  rintro e w1 ⟨⟨bb, rfl⟩, hg⟩
  have HG : Hid ((w.alloc (.cells #[.int .i64 ef, .int .i64 et, .int .i64 em, .int .i64 ed, .int .i8 es] 56)).grownBy w1 none) := hg
  have HB : Hid (Below w.heap.size w w1) := ((Below.refl _ _).alloc (Nat.le_refl _) _).grown hg (by simp) (by simp)
  clear hg
  cases bb with
  | false =>
    go_wp2
    go_ret
    exact ⟨rfl, HB.out⟩
  | true =>
    by_cases g0 : n0 ≤ 1048576
    · by_cases g1 : n1 ≤ 1048576
      · by_cases g2 : N ≤ 1048576
        · have g3 : 1048576 < 40 * n0 + 8 * n1 + 24 * N := by omega
          clear hbig
          go_wp2
          go_ret
          exact ⟨rfl, HB.out⟩
        · clear hbig
          go_wp2
          go_ret
          exact ⟨rfl, HB.out⟩
      · clear hbig
        go_wp2
        go_ret
        exact ⟨rfl, HB.out⟩
    · clear hbig
      go_wp2
      go_ret
      exact ⟨rfl, HB.out⟩

set_option maxRecDepth 100000 in
set_option maxHeartbeats 1000000 in
theorem one_heavy (a0 a1 a2 : Option Addr) (n0 n1 N c0 c1 c2 bw ow : Nat) (aw : Nat → Option Addr) (cw bE oE : Nat → Nat) (wl : Nat → List E) (r ef et em ed es : Int) (w : World) (h0 : n0 ≤ 9223372036854775807) (h1 : n1 ≤ 9223372036854775807) (h2 : N ≤ 9223372036854775807) (hL : Lists w bw ow N aw cw bE oE wl) (had : 0 < N → a2 = some ⟨bw, ow, none⟩) (hok : n0 ≤ 1048576 ∧ n1 ≤ 1048576 ∧ N ≤ 1048576 ∧ 40 * n0 + 8 * n1 + 24 * N ≤ 1048576) (hbad : 1048576 < 40 * n0 + 8 * n1 + 24 * N + 40 * tl wl N) :
    Calls Trym.prog 6 #[.slice a0 n0 c0, .slice a1 n1 c1, .slice a2 N c2, .int .i64 r, .agg #[.int .i64 ef, .int .i64 et, .int .i64 em, .int .i64 ed, .int .i8 es]] w fun e w' => e = .returned (.bool true) ∧ Below w.heap.size w w' := by
  have HL : Hid (Lists w bw ow N aw cw bE oE wl) := hL
  have HA : Hid (0 < N → a2 = some ⟨bw, ow, none⟩) := had
  clear hL had
  obtain ⟨k0, k1, k2, k3⟩ := hok
  go_enter Trym.func6, Trym.ntmps6
  go_wp2_with fail
  refine (bytes18 a0 a1 a2 n0 n1 N c0 c1 c2 bw ow aw cw bE oE wl r ef et em ed es _ h0 h1 h2 (HL.out.kept (gb_alloc (gb_refl _ _) _)) HA.out).mono ?_
  rintro e w1 ⟨⟨bb, rfl⟩, hg⟩
  have HG : Hid ((w.alloc (.cells #[.int .i64 ef, .int .i64 et, .int .i64 em, .int .i64 ed, .int .i8 es] 56)).grownBy w1 none) := hg
  have HB : Hid (Below w.heap.size w w1) := ((Below.refl _ _).alloc (Nat.le_refl _) _).grown hg (by simp) (by simp)
  clear hg
  cases bb with
  | false =>
    go_wp2
    go_ret
    exact ⟨rfl, HB.out⟩
  | true =>
    go_wp2
    go_loop [11, 12] (fun v i => ∃ k T : Nat, k ≤ N ∧ i = .int .i64 k ∧ v = .int .i64 T ∧ T = 40 * n0 + 8 * n1 + 24 * N + 40 * tl wl k ∧ T ≤ 1048576) (fun _ i => N - (intOf i).toNat)
    case atStart => exact ⟨0, 40 * n0 + 8 * n1 + 24 * N, by omega, rfl, by go_num, by simp [tl], by omega⟩
    case round =>
      obtain ⟨k, T, hk, rfl, rfl, hT, hle⟩ := hrel
      have HTk : Hid (T = 40 * n0 + 8 * n1 + 24 * N + 40 * tl wl k) := hT
      clear hT
      by_cases hkN : k < N
      · have hak := HA.out (by omega)
        subst hak
        have n1' := HG.out.cell ((gb_alloc (gb_refl w none) (.cells #[.int .i64 ef, .int .i64 et, .int .i64 em, .int .i64 ed, .int .i8 es] 56)).cell (HL.out.cell k hkN) (by simp)) (by simp)
        have n2' := HL.out.short k hkN
        have HT : Hid (tl wl (k + 1) = tl wl k + (wl k).length) := (rfl : _ = _)
        generalize (wl k).length = L at n1' n2' HT
        by_cases hb : L ≤ 1048576
        · by_cases hb2 : T + 40 * L ≤ 1048576
          · go_wp2
            go_round
            case rel => exact ⟨k + 1, T + 40 * L, by omega, by go_num, by go_num, by rw [HT.out, HTk.out]; omega, hb2⟩
            case measure => simp [intOf]; omega
          · go_wp2
            go_ret
            exact ⟨rfl, HB.out⟩
        · go_wp2
          go_ret
          exact ⟨rfl, HB.out⟩
      · have : k = N := by omega
        subst this
        have := HTk.out
        omega

set_option maxRecDepth 100000 in
set_option maxHeartbeats 1000000 in
theorem one_bad (a0 a1 a2 : Option Addr) (n0 n1 N c0 c1 c2 bw ow : Nat) (aw : Nat → Option Addr) (cw bE oE : Nat → Nat) (wl : Nat → List E) (r ef et em ed es : Int) (w : World) (h0 : n0 ≤ 9223372036854775807) (h1 : n1 ≤ 9223372036854775807) (h2 : N ≤ 9223372036854775807) (hL : Lists w bw ow N aw cw bE oE wl) (had : 0 < N → a2 = some ⟨bw, ow, none⟩) (hok : n0 ≤ 1048576 ∧ n1 ≤ 1048576 ∧ N ≤ 1048576 ∧ 40 * n0 + 8 * n1 + 24 * N ≤ 1048576) (hfit : 40 * n0 + 8 * n1 + 24 * N + 40 * tl wl N ≤ 1048576) (b1 o1 : Nat) (cf : Nat → Int) (hI : Ints w b1 o1 n1 cf) (ha1 : 0 < n1 → a1 = some ⟨b1, o1, none⟩) (hbad : ¬ (0 ≤ et ∧ et < n1 ∧ et < N ∧ 0 ≤ cf et.toNat)) :
    Calls Trym.prog 6 #[.slice a0 n0 c0, .slice a1 n1 c1, .slice a2 N c2, .int .i64 r, .agg #[.int .i64 ef, .int .i64 et, .int .i64 em, .int .i64 ed, .int .i8 es]] w fun e w' => e = .returned (.bool true) ∧ Below w.heap.size w w' := by
  have HL : Hid (Lists w bw ow N aw cw bE oE wl) := hL
  have HA : Hid (0 < N → a2 = some ⟨bw, ow, none⟩) := had
  have HFT : Hid (40 * n0 + 8 * n1 + 24 * N + 40 * tl wl N ≤ 1048576) := hfit
  have HI : Hid (Ints w b1 o1 n1 cf) := hI
  have HA1 : Hid (0 < n1 → a1 = some ⟨b1, o1, none⟩) := ha1
  have HBAD : Hid (¬ (0 ≤ et ∧ et < n1 ∧ et < N ∧ 0 ≤ cf et.toNat)) := hbad
  clear hL had hfit hI ha1 hbad
  obtain ⟨k0, k1, k2, k3⟩ := hok
  go_enter Trym.func6, Trym.ntmps6
  go_wp2_with fail
  refine (bytes18 a0 a1 a2 n0 n1 N c0 c1 c2 bw ow aw cw bE oE wl r ef et em ed es _ h0 h1 h2 (HL.out.kept (gb_alloc (gb_refl _ _) _)) HA.out).mono ?_
  rintro e w1 ⟨⟨bb, rfl⟩, hg⟩
  have HG : Hid ((w.alloc (.cells #[.int .i64 ef, .int .i64 et, .int .i64 em, .int .i64 ed, .int .i8 es] 56)).grownBy w1 none) := hg
  have HB : Hid (Below w.heap.size w w1) := ((Below.refl _ _).alloc (Nat.le_refl _) _).grown hg (by simp) (by simp)
  clear hg
  cases bb with
  | false =>
    go_wp2
    go_ret
    exact ⟨rfl, HB.out⟩
  | true =>
    go_wp2
    go_loop [11, 12] (fun v i => ∃ k T : Nat, k ≤ N ∧ i = .int .i64 k ∧ v = .int .i64 T ∧ T = 40 * n0 + 8 * n1 + 24 * N + 40 * tl wl k ∧ T ≤ 1048576) (fun _ i => N - (intOf i).toNat)
    case atStart => exact ⟨0, 40 * n0 + 8 * n1 + 24 * N, by omega, rfl, by go_num, by simp [tl], by omega⟩
    case round =>
      obtain ⟨k, T, hk, rfl, rfl, hT, hle⟩ := hrel
      have HTk : Hid (T = 40 * n0 + 8 * n1 + 24 * N + 40 * tl wl k) := hT
      clear hT
      by_cases hkN : k < N
      · have hak := HA.out (by omega)
        subst hak
        have n1' := HG.out.cell ((gb_alloc (gb_refl w none) (.cells #[.int .i64 ef, .int .i64 et, .int .i64 em, .int .i64 ed, .int .i8 es] 56)).cell (HL.out.cell k hkN) (by simp)) (by simp)
        have n2' := HL.out.short k hkN
        have HT : Hid (tl wl (k + 1) = tl wl k + (wl k).length) := (rfl : _ = _)
        generalize (wl k).length = L at n1' n2' HT
        by_cases hb : L ≤ 1048576
        · by_cases hb2 : T + 40 * L ≤ 1048576
          · go_wp2
            go_round
            case rel => exact ⟨k + 1, T + 40 * L, by omega, by go_num, by go_num, by rw [HT.out, HTk.out]; omega, hb2⟩
            case measure => simp [intOf]; omega
          · have t1 := tl_mono wl (show k + 1 ≤ N by omega)
            have t2 := HFT.out
            have t3 := HTk.out
            have t4 := HT.out
            omega
        · have t1 := tl_mono wl (show k + 1 ≤ N by omega)
          have t2 := HFT.out
          have t3 := HTk.out
          have t4 := HT.out
          omega
      · have e1 := HG.out.cell (show (w.alloc (.cells #[.int .i64 ef, .int .i64 et, .int .i64 em, .int .i64 ed, .int .i8 es] 56)).cell? ⟨w.heap.size, 1, none⟩ = some (.int .i64 et) by simp) (by simp)
        by_cases g1 : et < 0
        · go_wp2
          go_ret
          exact ⟨rfl, HB.out⟩
        by_cases g2 : (n1 : Int) ≤ et
        · go_wp2
          go_ret
          exact ⟨rfl, HB.out⟩
        by_cases g3 : (N : Int) ≤ et
        · go_wp2
          go_ret
          exact ⟨rfl, HB.out⟩
        obtain ⟨t, rfl⟩ := Int.eq_ofNat_of_zero_le (show 0 ≤ et by omega)
        have hak := HA1.out (by omega)
        subst hak
        have e2 := HG.out.cell ((gb_alloc (gb_refl w none) _).cell (HI.out t (by omega)) (by simp)) (by simp)
        have g4 : cf t < 0 := by
          have := HBAD.out
          simp only [Int.toNat_natCast] at this
          omega
        have i1 : (0 : Int) ≤ (t : Int) := by omega
        have i2 : (t : Int) < (n1 : Int) := by omega
        go_wp2
        go_ret
        exact ⟨rfl, HB.out⟩
end Go.Proofs.Qxb6602655aMods
