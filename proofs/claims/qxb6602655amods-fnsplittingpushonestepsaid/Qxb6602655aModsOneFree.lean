/-
  FnSplittingPushOneStep (6): the walk, a copy that does not wait.
-/
import Derived.Test.Qxb6602655aModsOneSmall
namespace Go.Proofs.Qxb6602655aMods
open Go.RowKit
set_option linter.unusedSimpArgs false


set_option maxRecDepth 100000 in
set_option maxHeartbeats 4000000 in
theorem one_free (af : Option Addr) (bF oF cF b1 o1 M c1 N c2 bw ow t : Nat) (lf : List E) (cf : Nat → Int) (aw : Nat → Option Addr) (cw bE oE : Nat → Nat) (wl : Nat → List E) (r ef em ed es : Int) (w : World)
    (haf : 0 < lf.length → af = some ⟨bF, oF, none⟩) (hnf : af = none → cF = 0) (hEf : Envs w bF oF lf) (hI : Ints w b1 o1 M cf) (hL : Lists w bw ow N aw cw bE oE wl)
    (hfit : 40 * lf.length + 8 * M + 24 * N + 40 * tl wl N ≤ 1048576) (htM : t < M) (htN : t < N) (hcf : 0 ≤ cf t) (hcf2 : cf t ≤ 9223372036854775807) (hes : es ≤ 127) (hw : wts t es = false) :
    Calls Trym.prog 6 #[.slice af lf.length cF, .slice (some ⟨b1, o1, none⟩) M c1, .slice (some ⟨bw, ow, none⟩) N c2, .int .i64 r, .agg #[.int .i64 ef, .int .i64 t, .int .i64 em, .int .i64 ed, .int .i8 es]] w fun e w' => e = .returned (.bool true) ∧ Below w.heap.size w w' := by
  have HF1 : Hid (0 < lf.length → af = some ⟨bF, oF, none⟩) := haf
  have HF2 : Hid (af = none → cF = 0) := hnf
  have HF3 : Hid (Envs w bF oF lf) := hEf
  have HI : Hid (Ints w b1 o1 M cf) := hI
  have HL : Hid (Lists w bw ow N aw cw bE oE wl) := hL
  have HFT : Hid (40 * lf.length + 8 * M + 24 * N + 40 * tl wl N ≤ 1048576) := hfit
  have k0 : lf.length ≤ 26214 := by omega
  have k1 : M ≤ 131072 := by omega
  have k2 : N ≤ 43691 := by omega
  have k3 : 40 * lf.length + 8 * M + 24 * N ≤ 1048576 := by omega
  have HWL : Hid (∀ p, p < N → (wl p).length ≤ 26214) := fun p hp => by
    have := tl_mono wl (show p + 1 ≤ N by omega)
    simp only [tl] at this
    omega
  clear haf hnf hEf hI hL hfit
  have i1 : (0 : Int) ≤ (t : Int) := by omega
  have i2 : (t : Int) < (M : Int) := by omega
  have i3 : (t : Int) < (N : Int) := by omega
  go_enter Trym.func6, Trym.ntmps6
  go_wp2_with fail
  refine (bytes18 af (some ⟨b1, o1, none⟩) (some ⟨bw, ow, none⟩) lf.length M N cF c1 c2 bw ow aw cw bE oE wl r ef t em ed es _ (by omega) (by omega) (by omega) (HL.out.kept (gb_alloc (gb_refl _ _) _)) (fun _ => rfl)).mono ?_
  rintro e w1 ⟨⟨bb, rfl⟩, hg⟩
  have HG : Hid ((w.alloc (.cells #[.int .i64 ef, .int .i64 t, .int .i64 em, .int .i64 ed, .int .i8 es] 56)).grownBy w1 none) := hg
  have HB : Hid (Below w.heap.size w w1) := ((Below.refl _ _).alloc (Nat.le_refl _) _).grown hg (by simp) (by simp)
  have hs1 : w.heap.size < w1.heap.size := by have := hg.size; simp at this; omega
  clear hg
  cases bb with
  | false =>
    go_wp2
    go_ret
    exact ⟨rfl, HB.out⟩
  | true =>
    clear HB
    go_wp2
    go_loop [11, 12] (fun v i => ∃ k T : Nat, k ≤ N ∧ i = .int .i64 k ∧ v = .int .i64 T ∧ T = 40 * lf.length + 8 * M + 24 * N + 40 * tl wl k ∧ T ≤ 1048576) (fun _ i => N - (intOf i).toNat)
    case atStart => exact ⟨0, 40 * lf.length + 8 * M + 24 * N, by omega, rfl, by go_num, by simp [tl], by omega⟩
    case round =>
      obtain ⟨k, T, hk, rfl, rfl, hT, hle⟩ := hrel
      have HTk : Hid (T = 40 * lf.length + 8 * M + 24 * N + 40 * tl wl k) := hT
      clear hT
      by_cases hkN : k < N
      · have n1' := HG.out.cell ((gb_alloc (gb_refl w none) (.cells #[.int .i64 ef, .int .i64 t, .int .i64 em, .int .i64 ed, .int .i8 es] 56)).cell (HL.out.cell k hkN) (by simp)) (by simp)
        have n2' := HWL.out k hkN
        have HT : Hid (tl wl (k + 1) = tl wl k + (wl k).length) := (rfl : _ = _)
        generalize (wl k).length = L at n1' n2' HT
        have hb2 : T + 40 * L ≤ 1048576 := by
          have t1 := tl_mono wl (show k + 1 ≤ N by omega)
          have t2 := HFT.out
          have t3 := HTk.out
          have t4 := HT.out
          omega
        go_wp2
        go_round
        case rel => exact ⟨k + 1, T + 40 * L, by omega, by go_num, by go_num, by rw [HT.out, HTk.out]; omega, hb2⟩
        case measure => simp [intOf]; omega
      have hkN' : k = N := by omega
      subst hkN'
      have e1 := HG.out.cell (show (w.alloc (.cells #[.int .i64 ef, .int .i64 t, .int .i64 em, .int .i64 ed, .int .i8 es] 56)).cell? ⟨w.heap.size, 1, none⟩ = some (.int .i64 t) by simp) (by simp)
      have e2 := HG.out.cell ((gb_alloc (gb_refl w none) (.cells #[.int .i64 ef, .int .i64 t, .int .i64 em, .int .i64 ed, .int .i8 es] 56)).cell (HI.out t htM) (by simp)) (by simp)
      have G0 : Hid (w.grownBy w1 none) := gb_trans (gb_alloc (gb_refl _ _) _) HG.out
      go_wp2_with fail
      clear e1 e2
      refine (toPool (w.heap.size + 1) af bF oF cF lf _ (by omega) (by omega) HF1.out HF2.out (HF3.out.kept G0.out (by simp))).mono ?_
      rintro e w2 ⟨v0, rfl, hP⟩
      obtain ⟨x0, cc0, rfl⟩ := own_form hP.1
      have HP : Hid (PoolOf (w.heap.size + 1) lf w1 w2 (.slice x0 lf.length cc0)) := hP
      have G2 : Hid ((w.alloc (.cells #[.int .i64 ef, .int .i64 t, .int .i64 em, .int .i64 ed, .int .i8 es] 56)).grownBy w2 none) := gb_trans HG.out hP.2.1
      have hs2 : w1.heap.size ≤ w2.heap.size := hP.2.1.size
      clear hP
      go_wp2_with fail
      refine (clone20 b1 o1 M c1 cf _ (by omega) (HI.out.kept (gb_trans (gb_alloc (gb_refl _ _) _) G2.out) (by simp))).mono ?_
      rintro e w3 ⟨rfl, hn3, hg3⟩
      have HN3 : Hid (Nums w3 w2.heap.size M cf) := hn3
      have G3 : Hid ((w.alloc (.cells #[.int .i64 ef, .int .i64 t, .int .i64 em, .int .i64 ed, .int .i8 es] 56)).grownBy w3 none) := gb_trans G2.out hg3
      have hlt3 : w2.heap.size < w3.heap.size := World.block_lt_of_cell? w3 ⟨w2.heap.size, t, none⟩ (hn3 t htM).1
      have HF : Hid (∀ NN, Filled (w3.alloc (.cells (madeCells #[.slice none 0 0] NN) 59)) (w.heap.size + 1) w2.heap.size w3.heap.size NN 0 (fun _ => .slice x0 lf.length cc0) (PP lf wl)) := fun NN =>
        Filled.first (pools := PP lf wl) (HP.out.1.kept hg3 (ob_any _)) (fun h => by have := (HP.out.1.lt _ h.symm).2; omega) (by omega) hlt3 (by omega)
      obtain ⟨ft, hft⟩ : ∃ ft, Hid (w2.heap.size = ft) := ⟨w2.heap.size, (rfl : _ = _)⟩
      clear hn3 hg3 HP
      have hne : ∀ w, (binOp .neq 53 (.slice (some ⟨bw, ow, none⟩) k c2) (.slice none 0 0)).run Trym.prog w = .ok (.bool true) w := fun w => by
        rw [run_neq_slice_nil_any w 53 52 _ _ _ _ _ Trym.underlying53]; rfl
      have mk2 := fun w => run_make_row' (P := Trym.prog) 62 59 (.slice none 0 0) 24 Trym.underlying62 info59 rfl .i64 .i64 k (by omega) (by omega) w
      go_wp2
      clear hne mk2
      go_loopw [16] (fun i wr => ∃ (p : Nat) (V : Nat → Value), p ≤ k ∧ i = .int .i64 p ∧ V 0 = .slice x0 lf.length cc0 ∧ Filled wr (w.heap.size + 1) w2.heap.size w3.heap.size k p V (PP lf wl) ∧ Nums wr w2.heap.size M cf ∧ (w.alloc (.cells #[.int .i64 ef, .int .i64 t, .int .i64 em, .int .i64 ed, .int .i8 es] 56)).grownBy wr none) (fun i _ => k - (intOf i).toNat)
      case atStart => exact ⟨0, _, by omega, rfl, rfl, HF.out k, (Nums.kept HN3.out (gb_alloc (gb_refl _ none) _) (by simp)), gb_alloc G3.out _⟩
      case round =>
        clear HF HN3 G3
        obtain ⟨p, V, hp, rfl, hV0, hF, hN, hG⟩ := hrel
        have HV0 : Hid (V 0 = .slice x0 lf.length cc0) := hV0
        have HFI : Hid (Filled wr (w.heap.size + 1) w2.heap.size w3.heap.size k p V (PP lf wl)) := hF
        have HNR : Hid (Nums wr w2.heap.size M cf) := hN
        have HGR : Hid ((w.alloc (.cells #[.int .i64 ef, .int .i64 t, .int .i64 em, .int .i64 ed, .int .i8 es] 56)).grownBy wr none) := hG
        have hsr : w3.heap.size < wr.heap.size := hF.lwt
        clear hV0 hF hN hG
        by_cases hpk : p < k
        · have n1 := HGR.out.cell ((gb_alloc (gb_refl w none) (.cells #[.int .i64 ef, .int .i64 t, .int .i64 em, .int .i64 ed, .int .i8 es] 56)).cell (HL.out.cell p hpk) (by simp)) (by simp)
          have GW : Hid (w.grownBy wr none) := gb_trans (gb_alloc (gb_refl _ _) _) HGR.out
          go_wp2_with fail
          refine (toPool (w.heap.size + 1) (aw p) (bE p) (oE p) (cw p) (wl p) _ (by omega) (by have := HWL.out p hpk; omega) (HL.out.addr p hpk) (HL.out.nil p hpk) ((HL.out.envs p hpk).kept GW.out (by simp))).mono ?_
          rintro e w4 ⟨v, rfl, hP⟩
          obtain ⟨xp, cp, rfl⟩ := own_form hP.1
          have HP : Hid (PoolOf (w.heap.size + 1) (wl p) wr w4 (.slice xp (wl p).length cp)) := hP
          obtain ⟨⟨u, hu⟩, hfz⟩ := (HFI.out.kept hP.2.1).there p hpk
          have hs4 : wr.heap.size ≤ w4.heap.size := hP.2.1.size
          clear hP n1
          go_wp2
          have F' := HFI.out.step (pools := PP lf wl) HP.out hpk
          have GS := gb_set w4 ⟨w3.heap.size, p, none⟩ (.slice xp (wl p).length cp)
          go_roundw
          case rel => exact ⟨p + 1, _, by omega, by go_num, by rw [upd_other _ _ (by omega)]; exact HV0.out, F', Nums.kept (Nums.kept HNR.out HP.out.2.1 (by simp)) GS (by simp; omega), gb_setCell_new (gb_trans HGR.out HP.out.2.1) (by simp; omega) _ _ _⟩
          case measure => simp [intOf]; omega
        have hpk' : p = k := by omega
        subst hpk'
        have S5 := HFI.out.toQ (M := M) (cf := cf) HNR.out (by omega) r
        rw [HV0.out] at S5
        have HS5 : Hid (_) := S5
        have HG5 : Hid (∀ o, (w.alloc (.cells #[.int .i64 ef, .int .i64 t, .int .i64 em, .int .i64 ed, .int .i8 es] 56)).grownBy (wr.alloc o) none) := fun o => gb_alloc HGR.out o
        have hsw : w.heap.size < wr.heap.size := by omega
        obtain ⟨y0, y1, y2, y3, y4⟩ := (At_box w ef t em ed es 56).kept (gb_alloc HGR.out (.cells #[.slice x0 lf.length cc0, .slice (some ⟨w2.heap.size, 0, none⟩) M M, .slice (some ⟨w3.heap.size, 0, none⟩) p p, .int .i64 r] 83)) (by simp)
        simp only [Nat.zero_add] at y0 y1 y2 y3 y4
        clear S5
        go_wp2_with (go_at_call 21; refine (split21 _ _ _ r _ ⟨_, _, _, rfl⟩ ⟨_, _, _, rfl⟩ ⟨_, _, _, rfl⟩).mono ?_; rintro res w' ⟨rfl, rfl⟩)
        refine (env23 ef t em ed es _).mono ?_
        rintro res w6 ⟨rfl, hg6⟩
        have HS6 : Hid (_) := HS5.out.kept hg6
        have HG6 : Hid ((w.alloc (.cells #[.int .i64 ef, .int .i64 t, .int .i64 em, .int .i64 ed, .int .i8 es] 56)).grownBy w6 none) := gb_trans (HG5.out _) hg6
        clear y0 y1 y2 y3 y4 hg6 HS5 HG5
        go_wp2_with fail
        refine (push22 HS6.out t ef em ed es htN htM hes (by show lf.length ≤ _; omega) (by have := HWL.out t htN; show (wl t).length ≤ _; omega)).mono ?_
        rintro res w7 ⟨rfl, V', hQ7, hB7⟩
        have HG7 : Hid ((w.alloc (.cells #[.int .i64 ef, .int .i64 t, .int .i64 em, .int .i64 ed, .int .i8 es] 56)).grownBy w7 none) := gb_below ((below_gb HG6.out).trans (by rw [show (w.alloc (.cells #[.int .i64 ef, .int .i64 t, .int .i64 em, .int .i64 ed, .int .i8 es] 56)).heap.size = w.heap.size + 1 by simp]; exact hB7))
        obtain ⟨P', hP'⟩ : ∃ P', Hid (P' = stepP (PP lf wl) t ⟨ef, t, em, ed, es⟩) := ⟨_, (rfl : _ = _)⟩
        obtain ⟨C', hC'⟩ : ∃ C', Hid (C' = stepC cf t ⟨ef, t, em, ed, es⟩) := ⟨_, (rfl : _ = _)⟩
        obtain ⟨R', hR'⟩ : ∃ R', Hid (R' = stepR (PP lf wl) cf r t ⟨ef, t, em, ed, es⟩) := ⟨_, (rfl : _ = _)⟩
        rw [← hP'.out, ← hC'.out, ← hR'.out] at hQ7
        have HQ7 : Hid (Q w7 (w.heap.size + 1) wr.heap.size w2.heap.size w3.heap.size M p V' P' C' R') := hQ7
        obtain ⟨cft, hc1⟩ := hQ7.c1
        obtain ⟨cwt, hc2⟩ := hQ7.c2
        have hc3 := hQ7.c3
        obtain ⟨x7, cc7, hv7⟩ := own_form (hQ7.own 0 (by omega))
        have hc0 := (hQ7.at_ 0 (by omega)).1
        rw [hv7] at hc0
        simp only [loc] at hc0
        have hl0 : (P' 0).length = lf.length + 1 := by rw [hP'.out, P0_f hw]; simp
        rw [hl0] at hc0
        have HO7 : Hid (w7.ownsRow (w.heap.size + 1) 67 5 (.slice x7 (lf.length + 1) cc7) (lf.length + 1) (rows (lf ++ [(⟨ef, t, em, ed, es⟩ : E)]))) := by
          show _
          have h := hQ7.own 0 (by omega)
          rw [hv7] at h
          rw [hl0] at h
          rw [hP'.out, P0_f hw] at h
          exact h
        clear hv7 hQ7 hB7 HG6 HS6 hl0
        go_wp2_with fail
        refine (fields24 wr.heap.size _ _ _ _ _ hc0 hc1 hc2 hc3).mono ?_
        rintro res w8 ⟨rfl, hg8⟩
        clear hc0 hc1 hc2 hc3
        have HG8 : Hid ((w.alloc (.cells #[.int .i64 ef, .int .i64 t, .int .i64 em, .int .i64 ed, .int .i8 es] 56)).grownBy w8 none) := gb_trans HG7.out hg8
        have HQ8 : Hid (Q w8 (w.heap.size + 1) wr.heap.size w2.heap.size w3.heap.size M p V' P' C' R') := HQ7.out.kept hg8
        have HO8 : Hid (w8.ownsRow (w.heap.size + 1) 67 5 (.slice x7 (lf.length + 1) cc7) (lf.length + 1) (rows (lf ++ [(⟨ef, t, em, ed, es⟩ : E)]))) := HO7.out.kept hg8 (ob_any _)
        obtain ⟨y0, y1, y2, y3, y4⟩ := (At_box w ef t em ed es 56).kept HG8.out (by simp)
        simp only [Nat.zero_add] at y0 y1 y2 y3 y4
        clear hg8 HO7 HQ7 HG7
        go_wp2_with (first
          | (go_at_call 25; refine (b1waits_no t es _ i1 hw).mono ?_; rintro res w' ⟨rfl, hww⟩; have hw2 := hww.symm; clear hww; subst hw2)
          | fail)
        refine (poolIsPlus (w.heap.size + 1) x7 cc7 af bF oF cF lf ef t em ed es _ (by omega) HO8.out HF1.out (HF3.out.kept (gb_trans (gb_alloc (gb_refl _ _) _) HG8.out) (by simp))).mono ?_
        rintro res w9 ⟨rfl, hg9⟩
        have HG9 : Hid ((w.alloc (.cells #[.int .i64 ef, .int .i64 t, .int .i64 em, .int .i64 ed, .int .i8 es] 56)).grownBy w9 none) := gb_trans HG8.out hg9
        have HQ9 : Hid (Q w9 (w.heap.size + 1) wr.heap.size w2.heap.size w3.heap.size M p V' P' C' R') := HQ8.out.kept hg9
        have GW9 : Hid (w.grownBy w9 none) := gb_trans (gb_alloc (gb_refl _ _) _) HG9.out
        clear y0 y1 y2 y3 y4 hg9 HO8 HQ8 HG8
        go_wp2
        go_loop [23] (fun i => ∃ z : Nat, z ≤ M ∧ i = .int .i64 z) (fun i => M - (intOf i).toNat)
        case atStart => exact ⟨0, by omega, rfl⟩
        case round =>
          obtain ⟨z, hz, rfl⟩ := hrel
          by_cases hzM : z < M
          · have a1 := (HI.out.kept GW9.out (by simp)) z hzM
            have g1 := (HQ9.out.nums z hzM).1
            have y1 := ((At_box w ef t em ed es 56).kept HG9.out (by simp)).a1
            simp only [Nat.zero_add] at y1
            have j1 : (0 : Int) ≤ (z : Int) := by omega
            have j2 : (z : Int) < (M : Int) := by omega
            by_cases hzt : z = t
            · have hCz : C' z = wrap64 (cf z + 1) := by rw [hC'.out, C_f hw, hzt, upd_same]
              rw [hCz] at g1
              have ht2 : ((z : Int) == (t : Int)) = true := by rw [hzt]; simp
              clear hCz
              clear hzt
              go_wp2
              go_round
              case rel => exact ⟨z + 1, by omega, by go_num⟩
              case measure => simp [intOf]; omega
            · have hCz : C' z = cf z := by rw [hC'.out, C_f hw, upd_other _ _ hzt]
              rw [hCz] at g1
              have ht2 : ((z : Int) == (t : Int)) = false := by simp; omega
              clear hCz hzt
              go_wp2
              go_round
              case rel => exact ⟨z + 1, by omega, by go_num⟩
              case measure => simp [intOf]; omega
          · go_wp2
            go_loopw [25] (fun i ws => ∃ z : Nat, z ≤ p ∧ i = .int .i64 z ∧ w9.grownBy ws none) (fun i _ => p - (intOf i).toNat)
            case atStart => exact ⟨0, by omega, rfl, gb_refl _ _⟩
            case round =>
              obtain ⟨ws, rfl⟩ : ∃ ws, ws = wr := ⟨wr, rfl⟩
              obtain ⟨z, hz, rfl, hgs⟩ := hrel
              have GS : Hid (w9.grownBy ws none) := hgs
              have HQS : Hid (_) := HQ9.out.kept hgs
              have HGS : Hid ((w.alloc (.cells #[.int .i64 ef, .int .i64 t, .int .i64 em, .int .i64 ed, .int .i8 es] 56)).grownBy ws none) := gb_trans HG9.out hgs
              have GWS : Hid (w.grownBy ws none) := gb_trans GW9.out hgs
              clear hgs
              by_cases hzN : z < p
              · have c1 := GWS.out.cell (HL.out.cell z hzN) (by simp)
                obtain ⟨xz, cz, hvz⟩ := own_form (HQS.out.own (z + 1) (by omega))
                have c2 := (HQS.out.at_ (z + 1) (by omega)).1
                rw [hvz] at c2
                simp only [loc] at c2
                have hoz := HQS.out.own (z + 1) (by omega)
                rw [hvz] at hoz
                obtain ⟨y0, y1, y2, y3, y4⟩ := (At_box w ef t em ed es 56).kept HGS.out (by simp)
                simp only [Nat.zero_add] at y0 y1 y2 y3 y4
                have wle := HWL.out z hzN
                have j1 : (0 : Int) ≤ (z : Int) := by omega
                have j2 : (z : Int) < (p : Int) := by omega
                clear hvz
                by_cases hzt : z = t
                · have ht2 : ((z : Int) == (t : Int)) = true := by rw [hzt]; simp
                  clear hzt
                  have hPz : P' (z + 1) = wl z := by rw [hP'.out]; exact Pp_f hw z
                  rw [hPz] at c2 hoz
                  have HOZ : Hid (ws.ownsRow (w.heap.size + 1) 67 5 (.slice xz (wl z).length cz) (wl z).length (rows (wl z))) := hoz
                  clear hoz hPz
                  go_wp2
                  go_region_with (go_at_call 26; refine (poolIs (w.heap.size + 1) xz cz (aw z) (bE z) (oE z) (cw z) (wl z) _ (by omega) (HOZ.out.kept (gb_drew (gb_refl _ none)) (ob_any _)) (HL.out.addr z hzN) ((HL.out.envs z hzN).kept (gb_drew GWS.out) (by simp))).mono ?_; rintro res wb ⟨rfl, hgb⟩)
                  all_goals
                    have GB : Hid (w9.grownBy wb none) := gb_trans GS.out (gb_trans (gb_drew (gb_refl _ _)) hgb)
                    clear hgb y0 y1 y2 y3 y4 c1 c2
                    go_wp2
                    go_roundw
                    case rel => exact ⟨z + 1, by omega, by go_num, GB.out⟩
                    case measure => simp [intOf]; omega
                · have ht2 : ((z : Int) == (t : Int)) = false := by simp; omega
                  clear hzt
                  have hPz : P' (z + 1) = wl z := by rw [hP'.out]; exact Pp_f hw z
                  rw [hPz] at c2 hoz
                  have HOZ : Hid (ws.ownsRow (w.heap.size + 1) 67 5 (.slice xz (wl z).length cz) (wl z).length (rows (wl z))) := hoz
                  clear hoz hPz
                  go_wp2
                  go_region_with (go_at_call 26; refine (poolIs (w.heap.size + 1) xz cz (aw z) (bE z) (oE z) (cw z) (wl z) _ (by omega) (HOZ.out.kept (gb_drew (gb_refl _ none)) (ob_any _)) (HL.out.addr z hzN) ((HL.out.envs z hzN).kept (gb_drew GWS.out) (by simp))).mono ?_; rintro res wb ⟨rfl, hgb⟩)
                  all_goals
                    have GB : Hid (w9.grownBy wb none) := gb_trans GS.out (gb_trans (gb_drew (gb_refl _ _)) hgb)
                    clear hgb y0 y1 y2 y3 y4 c1 c2
                    go_wp2
                    go_roundw
                    case rel => exact ⟨z + 1, by omega, by go_num, GB.out⟩
                    case measure => simp [intOf]; omega
              have hzp : z = p := by omega
              subst hzp
              have b1' : lets C' (fun p => (P' (p + 1)).length) (min M z) ≤ 1048577 := by
                have := HFT.out
                have h := lets_bound (cf := cf) (t := t) (e := ⟨ef, t, em, ed, es⟩) (lf := lf) (wl := wl) (min M z)
                have h2 := tl_mono wl (show min M z ≤ z from Nat.min_le_right _ _)
                rw [hC'.out, hP'.out]
                omega
              have b2' : lets cf (fun p => (wl p).length) (min M z) ≤ 1048577 := by
                have := HFT.out
                have h := lets_tl cf wl (min M z)
                have h2 := tl_mono wl (show min M z ≤ z from Nat.min_le_right _ _)
                omega
              have HLAW : Hid (wrap64 (R' - r) = (lets C' (fun p => (P' (p + 1)).length) (min M z) : Int) - (lets cf (fun p => (wl p).length) (min M z) : Int)) := by
                show _ = _
                rw [hC'.out, hP'.out, hR'.out]
                exact let_law (by omega) hcf hcf2 (by have := HFT.out; have h2 := tl_mono wl (show min M z ≤ z from Nat.min_le_right _ _); omega)
              go_wp2_with fail
              refine (lets28 w2.heap.size w3.heap.size M z _ _ C' (fun p => (P' (p + 1)).length) _ (by omega) (by omega) ?l1 ?l2 (fun k hk => (HQS.out.nums k hk).1) ?l3).mono ?_
              case l1 =>
                intro k hk
                have := HFT.out
                have h := lets_bound (cf := cf) (t := t) (e := ⟨ef, t, em, ed, es⟩) (lf := lf) (wl := wl) k
                have h2 := tl_mono wl hk
                rw [hC'.out, hP'.out]
                omega
              case l2 =>
                intro k hk
                have hh := HWL.out k hk
                rw [hP'.out]
                rw [Pp_f hw]; omega
              case l3 =>
                intro k hk
                obtain ⟨xz, cz, hvz⟩ := own_form (HQS.out.own (k + 1) (by omega))
                have c2 := (HQS.out.at_ (k + 1) (by omega)).1
                rw [hvz] at c2
                exact ⟨xz, cz, c2⟩
              rintro res wa ⟨rfl, hwa⟩
              have hwa2 := hwa.symm
              clear hwa
              subst hwa2
              go_wp2_with fail
              refine (lets29 b1 o1 bw ow M z _ _ cf (fun p => (wl p).length) _ (by omega) (by omega) (fun k hk => by have := HFT.out; have h := lets_tl cf wl k; have h2 := tl_mono wl hk; omega) (fun k hk => by have := HWL.out k hk; show (wl k).length ≤ _; omega) (fun k hk => (HI.out.kept GWS.out (by simp)) k hk) (fun k hk => ⟨_, _, GWS.out.cell (HL.out.cell k hk) (by simp)⟩)).mono ?_
              rintro res wa ⟨rfl, hwa⟩
              have hwa2 := hwa.symm
              clear hwa
              subst hwa2
              go_wp2
              go_ret
              exact ⟨ret_bool HLAW.out, below_gb GWS.out⟩
end Go.Proofs.Qxb6602655aMods
