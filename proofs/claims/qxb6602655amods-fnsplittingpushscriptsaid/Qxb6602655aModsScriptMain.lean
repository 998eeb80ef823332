/-
  FnSplittingPushScript (7): the walk, every copy to a process that is there.
-/
import Derived.Test.Qxb6602655aModsFind
namespace Go.Proofs.Qxb6602655aMods
open Go.RowKit
set_option linter.unusedSimpArgs false

theorem init_a (w : World) (N : Nat) : ∃ q ft wt V, Value.pointer (some ⟨w.heap.size + 1 + 1, 0, none⟩) = .pointer (some ⟨q, 0, none⟩) ∧
    Q (((w.alloc (.cells (madeCells #[.int .i64 0] N) 3)).alloc (.cells (madeCells #[.slice none 0 0] N) 59)).alloc (.cells #[.slice none 0 0, .slice (some ⟨w.heap.size, 0, none⟩) N N, .slice (some ⟨w.heap.size + 1, 0, none⟩) N N, .int .i64 0] 83)).drew w.heap.size q ft wt N V (PL []) (CL []) 0 ∧
    Below w.heap.size w (((w.alloc (.cells (madeCells #[.int .i64 0] N) 3)).alloc (.cells (madeCells #[.slice none 0 0] N) 59)).alloc (.cells #[.slice none 0 0, .slice (some ⟨w.heap.size, 0, none⟩) N N, .slice (some ⟨w.heap.size + 1, 0, none⟩) N N, .int .i64 0] 83)).drew := by
  obtain ⟨h1, h2, h3⟩ := heap_two w (.cells (madeCells #[.int .i64 0] N) 3) (.cells (madeCells #[.slice none 0 0] N) 59) (.cells #[.slice none 0 0, .slice (some ⟨w.heap.size, 0, none⟩) N N, .slice (some ⟨w.heap.size + 1, 0, none⟩) N N, .int .i64 0] 83)
  exact ⟨_, _, _, _, rfl, (Q_init (base := w.heap.size) h3 h1 h2 (by omega) (by omega) (by omega) (by omega) (by omega) (by omega)).kept (gb_drew (gb_refl _ _)), ((((Below.refl _ _).alloc (Nat.le_refl _) _).alloc (by simp) _).alloc (by simp; omega) _).drew⟩
theorem init_b (w : World) (N : Nat) : ∃ q ft wt V, Value.pointer (some ⟨w.heap.size + 1 + 1, 0, none⟩) = .pointer (some ⟨q, 0, none⟩) ∧
    Q (((w.alloc (.cells (madeCells #[.slice none 0 0] N) 59)).alloc (.cells (madeCells #[.int .i64 0] N) 3)).alloc (.cells #[.slice none 0 0, .slice (some ⟨w.heap.size + 1, 0, none⟩) N N, .slice (some ⟨w.heap.size, 0, none⟩) N N, .int .i64 0] 83)).drew w.heap.size q ft wt N V (PL []) (CL []) 0 ∧
    Below w.heap.size w (((w.alloc (.cells (madeCells #[.slice none 0 0] N) 59)).alloc (.cells (madeCells #[.int .i64 0] N) 3)).alloc (.cells #[.slice none 0 0, .slice (some ⟨w.heap.size + 1, 0, none⟩) N N, .slice (some ⟨w.heap.size, 0, none⟩) N N, .int .i64 0] 83)).drew := by
  obtain ⟨h1, h2, h3⟩ := heap_two w (.cells (madeCells #[.slice none 0 0] N) 59) (.cells (madeCells #[.int .i64 0] N) 3) (.cells #[.slice none 0 0, .slice (some ⟨w.heap.size + 1, 0, none⟩) N N, .slice (some ⟨w.heap.size, 0, none⟩) N N, .int .i64 0] 83)
  exact ⟨_, _, _, _, rfl, (Q_init (base := w.heap.size) h3 h2 h1 (by omega) (by omega) (by omega) (by omega) (by omega) (by omega)).kept (gb_drew (gb_refl _ _)), ((((Below.refl _ _).alloc (Nat.le_refl _) _).alloc (by simp) _).alloc (by simp; omega) _).drew⟩

/-- N numbers of the kind int in block g, which may be written. -/
def Nums (w : World) (g N : Nat) (f : Nat → Int) : Prop := ∀ p, p < N → w.cell? ⟨g, p, none⟩ = some (.int .i64 (f p)) ∧ w.frozen? ⟨g, p, none⟩ = false
theorem Nums.kept {w v : World} {row : Option Nat} {g N : Nat} {f : Nat → Int} (h : Nums w g N f) (k : w.grownBy v row) (hr : some g ≠ row) : Nums v g N f := fun p hp =>
  ⟨k.cell (h p hp).1 hr, (World.frozen?_of_block (w := w) (k.block g (World.block_lt_of_cell? w ⟨g, p, none⟩ (h p hp).1) hr)).trans (h p hp).2⟩
theorem Nums.stored {w : World} {g N : Nat} {f : Nat → Int} (h : Nums w g N f) (t : Nat) (x : Int) : Nums (w.setCell ⟨g, t, none⟩ (.int .i64 x)) g N (upd f t x) := by
  intro p hp
  refine ⟨?_, by rw [World.frozen?_setCell]; exact (h p hp).2⟩
  by_cases e : p = t
  · subst e; rw [upd_same]; exact World.cell?_setCell_same _ _ _ (h p hp).1
  · rw [upd_other _ _ e, World.cell?_setCell_other _ _ _ _ (by intro h; injection h with _ h2; exact e h2.symm)]; exact (h p hp).1
theorem Nums_made (w : World) (N : Nat) : Nums ((w.alloc (.cells (madeCells #[.int .i64 0] N) 3)).alloc (.cells (madeCells #[.int .i64 0] N) 3)) w.heap.size N (CL ([].take 0)) ∧
    Nums ((w.alloc (.cells (madeCells #[.int .i64 0] N) 3)).alloc (.cells (madeCells #[.int .i64 0] N) 3)) (w.heap.size + 1) N (fun p => ((PL ([].take 0) (p + 1)).length : Int)) := by
  have s1 : (w.alloc (.cells (madeCells #[.int .i64 0] N) 3)).heap.size = w.heap.size + 1 := by simp
  have h1 : ((w.alloc (.cells (madeCells #[.int .i64 0] N) 3)).alloc (.cells (madeCells #[.int .i64 0] N) 3)).heap[w.heap.size]? = some (.cells (madeCells #[.int .i64 0] N) 3 (0, 0)) := by
    rw [Below.heap_alloc _ _ _ (by omega)]; exact heap_alloc_new w _
  have h2 : ((w.alloc (.cells (madeCells #[.int .i64 0] N) 3)).alloc (.cells (madeCells #[.int .i64 0] N) 3)).heap[w.heap.size + 1]? = some (.cells (madeCells #[.int .i64 0] N) 3 (0, 0)) := by
    have h := heap_alloc_new (w.alloc (.cells (madeCells #[.int .i64 0] N) 3)) (.cells (madeCells #[.int .i64 0] N) 3)
    rwa [s1] at h
  exact ⟨fun p hp => ⟨(cell_heap (o := p) h1).1.trans (made_at hp), (cell_heap h1).2⟩, fun p hp => ⟨(cell_heap (o := p) h2).1.trans (made_at hp), (cell_heap h2).2⟩⟩
theorem RN_nil (N : Nat) : RN N [] = 0 := by
  have : RN N [] ≤ N * 0 := RN_le N []
  omega
theorem step_state {w : World} {base q ft wt N k t : Nat} {V : Nat → Value} {l : List E} {f m d s : Int} (hk : k < l.length) (he : l[k] = ⟨f, t, m, d, s⟩) (ht : t < N) (hN : N ≤ 65536) (hl : l.length ≤ 26214)
    (S : Q w base q ft wt N V (stepP (PL (l.take k)) t ⟨f, t, m, d, s⟩) (stepC (CL (l.take k)) t ⟨f, t, m, d, s⟩) (stepR (PL (l.take k)) (CL (l.take k)) (RN N (l.take k)) t ⟨f, t, m, d, s⟩)) :
    Q w base q ft wt N V (PL (l.take (k + 1))) (CL (l.take (k + 1))) (RN N (l.take (k + 1))) := by
  have hlen : (l.take k).length ≤ 1048576 := by have := List.length_take_le k l; simp; omega
  have e1 : l.take (k + 1) = l.take k ++ [⟨f, t, m, d, s⟩] := by rw [← he, List.take_succ_eq_append_getElem hk]
  rw [e1]
  rwa [stepP_PL rfl, stepC_CL rfl hlen, stepR_RN rfl ht hN hlen] at S

set_option maxRecDepth 100000 in
set_option maxHeartbeats 2000000 in
theorem script_good (ad : Option Addr) (N b off cap : Nat) (l : List E) (w : World) (had : 0 < l.length → ad = some ⟨b, off, none⟩) (hl : l.length ≤ 26214) (hN : N ≤ 65536) (hb : 0 < l.length → b < w.heap.size) (hE : Envs w b off l) (hs : ∀ i (hi : i < l.length), l[i].s ≤ 127) (hgood : ∀ i (hi : i < l.length), 0 ≤ l[i].t ∧ l[i].t < N) :
    Calls Trym.prog 7 #[.int .i64 N, .slice ad l.length cap] w fun e w' => e = .returned (.bool true) ∧ Below w.heap.size w w' := by
  have HA : Hid (0 < l.length → ad = some ⟨b, off, none⟩) := had
  clear had
  have HBL : Hid (0 < l.length → b < w.heap.size) := hb
  clear hb
  have hd : decide (l.length ≤ 1048576) = true := by simp; omega
  have HE : Hid (Envs w b off l) := hE
  have HSs : Hid (∀ i (hi : i < l.length), l[i].s ≤ 127) := hs
  have HG : Hid (∀ i (hi : i < l.length), 0 ≤ l[i].t ∧ l[i].t < N) := hgood
  clear hE hgood hs
  go_enter Trym.func7, Trym.ntmps7
  go_wp2_with (go_at_call 30; refine (bytes30 N _ l.length cap _ (by omega)).mono ?_; rintro e w' ⟨rfl, hw⟩; have hw2 := hw.symm; clear hw; subst hw2)
  go_loop [5] (fun i => ∃ k : Nat, k ≤ l.length ∧ i = .int .i64 k) (fun i => l.length - (intOf i).toNat)
  case atStart => exact ⟨0, by omega, rfl⟩
  case round =>
    obtain ⟨k, hk, rfl⟩ := hrel
    by_cases hkn : k < l.length
    · have hak := HA.out (by omega)
      subst hak
      have ha := (HE.out k hkn).a1
      obtain ⟨g1, g2⟩ := HG.out k hkn
      generalize l[k].t = t at ha g1 g2
      go_wp2
      go_round
      case rel => exact ⟨k + 1, by omega, by go_num⟩
      case measure => simp [intOf]; omega
    clear hd
    have mk1 := fun w => run_make_row' (P := Trym.prog) 42 3 (.int .i64 0) 8 Trym.underlying42 info3 rfl .i64 .i64 N (by omega) (by omega) w
    have mk2 := fun w => run_make_row' (P := Trym.prog) 62 59 (.slice none 0 0) 24 Trym.underlying62 info59 rfl .i64 .i64 N (by omega) (by omega) w
    go_wp2
    go_cut [6] (fun q6 wc => ∃ q ft wt V, q6 = .pointer (some ⟨q, 0, none⟩) ∧ Q wc w.heap.size q ft wt N V (PL []) (CL []) 0 ∧ Below w.heap.size w wc)
    case first =>
      go_region_with (go_at_call 21; refine (split21 _ _ _ 0 _ ⟨_, _, _, rfl⟩ ⟨_, _, _, rfl⟩ ⟨_, _, _, rfl⟩).mono ?_; rintro res w1 ⟨rfl, rfl⟩)
      all_goals
        go_wp2_with fail
        go_meet
        first
          | exact init_a w N
          | exact init_b w N
    case rest =>
      obtain ⟨q, ft, wt, V0, rfl, hQ, hB⟩ := hcut
      have HQ : Hid (Q wc w.heap.size q ft wt N V0 (PL []) (CL []) 0) := hQ
      have HB : Hid (Below w.heap.size w wc) := hB
      clear hQ hB mk1 mk2
      go_wp2
      go_loopw [7] (fun i wr => ∃ (k : Nat) (V : Nat → Value), k ≤ l.length ∧ i = .int .i64 k ∧ Q wr w.heap.size q ft wt N V (PL (l.take k)) (CL (l.take k)) (RN N (l.take k)) ∧ Below w.heap.size w wr) (fun i _ => l.length - (intOf i).toNat)
      case atStart => exact ⟨0, V0, by omega, rfl, by simpa [RN_nil] using HQ.out, HB.out⟩
      case round =>
        clear HQ HB
        obtain ⟨k, V, hk, rfl, hQ, hB⟩ := hrel
        have HQ : Hid (Q wr w.heap.size q ft wt N V (PL (l.take k)) (CL (l.take k)) (RN N (l.take k))) := hQ
        have HB : Hid (Below w.heap.size w wr) := hB
        clear hQ hB
        by_cases hkl : k < l.length
        · have hak := HA.out (by omega)
          subst hak
          obtain ⟨a0, a1, a2, a3, a4⟩ := (HE.out k hkl).below HB.out (HBL.out (by omega))
          obtain ⟨g1, g2⟩ := HG.out k hkl
          have g3 := HSs.out k hkl
          obtain ⟨e, he⟩ : ∃ e, Hid (l[k] = e) := ⟨l[k], (rfl : l[k] = l[k])⟩
          rw [he.out] at a0 a1 a2 a3 a4 g1 g2 g3
          obtain ⟨f, tt, m, d, s⟩ := e
          simp only at a0 a1 a2 a3 a4 g1 g2 g3
          obtain ⟨t, rfl⟩ := Int.eq_ofNat_of_zero_le g1
          have ht : t < N := by omega
          go_wp2_with fail
          refine (env23 f t m d s _).mono ?_
          rintro res w1 ⟨rfl, hg1⟩
          have HQ1 : Hid (_) := HQ.out.kept hg1
          have HB1 : Hid (Below w.heap.size w w1) := HB.out.grown hg1 (by have := HB.out.size; omega) (by simp)
          clear a0 a1 a2 a3 a4 hg1
          go_wp2_with fail
          refine (push22 HQ1.out t f m d s ht g3 (by have := PL_le (l.take k) 0; have := List.length_take_le k l; omega) (by have := PL_le (l.take k) (t + 1); have := List.length_take_le k l; omega)).mono ?_
          rintro res w2 ⟨rfl, V', hQ2, hB2⟩
          have HQ2 : Hid (_) := step_state hkl he.out ht hN hl hQ2
          have HB2 : Hid (_) := HB1.out.trans hB2
          clear hQ2 hB2 HQ1 HB1 HQ HB
          go_wp2
          go_roundw
          case rel => exact ⟨k + 1, V', by omega, by go_num, HQ2.out, HB2.out⟩
          case measure => simp [intOf]; omega
        have hkl' : k = l.length := by omega
        subst hkl'
        rw [List.take_length] at HQ
        obtain ⟨cft, hc1⟩ := HQ.out.c1
        obtain ⟨cwt, hc2⟩ := HQ.out.c2
        obtain ⟨vx, vc, hv0⟩ := own_form (HQ.out.own 0 (by omega))
        have hc0 := (HQ.out.at_ 0 (by omega)).1
        rw [hv0] at hc0
        simp only [loc] at hc0
        have HV0 : Hid (V 0 = .slice vx (PL l 0).length vc) := hv0
        clear hv0
        go_wp2_with fail
        refine (fields24 q _ _ _ _ _ hc0 hc1 hc2 HQ.out.c3).mono ?_
        rintro res w1 ⟨rfl, hg1⟩
        have HQF : Hid (Q w1 w.heap.size q ft wt N V (PL l) (CL l) (RN N l)) := HQ.out.kept hg1
        have HBF : Hid (Below w.heap.size w w1) := HB.out.grown hg1 (by have := HB.out.size; omega) (by simp)
        have hwz : w.heap.size ≤ w1.heap.size := HBF.out.size
        clear hc0 hc1 hc2 hg1 HQ HB
        have mk1 := fun w => run_make_row' (P := Trym.prog) 42 3 (.int .i64 0) 8 Trym.underlying42 info3 rfl .i64 .i64 N (by omega) (by omega) w
        go_wp2
        clear mk1
        go_loopw [14, 15] (fun j i wr => ∃ k : Nat, k ≤ l.length ∧ i = .int .i64 k ∧ j = .int .i64 (PL (l.take k) 0).length ∧ Nums wr w1.heap.size N (CL (l.take k)) ∧ Nums wr (w1.heap.size + 1) N (fun p => ((PL (l.take k) (p + 1)).length : Int)) ∧ w1.grownBy wr none ∧ w1.heap.size + 1 < wr.heap.size) (fun _ i _ => l.length - (intOf i).toNat)
        case atStart => exact ⟨0, by omega, rfl, by simp [PL], (Nums_made w1 N).1, (Nums_made w1 N).2, gb_alloc (gb_alloc (gb_refl _ _) _) _, by simp⟩
        case round =>
          obtain ⟨k, hk, rfl, rfl, hN1, hN2, hgr, hsz⟩ := hrel
          have HN1 : Hid (Nums wr w1.heap.size N (CL (l.take k))) := hN1
          have HN2 : Hid (Nums wr (w1.heap.size + 1) N (fun p => ((PL (l.take k) (p + 1)).length : Int))) := hN2
          have HGR : Hid (w1.grownBy wr none) := hgr
          clear hN1 hN2 hgr
          by_cases hkl : k < l.length
          · have hak := HA.out (by omega)
            subst hak
            obtain ⟨a0, a1, a2, a3, a4⟩ := (HE.out k hkl).below (HBF.out.grown HGR.out hwz (by simp)) (HBL.out (by omega))
            obtain ⟨g1, g2⟩ := HG.out k hkl
            obtain ⟨e, he⟩ : ∃ e, Hid (l[k] = e) := ⟨l[k], (rfl : l[k] = l[k])⟩
            rw [he.out] at a0 a1 a2 a3 a4 g1 g2
            obtain ⟨f, tt, m, d, s⟩ := e
            simp only at a0 a1 a2 a3 a4 g1 g2
            obtain ⟨t, rfl⟩ := Int.eq_ofNat_of_zero_le g1
            have ht : t < N := by omega
            have HSQ : Hid (Q wr w.heap.size q ft wt N V (PL l) (CL l) (RN N l)) := HQF.out.kept HGR.out
            have b1 := PL_le (l.take k) 0
            have b2 := PL_le (l.take k) (t + 1)
            have b3 := List.length_take_le k l
            have b4 : CL (l.take k) t ≤ 26214 ∧ 0 ≤ CL (l.take k) t := by have := CN_le (l.take k) t; unfold CL; omega
            by_cases hw : wts t s = true
            · obtain ⟨g, cp, hwc, hat, hclt⟩ := find_w HSQ.out hkl he.out ht hw
              obtain ⟨hn2, hf2⟩ := HN2.out t ht
              obtain ⟨x0, x1, x2, x3, x4⟩ := hat
              simp only at hn2 x0 x1 x2 x3 x4
              generalize hcc : (PL (l.take k) (t + 1)).length = c at hn2 x0 x1 x2 x3 x4 hclt b2
              have HCC : Hid ((PL (l.take k) (t + 1)).length = c) := hcc
              clear hcc
              have lwt := HSQ.out.lwt
              have lg : g < wr.heap.size := World.block_lt_of_cell? wr ⟨g, _, none⟩ x0
              go_wp2_with (go_at_call 25; refine (b1waits_yes t s _ g1 hw).mono ?_; rintro res w' ⟨rfl, hw'⟩; have hw2 := hw'.symm; clear hw'; subst hw2)
              have LL := PL_le l (t + 1)
              generalize (PL l (t + 1)).length = L at hwc hclt LL
              have hdec : decide ((L : Int) ≤ (c : Int)) = false := decide_eq_false (by omega)
              have hdec' : decide (L ≤ c) = false := decide_eq_false (by omega)
              have j1 : (0 : Int) ≤ (c : Int) := by omega
              have j2 : (c : Int) < (L : Int) := by omega
              have g2' : (t : Int) < (N : Int) := g2
              go_region_held3 (fun w' => w'.cell? ⟨wr.heap.size, 0, none⟩ = some (.int .i64 f) ∧ w'.cell? ⟨wr.heap.size, 1, none⟩ = some (.int .i64 t) ∧ w'.cell? ⟨wr.heap.size, 2, none⟩ = some (.int .i64 m) ∧ w'.cell? ⟨wr.heap.size, 3, none⟩ = some (.int .i64 d) ∧ w'.cell? ⟨wr.heap.size, 4, none⟩ = some (.int .i8 s) ∧ w'.cell? ⟨wt, t, none⟩ = some (.slice (some ⟨g, 0, none⟩) L cp) ∧ w'.cell? ⟨g, c * 5, none⟩ = some (.int .i64 f) ∧ w'.cell? ⟨g, c * 5 + 1, none⟩ = some (.int .i64 t) ∧ w'.cell? ⟨g, c * 5 + 2, none⟩ = some (.int .i64 m) ∧ w'.cell? ⟨g, c * 5 + 3, none⟩ = some (.int .i64 d) ∧ w'.cell? ⟨g, c * 5 + 4, none⟩ = some (.int .i8 s))
                (first | go_keep | (go_split_ands; refine ⟨?_, ?_, ?_, ?_, ?_, ?_, ?_, ?_, ?_, ?_, ?_⟩ <;> exact hkp _ _ (by assumption)))
                (first | (go_at_call 31; refine (same31' f t m d s _).mono ?_; rintro res w' ⟨rfl, hkp, hgs⟩))
              have GW : Hid (wr.grownBy w' none) := gb_trans (gb_drew (gb_alloc (gb_refl _ _) _)) hgs
              have HN2' : Hid (_) := HN2.out.kept GW.out (by simp)
              obtain ⟨hm2, hg2⟩ := HN2'.out t ht
              simp only at hm2
              rw [HCC.out] at hm2
              have hbt : w'.cell? ⟨wr.heap.size, 1, none⟩ = some (.int .i64 t) := hkp _ _ (by simp [go_sem])
              clear hkp hgs x0 x1 x2 x3 x4 hwc hn2 hf2 a0 a1 a2 a3 a4
              go_wp2
              have NX := nxt_w hkl he.out hw
              have GS := gb_set w' ⟨w1.heap.size + 1, t, none⟩ (.int .i64 ((c : Int) + 1))
              go_roundw
              case rel =>
                refine ⟨k + 1, by omega, by go_num, by rw [NX.2.2], ?_, ?_, gb_setCell_new (gb_trans HGR.out GW.out) (by omega) _ _ _, ?_⟩
                · rw [NX.2.1]; exact (HN1.out.kept GW.out (by simp)).kept GS (by simp)
                · rw [NX.1, HCC.out]; exact Nums.stored HN2'.out t _
                · have := GS.size; have := GW.out.size; omega
              case measure => simp [intOf]; omega
            · have hw0 : wts t s = false := by simpa using hw
              obtain ⟨g, cp, hv0, hat, hclt⟩ := find_f HSQ.out hkl he.out hw0
              have hvx : vx = some ⟨g, 0, none⟩ := by have := HV0.out.symm.trans hv0; injection this
              subst hvx
              obtain ⟨x0, x1, x2, x3, x4⟩ := hat
              simp only at x0 x1 x2 x3 x4
              generalize hcc : (PL (l.take k) 0).length = c at x0 x1 x2 x3 x4 hclt b1 ⊢
              have HCC : Hid ((PL (l.take k) 0).length = c) := hcc
              clear hcc
              have lg : g < wr.heap.size := World.block_lt_of_cell? wr ⟨g, _, none⟩ x0
              have LL := PL_le l 0
              have hdec' : decide ((PL l 0).length ≤ c) = false := decide_eq_false (by omega)
              have j1 : (0 : Int) ≤ (c : Int) := by omega
              have j2 : (c : Int) < ((PL l 0).length : Int) := by omega
              have g2' : (t : Int) < (N : Int) := g2
              go_wp2_with (go_at_call 25; refine (b1waits_no t s _ g1 hw0).mono ?_; rintro res w' ⟨rfl, hw'⟩; have hw2 := hw'.symm; clear hw'; subst hw2)
              go_region_held3 (fun w' => w'.cell? ⟨wr.heap.size, 0, none⟩ = some (.int .i64 f) ∧ w'.cell? ⟨wr.heap.size, 1, none⟩ = some (.int .i64 t) ∧ w'.cell? ⟨wr.heap.size, 2, none⟩ = some (.int .i64 m) ∧ w'.cell? ⟨wr.heap.size, 3, none⟩ = some (.int .i64 d) ∧ w'.cell? ⟨wr.heap.size, 4, none⟩ = some (.int .i8 s) ∧ w'.cell? ⟨g, c * 5, none⟩ = some (.int .i64 f) ∧ w'.cell? ⟨g, c * 5 + 1, none⟩ = some (.int .i64 t) ∧ w'.cell? ⟨g, c * 5 + 2, none⟩ = some (.int .i64 m) ∧ w'.cell? ⟨g, c * 5 + 3, none⟩ = some (.int .i64 d) ∧ w'.cell? ⟨g, c * 5 + 4, none⟩ = some (.int .i8 s))
                (first | go_keep | (go_split_ands; refine ⟨?_, ?_, ?_, ?_, ?_, ?_, ?_, ?_, ?_, ?_⟩ <;> exact hkp _ _ (by assumption)))
                (first | (go_at_call 31; refine (same31' f t m d s _).mono ?_; rintro res w' ⟨rfl, hkp, hgs⟩))
              have GW : Hid (wr.grownBy w' none) := gb_trans (gb_drew (gb_alloc (gb_refl _ _) _)) hgs
              have HN1' : Hid (_) := HN1.out.kept GW.out (by simp)
              obtain ⟨hm1, hg1⟩ := HN1'.out t ht
              have hbt : w'.cell? ⟨wr.heap.size, 1, none⟩ = some (.int .i64 t) := hkp _ _ (by simp [go_sem])
              clear hkp hgs x0 x1 x2 x3 x4 a0 a1 a2 a3 a4
              go_wp2
              go_region
              all_goals go_wp2
              all_goals
                have NX := nxt_f hkl he.out hw0
                have GS := gb_set w' ⟨w1.heap.size, t, none⟩ (.int .i64 (CL (l.take k) t + 1))
                go_roundw
                case rel =>
                  refine ⟨k + 1, by omega, by go_num, by rw [NX.2.2, HCC.out]; go_num, ?_, ?_, gb_drew (gb_setCell_new (gb_trans HGR.out GW.out) (Nat.le_refl _) _ _ _), ?_⟩
                  · rw [NX.2.1]; exact Nums.stored HN1'.out t _
                  · rw [NX.1]; exact (HN2.out.kept GW.out (by simp)).kept (gb_drew GS) (by simp)
                  · have := GS.size; have := GW.out.size; show _ < (w'.setCell ⟨w1.heap.size, t, none⟩ (.int .i64 (CL (l.take k) t + 1))).heap.size; omega
                case measure => simp [intOf]; omega
          have hkl' : k = l.length := by omega
          subst hkl'
          rw [List.take_length] at HN1 HN2
          obtain ⟨wB, rfl⟩ : ∃ wB, wB = wr := ⟨wr, rfl⟩
          have HSB : Hid (Q wB w.heap.size q ft wt N V (PL l) (CL l) (RN N l)) := HQF.out.kept HGR.out
          have HBB : Hid (Below w.heap.size w wB) := HBF.out.grown HGR.out hwz (by simp)
          clear HGR HQF HBF
          go_wp2
          go_loopw [18, 19] (fun v i wr => ∃ k : Nat, k ≤ N ∧ i = .int .i64 k ∧ v = .int .i64 (RN k l) ∧ wB.grownBy wr none) (fun _ i _ => N - (intOf i).toNat)
          case atStart => exact ⟨0, by omega, rfl, rfl, gb_refl _ _⟩
          case round =>
            obtain ⟨k, hk, rfl, rfl, hgr⟩ := hrel
            have HGR : Hid (wB.grownBy wr none) := hgr
            by_cases hkN : k < N
            · have hr := RN_le k l
              have hr' : k * l.length ≤ 65536 * 26214 := Nat.mul_le_mul (by omega) hl
              have n1 := ((HN1.out.kept hgr (by simp)) k hkN).1
              have n2 := ((HN2.out.kept hgr (by simp)) k hkN).1
              have n3 := ((HSB.out.kept hgr).nums k hkN).1
              have n4 := ((HSB.out.kept hgr).at_ (k + 1) (by omega)).1
              obtain ⟨px, pc, hpv⟩ := own_form (HSB.out.own (k + 1) (by omega))
              rw [hpv] at n4
              simp only [loc] at n4
              have hsucc : RN (k + 1) l = RN k l + term l k := rfl
              have HSU : Hid (RN (k + 1) l = RN k l + term l k) := hsucc
              have hle := PL_le l (k + 1)
              have HPW : Hid ((PL l (k + 1)).length = (l.filter (isW k)).length) := by show _ = _; simp [PL]
              generalize (PL l (k + 1)).length = W at n2 n4 hle HPW
              have i1 : (0 : Int) ≤ (k : Int) := by omega
              have i2 : (k : Int) < (N : Int) := by omega
              clear hgr hpv hsucc
              by_cases hz : CL l k = 0
              · have hzb : (CL l k == 0) = true := by simpa using hz
                have HT : Hid (RN (k + 1) l = RN k l + W) := by show _ = _; rw [HSU.out]; unfold term; rw [if_pos (by unfold CL at hz; omega), HPW.out]
                clear hz
                go_wp2
                go_quiet (fail)
                go_wp2
                go_roundw
                case rel => exact ⟨k + 1, by omega, by go_num, by rw [HT.out]; go_num, gb_drewN HGR.out _⟩
                case measure => simp [intOf]; omega
              · have hzb : (CL l k == 0) = false := by simpa using hz
                have HT : Hid (RN (k + 1) l = RN k l) := by show _ = _; rw [HSU.out]; unfold term; rw [if_neg (by unfold CL at hz; omega)]; rfl
                clear hz
                go_wp2
                go_quiet (fail)
                go_wp2
                go_roundw
                case rel => exact ⟨k + 1, by omega, by go_num, by rw [HT.out], gb_drewN HGR.out _⟩
                case measure => simp [intOf]; omega
            have hkN' : k = N := by omega
            subst hkN'
            clear hgr
            go_wp2
            go_ret
            exact ⟨rfl, HBB.out.grown HGR.out HBB.out.size (by simp)⟩
end Go.Proofs.Qxb6602655aMods
