/-
  FnSplittingPushOneStep: the queue filled pool by pool. No Go text in sight; and b1ToPool (19) at whatever list; zzBytes (18).
-/
import Derived.Test.Qxb6602655aModsHelpers2
namespace Go.Proofs.Qxb6602655aMods
open Go.RowKit
set_option linter.unusedSimpArgs false

/-- The first k pools of waiting are laid; pool 0 (free) too. -/
structure Filled (w : World) (base ft wt N k : Nat) (V : Nat → Value) (pools : Nat → List E) : Prop where
  own : ∀ i, i ≤ k → w.ownsRow base 67 5 (V i) (pools i).length (rows (pools i))
  sep : ∀ i j, i ≤ k → j ≤ k → i ≠ j → (V i).ownBlock = none ∨ (V i).ownBlock ≠ (V j).ownBlock
  nft : ∀ i, i ≤ k → some ft ≠ (V i).ownBlock
  nwt : ∀ i, i ≤ k → some wt ≠ (V i).ownBlock
  cells : ∀ p, p < k → w.cell? ⟨wt, p, none⟩ = some (V (p + 1))
  there : ∀ p, p < N → (∃ v, w.cell? ⟨wt, p, none⟩ = some v) ∧ w.frozen? ⟨wt, p, none⟩ = false
  d : ft ≠ wt
  bft : base ≤ ft
  bwt : base ≤ wt
  lft : ft < w.heap.size
  lwt : wt < w.heap.size

theorem Filled.step {w w1 : World} {base ft wt N k : Nat} {V : Nat → Value} {pools : Nat → List E} {v : Value} (F : Filled w base ft wt N k V pools) (hP : PoolOf base (pools (k + 1)) w w1 v) (_hk : k < N) :
    Filled (w1.setCell ⟨wt, k, none⟩ v) base ft wt N (k + 1) (upd V (k + 1) v) pools := by
  obtain ⟨ho, hg, hfr⟩ := hP
  have hset := gb_set w1 ⟨wt, k, none⟩ v
  have hsz := hg.size
  have hss := hset.size
  have lft := F.lft
  have lwt := F.lwt
  have nv : ∀ b, b < w.heap.size → some b ≠ v.ownBlock := fun b hb h => by have := hfr b h.symm; omega
  have old : ∀ i, i ≤ k → some wt ≠ (V i).ownBlock := F.nwt
  have lt : ∀ i, i ≤ k → ∀ b, (V i).ownBlock = some b → b < w.heap.size := fun i hi b hb => ((F.own i hi).lt b hb).2
  refine { own := ?_, sep := ?_, nft := ?_, nwt := ?_, cells := ?_, there := ?_, d := F.d, bft := F.bft, bwt := F.bwt, lft := by omega, lwt := by omega }
  · intro i hi
    by_cases e : i = k + 1
    · subst e
      rw [upd_same]
      exact ho.kept hset (.inr (fun h => nv wt lwt h.symm))
    · rw [upd_other _ _ e]
      exact ((F.own i (by omega)).kept hg (by cases (V i).ownBlock <;> simp)).kept hset (.inr (fun h => old i (by omega) h.symm))
  · intro i j hi hj hij
    by_cases e : i = k + 1
    · subst e
      rw [upd_same, upd_other _ _ (fun h => hij h.symm)]
      cases hv : v.ownBlock with
      | none => exact .inl rfl
      | some b => exact .inr (fun h => by have := hfr b hv; have := lt j (by omega) b h.symm; omega)
    · rw [upd_other _ _ e]
      by_cases e' : j = k + 1
      · subst e'
        rw [upd_same]
        cases hv : (V i).ownBlock with
        | none => exact .inl rfl
        | some b => exact .inr (fun h => by have := hfr b h.symm; have := lt i (by omega) b hv; omega)
      · rw [upd_other _ _ e']
        exact F.sep i j (by omega) (by omega) hij
  · intro i hi
    by_cases e : i = k + 1
    · subst e; rw [upd_same]; exact nv ft lft
    · rw [upd_other _ _ e]; exact F.nft i (by omega)
  · intro i hi
    by_cases e : i = k + 1
    · subst e; rw [upd_same]; exact nv wt lwt
    · rw [upd_other _ _ e]; exact F.nwt i (by omega)
  · intro p hp
    by_cases e : p = k
    · subst e
      rw [upd_same]
      obtain ⟨⟨u, hu⟩, _⟩ := F.there p (by omega)
      exact World.cell?_setCell_same _ _ _ (hg.cell hu (by simp))
    · rw [upd_other _ _ (by omega), World.cell?_setCell_other _ _ _ _ (by intro h; injection h with _ h2; exact e h2.symm)]
      exact hg.cell (F.cells p (by omega)) (by simp)
  · intro p hp
    obtain ⟨⟨u, hu⟩, hf⟩ := F.there p hp
    refine ⟨cell?_setCell_some (hg.cell hu (by simp)), ?_⟩
    rw [World.frozen?_setCell]
    exact (World.frozen?_of_block (w := w) (hg.block wt lwt (by simp))).trans hf

theorem Filled.kept {w w1 : World} {base ft wt N k : Nat} {V : Nat → Value} {pools : Nat → List E} (F : Filled w base ft wt N k V pools) (g : w.grownBy w1 none) : Filled w1 base ft wt N k V pools :=
  { own := fun i hi => (F.own i hi).kept g (by cases (V i).ownBlock <;> simp), sep := F.sep, nft := F.nft, nwt := F.nwt, cells := fun p hp => g.cell (F.cells p hp) (by simp),
    there := fun p hp => ⟨(F.there p hp).1.imp fun _ h => g.cell h (by simp), (World.frozen?_of_block (w := w) (g.block wt F.lwt (by simp))).trans (F.there p hp).2⟩, d := F.d, bft := F.bft, bwt := F.bwt,
    lft := by have := F.lft; have := g.size; omega, lwt := by have := F.lwt; have := g.size; omega }

theorem made_at {z : Value} {n j : Nat} (h : j < n) : (madeCells #[z] n)[j]? = some z := by
  have hs : j < (madeCells #[z] n).size := by rw [size_madeCells]; exact h
  rw [Array.getElem?_eq_getElem hs]
  simp [madeCells, Nat.mod_one]

/-- The row of pools just made; free is there. -/
theorem Filled.first {w : World} {base ft N : Nat} {v : Value} {pools : Nat → List E} (ho : w.ownsRow base 67 5 v (pools 0).length (rows (pools 0))) (hft : some ft ≠ v.ownBlock) (bft : base ≤ ft) (lft : ft < w.heap.size) (hb : base ≤ w.heap.size) :
    Filled (w.alloc (.cells (madeCells #[.slice none 0 0] N) 59)) base ft w.heap.size N 0 (fun _ => v) pools := by
  have hh : (w.alloc (.cells (madeCells #[.slice none 0 0] N) 59)).heap[w.heap.size]? = some (.cells (madeCells #[.slice none 0 0] N) 59 (0, 0)) := heap_alloc_new w _
  refine { own := fun i hi => ?_, sep := fun i j hi hj hij => absurd (by omega) hij, nft := fun _ _ => hft, nwt := fun _ _ h => ?_, cells := fun p hp => absurd hp (by omega), there := fun p hp => ⟨⟨_, (cell_heap (o := p) hh).1.trans (made_at hp)⟩, (cell_heap hh).2⟩, d := by omega, bft := bft, bwt := hb, lft := by simp; omega, lwt := by simp }
  · have : i = 0 := by omega
    subst this; exact ho.alloc _
  · have := (ho.lt _ h.symm).2; omega

/-- The queue made of what is laid. -/
theorem Filled.toQ {w : World} {base ft wt M N : Nat} {V : Nat → Value} {pools : Nat → List E} {cf : Nat → Int} (F : Filled w base ft wt N N V pools) (hn : Nums w ft M cf) (hb : base ≤ w.heap.size) (r : Int) :
    Q (w.alloc (.cells #[V 0, .slice (some ⟨ft, 0, none⟩) M M, .slice (some ⟨wt, 0, none⟩) N N, .int .i64 r] 83)) base w.heap.size ft wt M N V pools cf r := by
  have hh : (w.alloc (.cells #[V 0, .slice (some ⟨ft, 0, none⟩) M M, .slice (some ⟨wt, 0, none⟩) N N, .int .i64 r] 83)).heap[w.heap.size]? = some (.cells #[V 0, .slice (some ⟨ft, 0, none⟩) M M, .slice (some ⟨wt, 0, none⟩) N N, .int .i64 r] 83 (0, 0)) := heap_alloc_new w _
  have g : w.grownBy (w.alloc (.cells #[V 0, .slice (some ⟨ft, 0, none⟩) M M, .slice (some ⟨wt, 0, none⟩) N N, .int .i64 r] 83)) none := gb_alloc (gb_refl _ _) _
  have F' := F.kept g
  have lft := F.lft
  have lwt := F.lwt
  exact {
    c1 := ⟨M, (cell_heap (o := 1) hh).1⟩
    c2 := ⟨N, (cell_heap (o := 2) hh).1⟩
    c3 := (cell_heap (o := 3) hh).1
    f3 := (cell_heap hh).2
    nums := fun p hp => ⟨g.cell (hn p hp).1 (by simp), (World.frozen?_of_block (w := w) (g.block ft lft (by simp))).trans (hn p hp).2⟩
    at_ := fun i hi => by
      cases i with
      | zero => exact ⟨(cell_heap (o := 0) hh).1, (cell_heap hh).2⟩
      | succ p => exact ⟨F'.cells p (by omega), (F'.there p (by omega)).2⟩
    own := F'.own
    sep := F.sep
    nq := fun i hi h => by have := ((F.own i hi).lt _ h.symm).2; omega
    nft := F.nft
    nwt := F.nwt
    d1 := by omega
    d2 := by omega
    d3 := F.d
    bq := hb
    bft := F.bft
    bwt := F.bwt
    lft := F'.lft
    lwt := F'.lwt }

/-- b1ToPool at whatever list. -/
theorem toPool (base : Nat) (ad : Option Addr) (b off cap : Nat) (l : List E) (w : World) (hbase : base ≤ w.heap.size) (hl : l.length ≤ 1048576) (had : 0 < l.length → ad = some ⟨b, off, none⟩) (hnil : ad = none → cap = 0) (hE : Envs w b off l) :
    Calls Trym.prog 19 #[.slice ad l.length cap] w fun e w' => ∃ v, e = .returned v ∧ PoolOf base l w w' v := by
  cases ad with
  | none =>
    have h0 : l = [] := by
      rcases Nat.eq_zero_or_pos l.length with h | h
      · exact List.length_eq_zero_iff.1 h
      · have := had h; cases this
    subst h0
    rw [hnil rfl]
    exact toPool_nil base w
  | some a => exact toPool_some base a b off cap l w hbase hl (fun h => Option.some.inj (had h)) hE

/-- What the law is told of waiting: N slices, each with its list. -/
structure Lists (w : World) (bw ow N : Nat) (aw : Nat → Option Addr) (cw bE oE : Nat → Nat) (wl : Nat → List E) : Prop where
  cell : ∀ p, p < N → w.cell? ⟨bw, ow + p, none⟩ = some (.slice (aw p) (wl p).length (cw p))
  addr : ∀ p, p < N → 0 < (wl p).length → aw p = some ⟨bE p, oE p, none⟩
  nil : ∀ p, p < N → aw p = none → cw p = 0
  envs : ∀ p, p < N → Envs w (bE p) (oE p) (wl p)
  short : ∀ p, p < N → (wl p).length ≤ 9223372036854775807
theorem Lists.kept {w v : World} {bw ow N : Nat} {aw : Nat → Option Addr} {cw bE oE : Nat → Nat} {wl : Nat → List E} (h : Lists w bw ow N aw cw bE oE wl) (g : w.grownBy v none) : Lists v bw ow N aw cw bE oE wl :=
  ⟨fun p hp => g.cell (h.cell p hp) (by simp), h.addr, h.nil, fun p hp => (h.envs p hp).kept g (by simp), h.short⟩

/-- It returned a bool. -/
def ABool (e : Ending) : Prop := ∃ b, e = .returned (.bool b)
set_option maxHeartbeats 1000000 in
theorem bytes18 (a0 a1 a2 : Option Addr) (n0 n1 N c0 c1 c2 bw ow : Nat) (aw : Nat → Option Addr) (cw bE oE : Nat → Nat) (wl : Nat → List E) (r ef et em ed es : Int) (w : World) (h0 : n0 ≤ 9223372036854775807) (h1 : n1 ≤ 9223372036854775807) (h2 : N ≤ 9223372036854775807)
    (hL : Lists w bw ow N aw cw bE oE wl) (had : 0 < N → a2 = some ⟨bw, ow, none⟩) :
    Calls Trym.prog 18 #[.slice a0 n0 c0, .slice a1 n1 c1, .slice a2 N c2, .int .i64 r, .agg #[.int .i64 ef, .int .i64 et, .int .i64 em, .int .i64 ed, .int .i8 es]] w fun e w' => ABool e ∧ w.grownBy w' none := by
  have HL : Hid (Lists w bw ow N aw cw bE oE wl) := hL
  have HA : Hid (0 < N → a2 = some ⟨bw, ow, none⟩) := had
  clear hL had
  by_cases hs : n0 + n1 + N ≤ 1048576
  · go_enter Trym.func18, Trym.ntmps18
    go_wp2
    go_loop [11, 12] (fun v i => ∃ (k : Nat) (s : Int), k ≤ N ∧ i = .int .i64 k ∧ v = .int .i64 s ∧ 0 ≤ s ∧ s ≤ 1048576) (fun _ i => N - (intOf i).toNat)
    case atStart => exact ⟨0, _, by omega, rfl, rfl, by omega, by omega⟩
    case round =>
      obtain ⟨k, s, hk, rfl, rfl, s1, s2⟩ := hrel
      by_cases hkN : k < N
      · have hak := HA.out (by omega)
        subst hak
        have n1 := (gb_alloc (gb_refl w none) (.cells #[.int .i64 ef, .int .i64 et, .int .i64 em, .int .i64 ed, .int .i8 es] 56)).cell (HL.out.cell k hkN) (by simp)
        have n2 := HL.out.short k hkN
        generalize (wl k).length = L at n1 n2
        by_cases hb : L ≤ 1048576
        · by_cases hb2 : s + L ≤ 1048576
          · go_wp2
            go_round
            case rel => exact ⟨k + 1, s + L, by omega, by go_num, rfl, by omega, by omega⟩
            case measure => simp [intOf]; omega
          · go_wp2
            go_ret
            exact ⟨⟨_, rfl⟩, gb_alloc (gb_refl _ _) _⟩
        · go_wp2
          go_ret
          exact ⟨⟨_, rfl⟩, gb_alloc (gb_refl _ _) _⟩
      · go_wp2
        go_ret
        exact ⟨⟨_, rfl⟩, gb_alloc (gb_refl _ _) _⟩
  · by_cases g0 : n0 ≤ 1048576
    · by_cases g1 : n1 ≤ 1048576
      · by_cases g2 : n0 + n1 ≤ 1048576
        · by_cases g3 : N ≤ 1048576
          · go_enter Trym.func18, Trym.ntmps18
            go_wp2
            go_ret
            exact ⟨⟨_, rfl⟩, gb_alloc (gb_refl _ _) _⟩
          · go_enter Trym.func18, Trym.ntmps18
            go_wp2
            go_ret
            exact ⟨⟨_, rfl⟩, gb_alloc (gb_refl _ _) _⟩
        · go_enter Trym.func18, Trym.ntmps18
          go_wp2
          go_ret
          exact ⟨⟨_, rfl⟩, gb_alloc (gb_refl _ _) _⟩
      · go_enter Trym.func18, Trym.ntmps18
        go_wp2
        go_ret
        exact ⟨⟨_, rfl⟩, gb_alloc (gb_refl _ _) _⟩
    · go_enter Trym.func18, Trym.ntmps18
      go_wp2
      go_ret
      exact ⟨⟨_, rfl⟩, gb_alloc (gb_refl _ _) _⟩
end Go.Proofs.Qxb6602655aMods
