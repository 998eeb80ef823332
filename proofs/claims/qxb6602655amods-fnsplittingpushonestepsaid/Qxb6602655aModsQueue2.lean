/-
  The state of a *splitting in memory that the call itself made: its four fields, freeTo's numbers, the pools (0: free; p + 1: waiting[p]), each a row; freeTo and waiting may differ in length (M, N); each a row of its own; what a push onto one pool, a store into freeTo, a store into released make of it. No Go text in sight.
-/
import Derived.Test.Qxb6602655aModsPool
namespace Go.Proofs.Qxb6602655aMods
open Go.RowKit
set_option linter.unusedSimpArgs false

def upd {α : Type} (f : Nat → α) (i : Nat) (x : α) : Nat → α := fun j => if j = i then x else f j
theorem upd_same {α : Type} (f : Nat → α) (i : Nat) (x : α) : upd f i x i = x := by simp [upd]
theorem upd_other {α : Type} (f : Nat → α) {i j : Nat} (x : α) (h : j ≠ i) : upd f i x j = f j := by simp [upd, h]

/-- Where pool i's slice lies. -/
def loc (q wt : Nat) : Nat → Addr
  | 0 => ⟨q, 0, none⟩
  | p + 1 => ⟨wt, p, none⟩

structure Q (w : World) (base q ft wt M N : Nat) (V : Nat → Value) (pools : Nat → List E) (cf : Nat → Int) (r : Int) : Prop where
  c1 : ∃ c, w.cell? ⟨q, 1, none⟩ = some (.slice (some ⟨ft, 0, none⟩) M c)
  c2 : ∃ c, w.cell? ⟨q, 2, none⟩ = some (.slice (some ⟨wt, 0, none⟩) N c)
  c3 : w.cell? ⟨q, 3, none⟩ = some (.int .i64 r)
  f3 : w.frozen? ⟨q, 3, none⟩ = false
  nums : ∀ p, p < M → w.cell? ⟨ft, p, none⟩ = some (.int .i64 (cf p)) ∧ w.frozen? ⟨ft, p, none⟩ = false
  at_ : ∀ i, i ≤ N → w.cell? (loc q wt i) = some (V i) ∧ w.frozen? (loc q wt i) = false
  own : ∀ i, i ≤ N → w.ownsRow base 67 5 (V i) (pools i).length (rows (pools i))
  sep : ∀ i j, i ≤ N → j ≤ N → i ≠ j → (V i).ownBlock = none ∨ (V i).ownBlock ≠ (V j).ownBlock
  nq : ∀ i, i ≤ N → some q ≠ (V i).ownBlock
  nft : ∀ i, i ≤ N → some ft ≠ (V i).ownBlock
  nwt : ∀ i, i ≤ N → some wt ≠ (V i).ownBlock
  d1 : q ≠ ft
  d2 : q ≠ wt
  d3 : ft ≠ wt
  bq : base ≤ q
  bft : base ≤ ft
  bwt : base ≤ wt
  lft : ft < w.heap.size
  lwt : wt < w.heap.size

section
variable {w w' : World} {base q ft wt M N : Nat} {V : Nat → Value} {pools : Nat → List E} {cf : Nat → Int} {r : Int}

theorem Q.lq (S : Q w base q ft wt M N V pools cf r) : q < w.heap.size := World.block_lt_of_cell? w ⟨q, 3, none⟩ S.c3
theorem Q.lbase (S : Q w base q ft wt M N V pools cf r) : base ≤ w.heap.size := by have := S.lq; have := S.bq; omega
theorem loc_block (q wt i : Nat) : (loc q wt i).block = q ∨ (loc q wt i).block = wt := by cases i <;> simp [loc]
theorem loc_ne {q wt i j : Nat} (h : q ≠ wt) (hij : i ≠ j) : loc q wt i ≠ loc q wt j := by
  cases i with
  | zero =>
    cases j with
    | zero => exact absurd rfl hij
    | succ j => intro e; simp [loc] at e; exact h e.1
  | succ i =>
    cases j with
    | zero => intro e; simp [loc] at e; exact h e.1.symm
    | succ j => intro e; simp [loc] at e; omega

/-- New blocks and draws turn nothing of it. -/
theorem Q.kept (S : Q w base q ft wt M N V pools cf r) (g : w.grownBy w' none) : Q w' base q ft wt M N V pools cf r := by
  have hc : ∀ {a : Addr} {v : Value}, w.cell? a = some v → w'.cell? a = some v := fun h => g.cell h (by simp)
  have hf : ∀ {a : Addr}, a.block < w.heap.size → w.frozen? a = false → w'.frozen? a = false := fun hb h => (World.frozen?_of_block (w := w) (g.block _ hb (by simp))).trans h
  have hl := g.size
  have lq := S.lq
  exact { c1 := S.c1.imp fun _ h => hc h, c2 := S.c2.imp fun _ h => hc h, c3 := hc S.c3, f3 := hf lq S.f3, nums := fun p hp => ⟨hc (S.nums p hp).1, hf S.lft (S.nums p hp).2⟩,
          at_ := fun i hi => ⟨hc (S.at_ i hi).1, hf (World.block_lt_of_cell? w _ (S.at_ i hi).1) (S.at_ i hi).2⟩,
          own := fun i hi => (S.own i hi).kept g (by cases (V i).ownBlock <;> simp), sep := S.sep, nq := S.nq, nft := S.nft, nwt := S.nwt, d1 := S.d1, d2 := S.d2, d3 := S.d3, bq := S.bq, bft := S.bft, bwt := S.bwt,
          lft := by have := S.lft; omega, lwt := by have := S.lwt; omega }

theorem gb_set (w : World) (a : Addr) (u : Value) : w.grownBy (w.setCell a u) (some a.block) := by
  obtain ⟨b, o, s⟩ := a
  exact gb_setCell (gb_refl _ _) _ _ _

/-- A push onto pool i. -/
theorem Q.pushed (S : Q w base q ft wt M N V pools cf r) {i : Nat} (hi : i ≤ N) (e : E) (hP : Pushed (loc q wt i).block (loc q wt i).off (V i) (pools i).length base (rows (pools i)) e w w') :
    ∃ v, Q w' base q ft wt M N (upd V i v) (upd pools i (pools i ++ [e])) cf r ∧ Below base w w' := by
  obtain ⟨g, cap, w1, hw', hg, hown, hat⟩ := hP
  have ea : (⟨(loc q wt i).block, (loc q wt i).off, none⟩ : Addr) = loc q wt i := by cases i <;> rfl
  rw [ea] at hw'
  obtain ⟨nv, hnv⟩ : ∃ nv, nv = Value.slice (some ⟨g, 0, none⟩) ((pools i).length + 1) cap := ⟨_, rfl⟩
  rw [← hnv] at hw' hown
  have hob : nv.ownBlock = some g := by rw [hnv]; rfl
  have hset := gb_set w1 (loc q wt i) nv
  rw [← hw'] at hset
  have lq := S.lq
  have lwt := S.lwt
  have lft := S.lft
  have hlb : (loc q wt i).block < w.heap.size := by rcases loc_block q wt i with e | e <;> omega
  -- the row's block
  have gq : g ≠ q := by rcases hat with h | h
                        · intro e; exact S.nq i hi (by rw [h, e])
                        · omega
  have gft : g ≠ ft := by rcases hat with h | h
                          · intro e; exact S.nft i hi (by rw [h, e])
                          · omega
  have gwt : g ≠ wt := by rcases hat with h | h
                          · intro e; exact S.nwt i hi (by rw [h, e])
                          · omega
  have gl : g ≠ (loc q wt i).block := by rcases loc_block q wt i with e | e <;> omega
  -- cells of the three blocks in w1
  have h1 : ∀ {a : Addr} {v : Value}, w.cell? a = some v → (a.block = q ∨ a.block = ft ∨ a.block = wt) → w1.cell? a = some v := by
    intro a v h hb
    refine hg.cell h ?_
    rcases hb with e | e | e <;> rw [e]
    · exact S.nq i hi
    · exact S.nft i hi
    · exact S.nwt i hi
  have f1 : ∀ {a : Addr}, w.frozen? a = false → (a.block = q ∨ a.block = ft ∨ a.block = wt) → w'.frozen? a = false := by
    intro a h hb
    rw [hw', World.frozen?_setCell]
    refine (World.frozen?_of_block (w := w) (hg.block a.block ?_ ?_)).trans h
    · rcases hb with e | e | e <;> rw [e] <;> assumption
    · rcases hb with e | e | e <;> rw [e]
      · exact S.nq i hi
      · exact S.nft i hi
      · exact S.nwt i hi
  have h2 : ∀ {a : Addr} {v : Value}, w.cell? a = some v → (a.block = q ∨ a.block = ft ∨ a.block = wt) → loc q wt i ≠ a → w'.cell? a = some v := by
    intro a v h hb hne
    rw [hw', World.cell?_setCell_other _ _ _ _ hne]
    exact h1 h hb
  have ln : ∀ o, (o = 1 ∨ o = 2 ∨ o = 3) → loc q wt i ≠ ⟨q, o, none⟩ := by
    intro o ho e
    cases i with
    | zero => simp [loc] at e; omega
    | succ p => simp [loc] at e; exact S.d2 e.1.symm
  have lf : ∀ p, loc q wt i ≠ ⟨ft, p, none⟩ := by
    intro p e
    cases i with
    | zero => simp [loc] at e; exact S.d1 e.1
    | succ p => simp [loc] at e; exact S.d3 e.1.symm
  refine ⟨nv, ?_, ?_⟩
  · refine { c1 := S.c1.imp fun _ h => h2 h (.inl rfl) (ln 1 (by simp)), c2 := S.c2.imp fun _ h => h2 h (.inl rfl) (ln 2 (by simp)), c3 := h2 S.c3 (.inl rfl) (ln 3 (by simp)), f3 := f1 S.f3 (.inl rfl),
             nums := fun p hp => ⟨h2 (S.nums p hp).1 (.inr (.inl rfl)) (lf p), f1 (S.nums p hp).2 (.inr (.inl rfl))⟩, at_ := ?_, own := ?_, sep := ?_, nq := ?_, nft := ?_, nwt := ?_,
             d1 := S.d1, d2 := S.d2, d3 := S.d3, bq := S.bq, bft := S.bft, bwt := S.bwt, lft := by have := hg.size; have := hset.size; omega, lwt := by have := hg.size; have := hset.size; omega }
    · intro j hj
      have hb : (loc q wt j).block = q ∨ (loc q wt j).block = ft ∨ (loc q wt j).block = wt := by rcases loc_block q wt j with e | e <;> simp [e]
      refine ⟨?_, f1 (S.at_ j hj).2 hb⟩
      by_cases e : j = i
      · subst e
        rw [upd_same, hw']
        exact World.cell?_setCell_same _ _ _ (h1 (S.at_ j hj).1 hb)
      · rw [upd_other _ _ e]
        exact h2 (S.at_ j hj).1 hb (loc_ne S.d2 (fun h => e h.symm))
    · intro j hj
      by_cases e : j = i
      · subst e
        rw [upd_same, upd_same, rows_snoc, List.length_append, List.length_singleton]
        exact hown.kept hset (.inr (by rw [hob]; simpa using gl))
      · rw [upd_other _ _ e, upd_other _ _ e]
        refine ((S.own j hj).kept hg (S.sep j i hj hi e)).kept hset (.inr ?_)
        rcases loc_block q wt i with e | e <;> rw [e]
        · exact fun h => S.nq j hj h.symm
        · exact fun h => S.nwt j hj h.symm
    · have key : ∀ j, j ≤ N → j ≠ i → some g ≠ (V j).ownBlock := by
        intro j hj hne h
        rcases hat with h' | h'
        · rcases S.sep i j hi hj (fun e => hne e.symm) with e | e
          · rw [h'] at e; cases e
          · exact e (by rw [h', h])
        · have := ((S.own j hj).lt _ h.symm).2; omega
      intro j k hj hk hjk
      by_cases ej : j = i
      · subst ej
        rw [upd_same, upd_other _ _ (fun h => hjk h.symm), hob]
        exact .inr (key k hk (fun h => hjk h.symm))
      · rw [upd_other _ _ ej]
        by_cases ek : k = i
        · subst ek
          rw [upd_same, hob]
          exact .inr (fun h => key j hj ej h.symm)
        · rw [upd_other _ _ ek]
          exact S.sep j k hj hk hjk
    · intro j hj
      by_cases e : j = i
      · subst e; rw [upd_same, hob]; simpa using gq.symm
      · rw [upd_other _ _ e]; exact S.nq j hj
    · intro j hj
      by_cases e : j = i
      · subst e; rw [upd_same, hob]; simpa using gft.symm
      · rw [upd_other _ _ e]; exact S.nft j hj
    · intro j hj
      by_cases e : j = i
      · subst e; rw [upd_same, hob]; simpa using gwt.symm
      · rw [upd_other _ _ e]; exact S.nwt j hj
  · have b1 : Below base w w1 := (Below.refl _ _).grown hg S.lbase (fun k hk => ((S.own i hi).lt k hk).1)
    exact b1.grown hset (by have := hg.size; have := S.lbase; omega) (fun k hk => by
      have : (loc q wt i).block = k := by simpa using hk
      have b1 := S.bq
      have b2 := S.bwt
      rcases loc_block q wt i with e | e <;> omega)

/-- A store into released. -/
theorem Q.setR (S : Q w base q ft wt M N V pools cf r) (r' : Int) : Q (w.setCell ⟨q, 3, none⟩ (.int .i64 r')) base q ft wt M N V pools cf r' ∧ Below base w (w.setCell ⟨q, 3, none⟩ (.int .i64 r')) := by
  have hset := gb_set w ⟨q, 3, none⟩ (.int .i64 r')
  have f1 : ∀ {a : Addr}, w.frozen? a = false → (w.setCell ⟨q, 3, none⟩ (.int .i64 r')).frozen? a = false := by
    intro a h; rw [World.frozen?_setCell]; exact h
  have h2 : ∀ {a : Addr} {v : Value}, w.cell? a = some v → (⟨q, 3, none⟩ : Addr) ≠ a → (w.setCell ⟨q, 3, none⟩ (.int .i64 r')).cell? a = some v := by
    intro a v h hne
    rw [World.cell?_setCell_other _ _ _ _ hne]; exact h
  have hs := hset.size
  refine ⟨{ c1 := S.c1.imp fun _ h => h2 h (by simp), c2 := S.c2.imp fun _ h => h2 h (by simp), c3 := World.cell?_setCell_same _ _ _ S.c3, f3 := f1 S.f3,
            nums := fun p hp => ⟨h2 (S.nums p hp).1 (by intro e; injection e with e1; exact S.d1 e1), f1 (S.nums p hp).2⟩,
            at_ := fun i hi => ⟨h2 (S.at_ i hi).1 (by cases i with | zero => simp [loc] | succ p => (intro e; injection e with e1; exact S.d2 e1)), f1 (S.at_ i hi).2⟩,
            own := fun i hi => (S.own i hi).kept hset (.inr (fun h => S.nq i hi h.symm)), sep := S.sep, nq := S.nq, nft := S.nft, nwt := S.nwt, d1 := S.d1, d2 := S.d2, d3 := S.d3, bq := S.bq, bft := S.bft, bwt := S.bwt,
            lft := by have := S.lft; omega, lwt := by have := S.lwt; omega }, (Below.refl _ _).setCell S.bq _⟩

/-- A store into freeTo. -/
theorem Q.setN (S : Q w base q ft wt M N V pools cf r) (p : Nat) (hp : p < M) (x : Int) : Q (w.setCell ⟨ft, p, none⟩ (.int .i64 x)) base q ft wt M N V pools (upd cf p x) r ∧ Below base w (w.setCell ⟨ft, p, none⟩ (.int .i64 x)) := by
  have hset := gb_set w ⟨ft, p, none⟩ (.int .i64 x)
  have f1 : ∀ {a : Addr}, w.frozen? a = false → (w.setCell ⟨ft, p, none⟩ (.int .i64 x)).frozen? a = false := by
    intro a h; rw [World.frozen?_setCell]; exact h
  have h2 : ∀ {a : Addr} {v : Value}, w.cell? a = some v → (⟨ft, p, none⟩ : Addr) ≠ a → (w.setCell ⟨ft, p, none⟩ (.int .i64 x)).cell? a = some v := by
    intro a v h hne
    rw [World.cell?_setCell_other _ _ _ _ hne]; exact h
  have nq : ∀ o, (⟨ft, p, none⟩ : Addr) ≠ ⟨q, o, none⟩ := fun o e => by injection e with e1; exact S.d1 e1.symm
  have hs := hset.size
  refine ⟨{ c1 := S.c1.imp fun _ h => h2 h (nq 1), c2 := S.c2.imp fun _ h => h2 h (nq 2), c3 := h2 S.c3 (nq 3), f3 := f1 S.f3,
            nums := fun p' hp' => ⟨?_, f1 (S.nums p' hp').2⟩,
            at_ := fun i hi => ⟨h2 (S.at_ i hi).1 (by cases i with | zero => exact nq 0 | succ p => (intro e; injection e with e1; exact S.d3 e1)), f1 (S.at_ i hi).2⟩,
            own := fun i hi => (S.own i hi).kept hset (.inr (fun h => S.nft i hi h.symm)), sep := S.sep, nq := S.nq, nft := S.nft, nwt := S.nwt, d1 := S.d1, d2 := S.d2, d3 := S.d3, bq := S.bq, bft := S.bft, bwt := S.bwt,
            lft := by have := S.lft; omega, lwt := by have := S.lwt; omega }, (Below.refl _ _).setCell S.bft _⟩
  by_cases e : p' = p
  · subst e; rw [upd_same]; exact World.cell?_setCell_same _ _ _ (S.nums p' hp').1
  · rw [upd_other _ _ e]; exact h2 (S.nums p' hp').1 (by intro h; injection h with _ h2; exact e h2.symm)
end
end Go.Proofs.Qxb6602655aMods
