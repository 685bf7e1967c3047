/-
  joinClasses: what it leaves.
-/
import Derived.Test.YbulkatiqPut
namespace Go.Proofs.Ybulkatiq
open Go.ChangeShapes Go.WideShapes Go.ChangeAt Go.RowKit Go.Maps Go.WideMaps

/-- A row of pairs behind a slice. -/
def PairsAt (w : World) (v : Value) (fr : List (Nat × Nat)) : Prop := ∃ b cap cur, v = .slice (some ⟨b, 0, none⟩) fr.length cap ∧ w.heap[b]? = some (.cells cur 75 (0, 0)) ∧ ∀ i p, fr[i]? = some p → w.cell? ⟨b, i * 2, none⟩ = some (.int .i32 (p.1 : Nat)) ∧ w.cell? ⟨b, i * 2 + 1, none⟩ = some (.int .i32 (p.2 : Nat))

theorem PairsAt.below {w w' : World} {v : Value} {fr : List (Nat × Nat)} (h : PairsAt w v fr) (hb : Below w.heap.size w w') : PairsAt w' v fr := by
  obtain ⟨b, cap, cur, hv, hk, h⟩ := h
  exact ⟨b, cap, cur, hv, (hb.block b (lt_of_block hk)).trans hk, fun i p hp => ⟨(hb.cell (block_lt_of_cell (h i p hp).1)).trans (h i p hp).1, (hb.cell (block_lt_of_cell (h i p hp).2)).trans (h i p hp).2⟩⟩

theorem pairs_own {w : World} {base : Nat} {v : Value} {fr : List (Nat × Nat)} (h : w.ownsRow base 75 2 v fr.length (cellsP fr)) (hpos : 0 < fr.length) : PairsAt w v fr := by
  rcases h.2 with ⟨_, h1⟩ | ⟨g, cap, cur, rfl, _, hgg, _⟩
  · omega
  · have hc := fun j hj => h.cellAt j hj
    refine ⟨g, cap, cur, rfl, hgg, fun i p hp => ?_⟩
    have hi := (List.getElem?_eq_some_iff.1 hp).1
    obtain ⟨e1, e2⟩ := cellsP_get hp
    exact ⟨(hc (i * 2) (by omega)).trans e1, (hc (i * 2 + 1) (by omega)).trans e2⟩

/-- The map of the pairs: nil where one side has but one class. -/
def AtMap (w : World) (a : Value) (fr : List (Nat × Nat)) (n m : Nat) : Prop := (a = .map none ∧ (n = 1 ∨ m = 1)) ∨ ∃ b N D, a = .map (some b) ∧ w.ownsMap Yba.prog 75 (plainElem (H := Unit) Yba.prog 21) b N D ∧ NumAt D fr

theorem AtMap.below {w w' : World} {a : Value} {fr : List (Nat × Nat)} {n m : Nat} (h : AtMap w a fr n m) (hb : Below w.heap.size w w') : AtMap w' a fr n m := by
  rcases h with h1 | ⟨b, N, D, rfl, ho, hd⟩
  · exact .inl h1
  · exact .inr ⟨b, N, D, rfl, ho.kept (Below.grownBy hb none) (by simp), hd⟩

/-- What joinClasses leaves. -/
def JPost (w : World) (n m : Nat) (of1 of2 : ByteArray → Nat) (e : Ending) (w' : World) : Prop :=
  ∃ (mv v a : Value) (fr : List (Nat × Nat)) (j : ByteArray → Nat), e = .returned (.tuple #[.agg #[mv, .int .i32 (fr.length : Nat)], v, a]) ∧ ClsB 8 w' mv fr.length j ∧ PairsAt w' v fr ∧ AtMap w' a fr n m ∧ (∀ s, fr[j s]? = some (of1 s, of2 s)) ∧ (∀ (i k l : Nat), fr[i]? = some (k, l) → k < n ∧ l < m) ∧ 1 ≤ fr.length ∧ fr.length ≤ 9 ∧ Below w.heap.size w w'

/-- The boxes of the two partitions and of the result. -/
structure JB (w wr : World) (v1 v2 : Value) (n m base : Nat) : Prop where
  bel : Below w.heap.size w wr
  b2 : wr.heap[w.heap.size]? = some (.cells #[v1, .int .i32 (n : Nat)] 45 (0, 0))
  b3 : wr.heap[w.heap.size + 1]? = some (.cells #[v2, .int .i32 (m : Nat)] 45 (0, 0))
  b4 : wr.heap[w.heap.size + 1 + 1]? = some (.cells #[.map none, .int .i32 0] 45 (0, 0))
  hb : w.heap.size + 3 ≤ base

theorem JB.fr {w wr wx : World} {v1 v2 : Value} {n m base : Nat} (h : JB w wr v1 v2 n m base) (hf : Below base wr wx) : JB w wx v1 v2 n m base := by
  have := h.hb
  exact ⟨h.bel.trans (hf.mono (by omega)), (hf.block _ (by omega)).trans h.b2, (hf.block _ (by omega)).trans h.b3, (hf.block _ (by omega)).trans h.b4, h.hb⟩

/-- The row 'from' while it grows. -/
structure FA (wr : World) (base fx : Nat) (v : Value) (fr : List (Nat × Nat)) : Prop where
  vf : wr.heap[fx]? = some (.cells #[v] 66 (0, 0))
  own : wr.ownsRow base 75 2 v fr.length (cellsP fr)
  far : base ≤ fx ∧ base ≤ wr.heap.size

theorem FA.below {wr wx : World} {base fx : Nat} {v : Value} {fr : List (Nat × Nat)} (h : FA wr base fx v fr) (hb : Below wr.heap.size wr wx) : FA wx base fx v fr :=
  ⟨(hb.block _ (lt_of_block h.vf)).trans h.vf, h.own.kept (Below.grownBy hb none) (by cases hv : v.ownBlock <;> simp), h.far.1, Nat.le_trans h.far.2 hb.size⟩

theorem FA.app {W W' : World} {base fx : Nat} {v v' : Value} {fr fr' : List (Nat × Nat)} (h : FA W base fx v fr) (hg : W.grownBy W' v.ownBlock) (ho : W'.ownsRow base 75 2 v' fr'.length (cellsP fr')) : FA (W'.setCell ⟨fx, 0, none⟩ v') base fx v' fr' ∧ Below base W (W'.setCell ⟨fx, 0, none⟩ v') ∧ W'.heap[fx]? = some (.cells #[v] 66 (0, 0)) := by
  obtain ⟨f4, f5⟩ := h.far
  have a3 : W'.heap[fx]? = some (.cells #[v] 66 (0, 0)) := (hg.block fx (lt_of_block h.vf) (fun e => own_ne_cells h.own h.vf (by decide) e.symm)).trans h.vf
  have hg2 : W'.grownBy (W'.setCell ⟨fx, 0, none⟩ v') (some fx) := grown_setCell (World.grownBy.refl W' _)
  have g := heap_setCell_same W' fx 0 _ 66 v' a3
  have hsz := hg.size
  refine ⟨⟨g, ho.kept hg2 (.inr (own_ne_cells ho a3 (by decide))), f4, Nat.le_trans (Nat.le_trans f5 hsz) hg2.size⟩, ?_, a3⟩
  exact ((Below.refl _ _).grown hg f5 (fun k hk => (h.own.lt k hk).1)).grown hg2 (Nat.le_trans f5 hsz) (fun k hk => by simp only [Option.some.injEq] at hk; omega)

theorem ranges_fr {w w' : World} {k : TypeId} {b r N base : Nat} {D : DataW Unit} {left : Lit → Bool} {cnt : Nat} (h : w.ranges Yba.prog k (plainElem (H := Unit) Yba.prog 21) b r N D left cnt) (hf : PutFr base w w') (hb : b < base) : w'.ranges Yba.prog k (plainElem (H := Unit) Yba.prog 21) b r N D left cnt := by
  obtain ⟨es, clock, since, seen, c0, h1, h2, h3, h4, h5, h6⟩ := h
  exact ⟨es, clock, since, seen, c0, (hf.bel.block b hb).trans h1, h2, h3, h4, hf.it _ _ _ _ _ h5, h6⟩

/-- What the two loops of joinClasses keep. -/
structure JL (w wr : World) (v1 v2 : Value) (n m base nx nm jx jm fx : Nat) (of1 of2 : ByteArray → Nat) (fin : ByteArray → Bool) (v : Value) (fr : List (Nat × Nat)) (Nn : Nat) (Dn : DataW Unit) (Nj : Nat) (Dj : DataW Unit) (c : Nat) : Prop where
  jb : JB w wr v1 v2 n m base
  js : JS wr base nx nm jx jm fx v fr.length fr Nn Dn Nj Dj
  at_ : NumAt Dn fr
  f0 : fr[0]? = some (0, 0)
  each : ∀ (i k l : Nat), fr[i]? = some (k, l) → k < n ∧ l < m
  con : ∀ s : ByteArray, ∃ jn : Nat, Dj.atKey (.string s.data.toList) (.lit (.int .i32 0)) = .lit (.int .i32 (jn : Nat)) ∧ fr[jn]? = some (if fin s then (of1 s, of2 s) else (0, 0))
  cnt : fr.length + c ≤ 9 ∧ Nn + c ≤ 9 ∧ Nj + c ≤ 8

theorem JL.put {w wr wp : World} {v1 v2 : Value} {n m base nx nm jx jm fx : Nat} {of1 of2 : ByteArray → Nat} {fin fin' : ByteArray → Bool} {v : Value} {fr : List (Nat × Nat)} {Nn : Nat} {Dn : DataW Unit} {Nj : Nat} {Dj : DataW Unit} {c c' : Nat} (h : JL w wr v1 v2 n m base nx nm jx jm fx of1 of2 fin v fr Nn Dn Nj Dj c) {x : ByteArray} {e : Ending}
    (hp : PutPost wr base nx nm jx jm fx fr Nn Nj Dj x (of1 x) (of2 x) e wp) (h1 : of1 x < n) (h2 : of2 x < m) (hc : c' < c) (hx0 : fin x = false) (hx1 : fin' x = true) (hfin : ∀ s, s ≠ x → fin' s = fin s) :
    e = .returned (.tuple #[]) ∧ PutFr base wr wp ∧ ∃ v' fr' Nn' Dn' Nj' Dj', JL w wp v1 v2 n m base nx nm jx jm fx of1 of2 fin' v' fr' Nn' Dn' Nj' Dj' c' := by
  obtain ⟨rfl, v', fr', i, Nn', Dn', Nj', Dj', hjs, hat, hfr, hi, hdj, hn1, hn2, hpf⟩ := hp
  obtain ⟨k1, k2, k3⟩ := h.cnt
  have hpre : ∀ j p, fr[j]? = some p → fr'[j]? = some p := fun j p hj => by
    rcases hfr with rfl | rfl
    · exact hj
    · rw [List.getElem?_append_left (List.getElem?_eq_some_iff.1 hj).1]; exact hj
  refine ⟨rfl, hpf, v', fr', Nn', Dn', Nj', Dj', h.jb.fr hpf.bel, hjs, hat, hpre _ _ h.f0, fun j k l hj => ?_, fun s => ?_, ?_⟩
  · rcases hfr with rfl | rfl
    · exact h.each j k l hj
    · rcases Nat.lt_or_ge j fr.length with hl | hl
      · rw [List.getElem?_append_left hl] at hj
        exact h.each j k l hj
      · have hl2 := (List.getElem?_eq_some_iff.1 hj).1
        simp at hl2
        have : j = fr.length := by omega
        subst this
        simp at hj
        obtain ⟨rfl, rfl⟩ := hj
        exact ⟨h1, h2⟩
  · obtain ⟨jn, hj1, hj2⟩ := h.con s
    by_cases e : s = x
    · subst e
      rw [hx1]
      rcases hdj with ⟨rfl, rfl⟩ | ⟨hi0, rfl⟩
      · refine ⟨jn, hj1, ?_⟩
        rw [hx0] at hj2
        have h3 := hpre _ _ hj2
        have h4 := hpre _ _ h.f0
        rw [hi] at h4
        rw [h3]
        exact h4.symm
      · exact ⟨i, atKey_put_same h.js.jmap.isMap (by simp [WideAt.IsKeyLit]) _ _, hi⟩
    · rw [hfin s e]
      refine ⟨jn, ?_, hpre _ _ hj2⟩
      rcases hdj with ⟨_, rfl⟩ | ⟨_, rfl⟩
      · exact hj1
      · rw [atKey_put_other (fun e' => e (ba_inj (by simpa using e')))]
        exact hj1
  · have hl : fr'.length ≤ fr.length + 1 := by rcases hfr with rfl | rfl <;> simp
    omega

/-- An entry is passed by. -/
theorem JL.skip {w wr wx : World} {r : Nat} {v1 v2 : Value} {n m base nx nm jx jm fx : Nat} {of1 of2 : ByteArray → Nat} {fin fin' : ByteArray → Bool} {v : Value} {fr : List (Nat × Nat)} {Nn : Nat} {Dn : DataW Unit} {Nj : Nat} {Dj : DataW Unit} {c c' : Nat} (h : JL w wr v1 v2 n m base nx nm jx jm fx of1 of2 fin v fr Nn Dn Nj Dj c) (hfin : ∀ s, fin' s = fin s) (hc : c' ≤ c) (hg : wr.grownBy wx (some r)) (hr : base ≤ r) (hit : ∃ a b c d, wr.heap[r]? = some (Obj.mapIter a b c d)) : JL w wx v1 v2 n m base nx nm jx jm fx of1 of2 fin' v fr Nn Dn Nj Dj c' := by
  obtain ⟨k1, k2, k3⟩ := h.cnt
  obtain ⟨a, b, c3, d, hit⟩ := hit
  have hne : ∀ q cs t f, wr.heap[q]? = some (.cells cs t f) → q ≠ r := fun q cs t f hq e => by rw [e, hit] at hq; cases hq
  have hnm : ∀ q es c, wr.heap[q]? = some (.map es c) → q ≠ r := fun q es c hq e => by rw [e, hit] at hq; cases hq
  obtain ⟨o1, o2, o3, o4, o5, o6, o7⟩ := h.js.other hg
  obtain ⟨es, ec, hm⟩ := mapBlk h.js.num
  obtain ⟨es2, ec2, hm2⟩ := mapBlk h.js.jmap
  obtain ⟨f1, f2, f3, f4, f5⟩ := h.js.far
  have hown : v.ownBlock ≠ some r := fun e => by
    rcases h.js.own.2 with ⟨rfl, _⟩ | ⟨g, cap, cur, rfl, _, hgg, _⟩
    · cases e
    · simp only [Value.ownBlock, Option.some.injEq] at e
      rw [e, hit] at hgg
      cases hgg
  exact ⟨h.jb.fr ((Below.refl _ _).grown hg f5 (fun k hk => by simp only [Option.some.injEq] at hk; omega)), ⟨o1 (hne _ _ _ _ h.js.vn), o2 (hne _ _ _ _ h.js.vj), o3 (hne _ _ _ _ h.js.vf), o4 hown, o5 (hnm _ _ _ hm), o6 (hnm _ _ _ hm2), h.js.ne, f1, f2, f3, f4, o7⟩, h.at_, h.f0, h.each, fun s => by rw [hfin]; exact h.con s, by omega⟩
end Go.Proofs.Ybulkatiq
