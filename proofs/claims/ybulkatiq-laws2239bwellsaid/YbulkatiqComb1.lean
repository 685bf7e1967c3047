/-
  combine: what its memory holds.
-/
import Derived.Test.YbulkatiqRow0
namespace Go.Proofs.Ybulkatiq
open Go.ChangeShapes Go.WideShapes Go.ChangeAt Go.RowKit Go.Maps Go.WideMaps

/-- The maps stay, and the blocks of pairs and of lists. -/
structure KM (W W' : World) : Prop where
  cells : ∀ (b : Nat) (cs : Array Value) (t : TypeId), W.heap[b]? = some (.cells cs t (0, 0)) → t = 75 ∨ t = 55 → W'.heap[b]? = some (.cells cs t (0, 0))
  maps : ∀ (b : Nat) (es : Array MapEntry) (ck : Nat), W.heap[b]? = some (.map es ck) → W'.heap[b]? = some (.map es ck)

theorem KM.below {W W' : World} (hb : Below W.heap.size W W') : KM W W' := ⟨fun b _ _ h _ => (hb.block b (lt_of_block h)).trans h, fun b _ _ h => (hb.block b (lt_of_block h)).trans h⟩
theorem KM.grown {W W' : World} {q : Nat} {cs : Array Value} {t : TypeId} {f : Nat × Nat} (hg : W.grownBy W' (some q)) (hq : W.heap[q]? = some (.cells cs t f)) (h1 : t ≠ 75) (h2 : t ≠ 55) : KM W W' :=
  ⟨fun b _ t' h ht => (hg.block b (lt_of_block h) (fun e => ne_cc h hq (fun e' => by rcases ht with rfl | rfl; exact h1 e'.symm; exact h2 e'.symm) (Option.some.inj e))).trans h, fun b _ _ h => (hg.block b (lt_of_block h) (fun e => by rw [Option.some.inj e, hq] at h; cases h)).trans h⟩
theorem KM.fr2 {W W' : World} {jb mb : Nat} {cs cs' : Array Value} (hf : Fr2 jb mb W W') (hj : W.heap[jb]? = some (.cells cs 72 (0, 0))) (hm : W.heap[mb]? = some (.cells cs' 21 (0, 0))) : KM W W' :=
  ⟨fun b _ t h ht => (hf.block b (lt_of_block h) (ne_cc h hj (by rcases ht with rfl | rfl <;> decide)) (ne_cc h hm (by rcases ht with rfl | rfl <;> decide))).trans h, fun b _ _ h => (hf.block b (lt_of_block h) (fun e => by rw [e, hj] at h; cases h) (fun e => by rw [e, hm] at h; cases h)).trans h⟩

theorem cell_block {W W' : World} {b o : Nat} {v : Value} {x : Obj} (h : W.heap[b]? = some x) (h' : W'.heap[b]? = some x) (hc : W.cell? ⟨b, o, none⟩ = some v) : W'.cell? ⟨b, o, none⟩ = some v := by
  unfold World.cell? at hc ⊢
  rw [h']
  rw [h] at hc
  exact hc

theorem ClsB.km {B : Nat} {W W' : World} {v : Value} {n : Nat} {of : ByteArray → Nat} (h : ClsB B W v n of) (k : KM W W') : ClsB B W' v n of := by
  refine ⟨h.lt, ?_⟩
  rcases h.shape with h1 | ⟨b, N, D, rfl, ho, hN, hd⟩
  · exact .inl h1
  · refine .inr ⟨b, N, D, rfl, ?_, hN, hd⟩
    obtain ⟨es, clock, h1, h2⟩ := ho
    exact ⟨es, clock, k.maps _ _ _ h1, h2⟩
theorem PairsAt.km {W W' : World} {v : Value} {fr : List (Nat × Nat)} (h : PairsAt W v fr) (k : KM W W') : PairsAt W' v fr := by
  obtain ⟨b, cap, cur, hv, hk, h⟩ := h
  have hk' := k.cells _ _ _ hk (.inl rfl)
  exact ⟨b, cap, cur, hv, hk', fun i p hp => ⟨cell_block hk hk' (h i p hp).1, cell_block hk hk' (h i p hp).2⟩⟩
theorem AtMap.km {W W' : World} {a : Value} {fr : List (Nat × Nat)} {n m : Nat} (h : AtMap W a fr n m) (k : KM W W') : AtMap W' a fr n m := by
  rcases h with h1 | ⟨b, N, D, rfl, ho, hd⟩
  · exact .inl h1
  · obtain ⟨es, clock, h1, h2⟩ := ho
    exact .inr ⟨b, N, D, rfl, ⟨es, clock, k.maps _ _ _ h1, h2⟩, hd⟩
theorem DiffAt.km {W W' : World} {v : Value} {l : List (Nat × Nat)} (h : DiffAt W v l) (k : KM W W') : DiffAt W' v l := by
  obtain ⟨a, cap, hv, hc, h⟩ := h
  refine ⟨a, cap, hv, hc, ?_⟩
  rcases h with h | ⟨b, off, cur, ha, hk, hd⟩
  · exact .inl h
  · have hk' := k.cells _ _ _ hk (.inr rfl)
    exact .inr ⟨b, off, cur, ha, hk', fun i p hp => ⟨cell_block hk hk' (hd i p hp).1, cell_block hk hk' (hd i p hp).2⟩⟩

/-- What joinClasses leaves, for one side. -/
structure SideJ (W : World) (mv fv av : Value) (n m : Nat) (of1 of2 : ByteArray → Nat) (fr : List (Nat × Nat)) (j : ByteArray → Nat) : Prop where
  cls : ClsB 8 W mv fr.length j
  prs : PairsAt W fv fr
  atm : AtMap W av fr n m
  at_ : ∀ s, fr[j s]? = some (of1 s, of2 s)
  each : ∀ (i k l : Nat), fr[i]? = some (k, l) → k < n ∧ l < m
  pos : 1 ≤ fr.length
  le : fr.length ≤ 9
theorem SideJ.km {W W' : World} {mv fv av : Value} {n m : Nat} {of1 of2 : ByteArray → Nat} {fr : List (Nat × Nat)} {j : ByteArray → Nat} (h : SideJ W mv fv av n m of1 of2 fr j) (k : KM W W') : SideJ W' mv fv av n m of1 of2 fr j := ⟨h.cls.km k, h.prs.km k, h.atm.km k, h.at_, h.each, h.pos, h.le⟩
theorem SideJ.below {W W' : World} {mv fv av : Value} {n m : Nat} {of1 of2 : ByteArray → Nat} {fr : List (Nat × Nat)} {j : ByteArray → Nat} (h : SideJ W mv fv av n m of1 of2 fr j) (hb : Below W.heap.size W W') : SideJ W' mv fv av n m of1 of2 fr j := h.km (KM.below hb)
theorem JPost.side {w w' : World} {n m : Nat} {of1 of2 : ByteArray → Nat} {e : Ending} (h : JPost w n m of1 of2 e w') : ∃ (mv v a : Value) (fr : List (Nat × Nat)) (j : ByteArray → Nat), e = .returned (.tuple #[.agg #[mv, .int .i32 (fr.length : Nat)], v, a]) ∧ SideJ w' mv v a n m of1 of2 fr j ∧ Below w.heap.size w w' := by
  obtain ⟨mv, v, a, fr, j, he, h1, h2, h3, h4, h5, h6, h7, h8⟩ := h
  exact ⟨mv, v, a, fr, j, he, ⟨h1, h2, h3, h4, h5, h6, h7⟩, h8⟩

/-- The classes of the first i pairs that a class is in. -/
def ofTo (f : Nat × Nat → Nat) (fr : List (Nat × Nat)) : Nat → Nat → List Nat
  | 0, _ => []
  | i + 1, k => if f (fr.getD i (0, 0)) = k then ofTo f fr i k ++ [i] else ofTo f fr i k
theorem ofTo_mem {f : Nat × Nat → Nat} {fr : List (Nat × Nat)} {i k x : Nat} : x ∈ ofTo f fr i k ↔ x < i ∧ f (fr.getD x (0, 0)) = k := by
  induction i with
  | zero => simp [ofTo]
  | succ i ih =>
    simp only [ofTo]
    split
    · rename_i h
      rw [List.mem_append, ih, List.mem_singleton]
      constructor
      · rintro (⟨h1, h2⟩ | rfl)
        · exact ⟨by omega, h2⟩
        · exact ⟨by omega, h⟩
      · rintro ⟨h1, h2⟩
        rcases Nat.lt_or_ge x i with h3 | h3
        · exact .inl ⟨h3, h2⟩
        · exact .inr (by omega)
    · rename_i h
      rw [ih]
      constructor
      · rintro ⟨h1, h2⟩; exact ⟨by omega, h2⟩
      · rintro ⟨h1, h2⟩
        refine ⟨?_, h2⟩
        rcases Nat.lt_or_ge x i with h3 | h3
        · exact h3
        · have : x = i := by omega
          subst this
          exact absurd h2 h
theorem ofTo_len (f : Nat × Nat → Nat) (fr : List (Nat × Nat)) (i k : Nat) : (ofTo f fr i k).length ≤ i := by
  induction i with
  | zero => simp [ofTo]
  | succ i ih =>
    simp only [ofTo]
    split
    · simp; omega
    · omega
theorem ofTo_succ {f : Nat × Nat → Nat} {fr : List (Nat × Nat)} {i : Nat} {p : Nat × Nat} (h : fr[i]? = some p) : ofTo f fr (i + 1) = fun k => if k = f p then ofTo f fr i (f p) ++ [i] else ofTo f fr i k := by
  funext k
  simp only [ofTo, List.getD_eq_getElem?_getD, h, Option.getD_some]
  by_cases e : k = f p
  · subst e; simp
  · rw [if_neg (fun e' => e e'.symm), if_neg e]

theorem getD_iff {fr : List (Nat × Nat)} {x : Nat} {p : Nat × Nat} : fr[x]? = some p ↔ x < fr.length ∧ fr.getD x (0, 0) = p := by
  rw [List.getElem?_eq_some_iff, List.getD_eq_getElem?_getD]
  constructor
  · rintro ⟨h, e⟩; exact ⟨h, by simp [h, e]⟩
  · rintro ⟨h, e⟩; exact ⟨h, by simpa [h] using e⟩

theorem rjs_of {fr : List (Nat × Nat)} {na nb : Nat} (he : ∀ (i k l : Nat), fr[i]? = some (k, l) → k < na ∧ l < nb) (hle : fr.length ≤ 9) : RJS fr (ofTo (·.1) fr fr.length) (ofTo (·.2) fr fr.length) fr.length na nb := by
  refine ⟨rfl, he, fun k x _ => ?_, fun k x _ => ?_, fun k _ => Nat.le_trans (ofTo_len _ _ _ _) (by omega), fun k _ => Nat.le_trans (ofTo_len _ _ _ _) (by omega)⟩
  · rw [ofTo_mem]
    constructor
    · rintro ⟨h1, h2⟩
      exact ⟨(fr.getD x (0, 0)).2, getD_iff.2 ⟨h1, by rw [← h2]⟩⟩
    · rintro ⟨m, h⟩
      obtain ⟨h1, h2⟩ := getD_iff.1 h
      exact ⟨h1, by rw [h2]⟩
  · rw [ofTo_mem]
    constructor
    · rintro ⟨h1, h2⟩
      exact ⟨(fr.getD x (0, 0)).1, getD_iff.2 ⟨h1, by rw [← h2]⟩⟩
    · rintro ⟨m, h⟩
      obtain ⟨h1, h2⟩ := getD_iff.1 h
      exact ⟨h1, by rw [h2]⟩

/-- The lists of one side, each behind a row of its own. -/
structure OfOwn (W : World) (base ob N : Nat) (L : Nat → List Nat) (U : Nat → Value) : Prop where
  blk : ∃ cur, W.heap[ob]? = some (.cells cur 70 (0, 0)) ∧ cur.size = N
  each : ∀ k, k < N → W.cell? ⟨ob, k, none⟩ = some (U k)
  own : ∀ k, k < N → W.ownsRow base 21 1 (U k) (L k).length (ints (L k))
  dis : ∀ k k' g, k < N → k' < N → k ≠ k' → (U k).ownBlock = some g → (U k').ownBlock ≠ some g
  far : base ≤ ob ∧ base ≤ W.heap.size

theorem OfOwn.below {W W' : World} {base ob N : Nat} {L : Nat → List Nat} {U : Nat → Value} (h : OfOwn W base ob N L U) (hb : Below W.heap.size W W') : OfOwn W' base ob N L U := by
  obtain ⟨cur, h1, h2⟩ := h.blk
  exact ⟨⟨cur, (hb.block _ (lt_of_block h1)).trans h1, h2⟩, fun k hk => (hb.cell (block_lt_of_cell (h.each k hk))).trans (h.each k hk), fun k hk => (h.own k hk).kept (Below.grownBy hb none) (by cases hv : (U k).ownBlock <;> simp), h.dis, h.far.1, Nat.le_trans h.far.2 hb.size⟩

/-- A block below the lists' own, of another kind, is turned. -/
theorem OfOwn.fr2 {W W' : World} {base ob N jb mb : Nat} {L : Nat → List Nat} {U : Nat → Value} {cs cs' : Array Value} (h : OfOwn W base ob N L U) (hf : Fr2 jb mb W W') (hj : W.heap[jb]? = some (.cells cs 72 (0, 0))) (hm : W.heap[mb]? = some (.cells cs' 21 (0, 0))) (hmb : mb < base) : OfOwn W' base ob N L U := by
  obtain ⟨cur, h1, h2⟩ := h.blk
  have h1' := (hf.block _ (lt_of_block h1) (ne_cc h1 hj (by decide)) (ne_cc h1 hm (by decide))).trans h1
  refine ⟨⟨cur, h1', h2⟩, fun k hk => cell_block h1 h1' (h.each k hk), fun k hk => ?_, h.dis, h.far.1, Nat.le_trans h.far.2 hf.size⟩
  have ho := h.own k hk
  refine rowI_moved ho (fun g cs hg hb => ?_)
  have := (ho.lt g hg).1
  exact (hf.block g (lt_of_block hb) (ne_cc hb hj (by decide)) (by omega)).trans hb

theorem OfOwn.grown {W W' : World} {base ob N q : Nat} {L : Nat → List Nat} {U : Nat → Value} {cs : Array Value} {t : TypeId} {f : Nat × Nat} (h : OfOwn W base ob N L U) (hg : W.grownBy W' (some q)) (hq : W.heap[q]? = some (.cells cs t f)) (h1 : t ≠ 70) (h2 : t ≠ 21) : OfOwn W' base ob N L U := by
  obtain ⟨cur, k1, k2⟩ := h.blk
  have k1' := (hg.block _ (lt_of_block k1) (fun e => ne_cc k1 hq (fun e' => h1 e'.symm) (Option.some.inj e))).trans k1
  exact ⟨⟨cur, k1', k2⟩, fun k hk => cell_block k1 k1' (h.each k hk), fun k hk => (h.own k hk).kept hg (.inr (ownI_ne (h.own k hk) hq h2)), h.dis, h.far.1, Nat.le_trans h.far.2 hg.size⟩

theorem OfOwn.ofAt {W : World} {base ob N : Nat} {L : Nat → List Nat} {U : Nat → Value} (h : OfOwn W base ob N L U) : OfAt W (.slice (some ⟨ob, 0, none⟩) N N) N L U := ⟨ob, N, rfl, fun k hk => ⟨h.each k hk, own_ints (h.own k hk)⟩⟩

/-- A class is appended to a list. -/
theorem OfOwn.put {W W' : World} {base ob N k x : Nat} {L : Nat → List Nat} {U : Nat → Value} {v' : Value} (h : OfOwn W base ob N L U) (hk : k < N) (hg : W.grownBy W' (U k).ownBlock) (ho : W'.ownsRow base 21 1 v' (L k ++ [x]).length (ints (L k ++ [x]))) (hown : v'.ownBlock = (U k).ownBlock ∨ v'.ownBlock = some W.heap.size) :
    OfOwn (W'.setCell ⟨ob, k, none⟩ v') base ob N (fun j => if j = k then L k ++ [x] else L j) (fun j => if j = k then v' else U j) ∧ Below base W (W'.setCell ⟨ob, k, none⟩ v') ∧ (∃ cur, W'.heap[ob]? = some (.cells cur 70 (0, 0)) ∧ cur.size = N) ∧ W'.cell? ⟨ob, k, none⟩ = some (U k) := by
  obtain ⟨cur, k1, k2⟩ := h.blk
  have k1' := (hg.block _ (lt_of_block k1) (fun e => (ownI_ne (h.own k hk) k1 (by decide)) e.symm)).trans k1
  have hs : W'.grownBy (W'.setCell ⟨ob, k, none⟩ v') (some ob) := grown_setCell (World.grownBy.refl _ _)
  have k3 := heap_setCell_same W' ob k _ 70 v' k1'
  have hcell : ∀ j, (W'.setCell ⟨ob, k, none⟩ v').cell? ⟨ob, j, none⟩ = (cur.setIfInBounds k v')[j]? := fun j => by simp [World.cell?, k3]
  have hold : ∀ j, W.cell? ⟨ob, j, none⟩ = cur[j]? := fun j => by simp [World.cell?, k1]
  have hf1 := h.far.1
  have hf2 := h.far.2
  have hb1 : Below base W W' := (Below.refl _ _).grown hg h.far.2 (fun b e => ((h.own k hk).lt b e).1)
  refine ⟨⟨⟨_, k3, by simpa using k2⟩, fun j hj => ?_, fun j hj => ?_, fun i j g hi hj hij e => ?_, h.far.1, ?_⟩, hb1.grown hs (by have := hb1.size; omega) (fun b e => by have := Option.some.inj e; omega), ⟨cur, k1', k2⟩, cell_block k1 k1' (h.each k hk)⟩
  · rw [hcell]
    by_cases e : j = k
    · subst e
      rw [if_pos rfl, Array.getElem?_setIfInBounds_self_of_lt (by omega)]
    · rw [if_neg e, Array.getElem?_setIfInBounds_ne (fun e' => e e'.symm), ← hold]
      exact h.each j hj
  · show World.ownsRow _ base 21 1 (if j = k then v' else U j) (if j = k then L k ++ [x] else L j).length (ints (if j = k then L k ++ [x] else L j))
    by_cases e : j = k
    · simp only [if_pos e]
      exact ho.kept hs (.inr (ownI_ne ho k1' (by decide)))
    · simp only [if_neg e]
      have h1 := (h.own j hj).kept hg (by
        cases hv : (U j).ownBlock with
        | none => exact .inl rfl
        | some b => exact .inr (fun e' => h.dis j k b hj hk e hv e'.symm))
      exact h1.kept hs (.inr (ownI_ne h1 k1' (by decide)))
  · by_cases e1 : i = k
    · rw [if_pos e1] at e
      by_cases e2 : j = k
      · omega
      · rw [if_neg e2]
        rcases hown with h1 | h1
        · rw [h1] at e
          exact h.dis k j g hk hj (fun e' => e2 e'.symm) e
        · rw [h1] at e
          intro e3
          have := ((h.own j hj).lt g e3).2
          have := Option.some.inj e
          omega
    · rw [if_neg e1] at e
      by_cases e2 : j = k
      · rw [if_pos e2]
        rcases hown with h1 | h1
        · rw [h1]
          exact h.dis i k g hi hk e1 e
        · rw [h1]
          intro e3
          have := ((h.own i hi).lt g e).2
          have := Option.some.inj e3
          omega
      · rw [if_neg e2]
        exact h.dis i j g hi hj hij e
  · have := hg.size
    simp
    omega
end Go.Proofs.Ybulkatiq
