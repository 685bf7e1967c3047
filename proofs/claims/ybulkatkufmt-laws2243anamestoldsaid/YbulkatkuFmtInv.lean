/-
  What a 'names' holds: memory, and how each step of names.number turns it.
-/
import Derived.Test.YbulkatkuFmtZeros
namespace Go.Proofs.YbulkatkuFmt.Nm
open Go.ChangeShapes Go.WideShapes Go.ChangeAt Go.RowKit Go.Maps

structure Dat where
  mv : Value
  nv : Value
  iv : Value
  bv : Value
  q : Q4
  r : Option Nat
  D : DataW Unit
  cnt : Nat
  ns : List ByteArray
  bs : List Int

def strs (l : List ByteArray) : List Value := l.map Value.string
def i32s (l : List Int) : List Value := l.map (Value.int .i32)

structure Mem (B p : Nat) (X : Option Nat) (I : List Int) (d : Dat) (w : World) : Prop where
  here : At w p d.mv d.nv d.iv d.q d.bv
  hp : B ≤ p
  map : MapIs w d.mv d.D d.r d.cnt
  mapB : ∀ b, d.r = some b → B ≤ b
  nvO : w.ownsRow B 9 1 d.nv d.ns.length (strs d.ns)
  ivO : w.ownsRow B 21 1 d.iv I.length (i32s I)
  bvO : w.ownsRow B 21 1 d.bv d.bs.length (i32s d.bs)
  sep : d.iv.ownBlock = none ∨ d.iv.ownBlock ≠ d.bv.ownBlock
  hX : ∀ g, X = some g → (∃ cur, w.heap[g]? = some (.cells cur 9 (0, 0))) ∧ d.nv.ownBlock ≠ some g

/-- What is kept: all below B, and block X. -/
structure Fr (B : Nat) (X : Option Nat) (w w' : World) : Prop where
  below : Below B w w'
  keepX : ∀ g, X = some g → g < w.heap.size → w'.heap[g]? = w.heap[g]?

theorem Fr.refl (B : Nat) (X : Option Nat) (w : World) : Fr B X w w := ⟨Below.refl _ _, fun _ _ _ => rfl⟩
theorem Fr.trans {B : Nat} {X : Option Nat} {a b c : World} (h : Fr B X a b) (k : Fr B X b c) : Fr B X a c :=
  ⟨h.below.trans k.below, fun g hg hl => (k.keepX g hg (Nat.lt_of_lt_of_le hl h.below.size)).trans (h.keepX g hg hl)⟩
theorem Fr.grown {B : Nat} {X : Option Nat} {w w' : World} {row : Option Nat} (hg : w.grownBy w' row) (hB : B ≤ w.heap.size) (hr : ∀ k, row = some k → B ≤ k ∧ X ≠ some k) : Fr B X w w' :=
  ⟨(Below.refl _ _).grown hg hB (fun k hk => (hr k hk).1), fun g hgx hl => hg.block g hl (fun e => (hr g e.symm).2 hgx)⟩
theorem grown_setCell (w : World) (p o : Nat) (v : Value) : w.grownBy (w.setCell ⟨p, o, none⟩ v) (some p) := World.grownBy_setCell (World.grownBy.refl w _)
theorem grown_below {w w' : World} (h : Below w.heap.size w w') : w.grownBy w' none := ⟨h.os, h.tape, h.output, h.size, fun k hk _ => h.block k hk⟩

theorem row_kind {w : World} {b : Nat} {e : TypeId} {s : Nat} {v : Value} {n : Nat} {xs : List Value} (h : w.ownsRow b e s v n xs) {g : Nat} (hg : v.ownBlock = some g) : ∃ cur, w.heap[g]? = some (.cells cur e (0, 0)) := by
  rcases h.2 with ⟨rfl, _⟩ | ⟨g', cap, cur, rfl, _, hgg, _⟩
  · cases hg
  · simp only [Value.ownBlock, Option.some.injEq] at hg; subst hg; exact ⟨cur, hgg⟩
theorem rows_apart {w : World} {b b' : Nat} {e e' : TypeId} {s s' : Nat} {v v' : Value} {n n' : Nat} {xs xs' : List Value} (h : w.ownsRow b e s v n xs) (h' : w.ownsRow b' e' s' v' n' xs') (hne : e ≠ e') : v.ownBlock = none ∨ v.ownBlock ≠ v'.ownBlock := by
  cases hv : v.ownBlock with
  | none => exact .inl rfl
  | some g =>
    refine .inr fun heq => ?_
    obtain ⟨c1, e1⟩ := row_kind h hv
    obtain ⟨c2, e2⟩ := row_kind h' heq.symm
    rw [e1] at e2
    simp at e2
    exact hne e2.2
theorem row_ne {w : World} {b : Nat} {e t : TypeId} {s p : Nat} {v : Value} {n : Nat} {xs : List Value} {cs : Array Value} (h : w.ownsRow b e s v n xs) (hp : w.heap[p]? = some (.cells cs t (0, 0))) (hne : e ≠ t) : v.ownBlock ≠ some p := by
  intro hv
  obtain ⟨c1, e1⟩ := row_kind h hv
  rw [hp] at e1
  simp at e1
  exact hne e1.2.symm
theorem map_ne {w : World} {mv : Value} {D : DataW Unit} {r : Option Nat} {n p : Nat} {cs : Array Value} {t : TypeId} (h : MapIs w mv D r n) (hp : w.heap[p]? = some (.cells cs t (0, 0))) : r ≠ some p := by
  rcases h with ⟨rfl, _⟩ | ⟨b, rfl, _, ho⟩
  · simp
  · obtain ⟨es, clock, hb, _⟩ := ho
    intro e
    simp only [Option.some.injEq] at e
    subst e
    rw [hb] at hp
    cases hp
theorem own_lt {w : World} {b : Nat} {e : TypeId} {s : Nat} {v : Value} {n : Nat} {xs : List Value} (h : w.ownsRow b e s v n xs) : ∀ k, v.ownBlock = some k → k < w.heap.size := fun k hk => (h.lt k hk).2
theorem apart_swap {a b : Option Nat} (h : a = none ∨ a ≠ b) : b = none ∨ b ≠ a := by
  cases b with
  | none => exact .inl rfl
  | some x => exact .inr fun e => by rcases h with h | h <;> simp_all

section
variable {B p : Nat} {X : Option Nat} {I : List Int} {d : Dat} {w : World}

theorem Mem.lt (h : Mem B p X I d w) : p < w.heap.size := h.here.lt
theorem Mem.size (h : Mem B p X I d w) : B ≤ w.heap.size := Nat.le_trans h.hp (Nat.le_of_lt h.lt)
theorem Mem.Xp (h : Mem B p X I d w) : X ≠ some p := fun e => by
  obtain ⟨⟨cur, hc⟩, _⟩ := h.hX p e
  have := h.here
  unfold At at this
  rw [this] at hc
  simp at hc
theorem Mem.Xr (h : Mem B p X I d w) {b : Nat} (hb : d.r = some b) : X ≠ some b := fun e => by
  obtain ⟨⟨cur, hc⟩, _⟩ := h.hX b e
  exact map_ne h.map hc hb
theorem Mem.Xi (h : Mem B p X I d w) {b : Nat} (hb : d.iv.ownBlock = some b) : X ≠ some b := fun e => by
  obtain ⟨⟨cur, hc⟩, _⟩ := h.hX b e
  exact row_ne h.ivO hc (by decide) hb
theorem Mem.Xb (h : Mem B p X I d w) {b : Nat} (hb : d.bv.ownBlock = some b) : X ≠ some b := fun e => by
  obtain ⟨⟨cur, hc⟩, _⟩ := h.hX b e
  exact row_ne h.bvO hc (by decide) hb
theorem Mem.Xn (h : Mem B p X I d w) {b : Nat} (hb : d.nv.ownBlock = some b) : X ≠ some b := fun e => (h.hX b e).2 hb

theorem Mem.grew {w' : World} (h : Mem B p X I d w) (hg : w.grownBy w' none) : Mem B p X I d w' ∧ Fr B X w w' := by
  refine ⟨⟨h.here.kept hg (by simp), h.hp, h.map.kept hg (by cases d.r <;> simp), h.mapB, h.nvO.kept hg (by cases d.nv.ownBlock <;> simp), h.ivO.kept hg (by cases d.iv.ownBlock <;> simp), h.bvO.kept hg (by cases d.bv.ownBlock <;> simp), h.sep, fun g hgx => ?_⟩, Fr.grown hg h.size (fun k hk => by cases hk)⟩
  obtain ⟨⟨cur, hc⟩, h2⟩ := h.hX g hgx
  exact ⟨⟨cur, (hg.block g (lt_of_block hc) (by simp)).trans hc⟩, h2⟩

theorem Mem.drew (h : Mem B p X I d w) : Mem B p X I d w.drew := ⟨h.here, h.hp, h.map, h.mapB, h.nvO, h.ivO, h.bvO, h.sep, h.hX⟩
theorem Fr.drew {w w' : World} (h : Fr B X w.drew w') : Fr B X w w' := ⟨⟨h.below.os, h.below.tape, h.below.output, h.below.size, h.below.block⟩, h.keepX⟩

/-- A turn of block p alone: the recent names. -/
theorem Mem.setQ {w' : World} {q' : Q4} (h : Mem B p X I d w) (hat : At w' p d.mv d.nv d.iv q' d.bv) (hg : w.grownBy w' (some p)) : Mem B p X I { d with q := q' } w' ∧ Fr B X w w' := by
  refine ⟨⟨hat, h.hp, h.map.kept hg (.inr (map_ne h.map h.here)), h.mapB, h.nvO.kept hg (.inr (row_ne h.nvO h.here (by decide))), h.ivO.kept hg (.inr (row_ne h.ivO h.here (by decide))), h.bvO.kept hg (.inr (row_ne h.bvO h.here (by decide))), h.sep, fun g hgx => ?_⟩,
    Fr.grown hg h.size (fun k hk => by simp only [Option.some.injEq] at hk; subst hk; exact ⟨h.hp, h.Xp⟩)⟩
  obtain ⟨⟨cur, hc⟩, h2⟩ := h.hX g hgx
  exact ⟨⟨cur, (hg.block g (lt_of_block hc) (fun e => h.Xp (e ▸ hgx))).trans hc⟩, h2⟩

theorem Mem.setBv {w1 : World} {bv' : Value} {bs' : List Int} (h : Mem B p X I d w) (hg : w.grownBy w1 d.bv.ownBlock) (ho : w1.ownsRow B 21 1 bv' bs'.length (i32s bs')) (hl : bv'.ownBlock = d.bv.ownBlock ∨ ∃ k, w.heap.size ≤ k ∧ bv'.ownBlock = some k) :
    Mem B p X I { d with bv := bv', bs := bs' } (w1.setCell ⟨p, 11, none⟩ bv') ∧ Fr B X w (w1.setCell ⟨p, 11, none⟩ bv') := by
  have hpb : some p ≠ d.bv.ownBlock := Ne.symm (row_ne h.bvO h.here (by decide))
  have h1 : At w1 p d.mv d.nv d.iv d.q d.bv := h.here.kept hg hpb
  have hs := grown_setCell w1 p 11 bv'
  have hiv : w1.ownsRow B 21 1 d.iv I.length (i32s I) := h.ivO.kept hg h.sep
  have hnv : w1.ownsRow B 9 1 d.nv d.ns.length (strs d.ns) := h.nvO.kept hg (rows_apart h.nvO h.bvO (by decide))
  have hmp : MapIs w1 d.mv d.D d.r d.cnt := h.map.kept hg (by
    cases hr : d.r with
    | none => exact .inl rfl
    | some b => refine .inr fun e => ?_; obtain ⟨c, hc⟩ := row_kind h.bvO e.symm; exact map_ne h.map hc hr)
  refine ⟨⟨h1.set rfl, h.hp, hmp.kept hs (.inr (map_ne hmp h1)), h.mapB, hnv.kept hs (.inr (row_ne hnv h1 (by decide))), hiv.kept hs (.inr (row_ne hiv h1 (by decide))), ho.kept hs (.inr (row_ne ho h1 (by decide))), ?_, fun g hgx => ?_⟩, ?_⟩
  · show d.iv.ownBlock = none ∨ d.iv.ownBlock ≠ bv'.ownBlock
    rcases hl with e | ⟨k, hk, e⟩
    · rw [e]; exact h.sep
    · refine .inr fun e2 => ?_
      have := own_lt h.ivO k (by rw [e2, e])
      omega
  · obtain ⟨⟨cur, hc⟩, h2⟩ := h.hX g hgx
    exact ⟨⟨cur, (hs.block g (Nat.lt_of_lt_of_le (lt_of_block hc) hg.size) (fun e => h.Xp (e ▸ hgx))).trans ((hg.block g (lt_of_block hc) (fun e => h.Xb e.symm hgx)).trans hc)⟩, h2⟩
  · exact (Fr.grown hg h.size (fun k hk => ⟨(h.bvO.lt k hk).1, h.Xb hk⟩)).trans (Fr.grown hs (Nat.le_trans h.size hg.size) (fun k hk => by simp only [Option.some.injEq] at hk; subst hk; exact ⟨h.hp, h.Xp⟩))

theorem Mem.setIv {w1 : World} {iv' : Value} {I' : List Int} (h : Mem B p X I d w) (hg : w.grownBy w1 d.iv.ownBlock) (ho : w1.ownsRow B 21 1 iv' I'.length (i32s I')) (hl : iv'.ownBlock = d.iv.ownBlock ∨ ∃ k, w.heap.size ≤ k ∧ iv'.ownBlock = some k) :
    Mem B p X I' { d with iv := iv' } (w1.setCell ⟨p, 2, none⟩ iv') ∧ Fr B X w (w1.setCell ⟨p, 2, none⟩ iv') := by
  have hpb : some p ≠ d.iv.ownBlock := Ne.symm (row_ne h.ivO h.here (by decide))
  have h1 : At w1 p d.mv d.nv d.iv d.q d.bv := h.here.kept hg hpb
  have hs := grown_setCell w1 p 2 iv'
  have hbv : w1.ownsRow B 21 1 d.bv d.bs.length (i32s d.bs) := h.bvO.kept hg (apart_swap h.sep)
  have hnv : w1.ownsRow B 9 1 d.nv d.ns.length (strs d.ns) := h.nvO.kept hg (rows_apart h.nvO h.ivO (by decide))
  have hmp : MapIs w1 d.mv d.D d.r d.cnt := h.map.kept hg (by
    cases hr : d.r with
    | none => exact .inl rfl
    | some b => refine .inr fun e => ?_; obtain ⟨c, hc⟩ := row_kind h.ivO e.symm; exact map_ne h.map hc hr)
  refine ⟨⟨h1.set rfl, h.hp, hmp.kept hs (.inr (map_ne hmp h1)), h.mapB, hnv.kept hs (.inr (row_ne hnv h1 (by decide))), ho.kept hs (.inr (row_ne ho h1 (by decide))), hbv.kept hs (.inr (row_ne hbv h1 (by decide))), ?_, fun g hgx => ?_⟩, ?_⟩
  · show iv'.ownBlock = none ∨ iv'.ownBlock ≠ d.bv.ownBlock
    rcases hl with e | ⟨k, hk, e⟩
    · rw [e]; exact h.sep
    · refine .inr fun e2 => ?_
      have := own_lt h.bvO k (by rw [← e2, e])
      omega
  · obtain ⟨⟨cur, hc⟩, h2⟩ := h.hX g hgx
    exact ⟨⟨cur, (hs.block g (Nat.lt_of_lt_of_le (lt_of_block hc) hg.size) (fun e => h.Xp (e ▸ hgx))).trans ((hg.block g (lt_of_block hc) (fun e => h.Xi e.symm hgx)).trans hc)⟩, h2⟩
  · exact (Fr.grown hg h.size (fun k hk => ⟨(h.ivO.lt k hk).1, h.Xi hk⟩)).trans (Fr.grown hs (Nat.le_trans h.size hg.size) (fun k hk => by simp only [Option.some.injEq] at hk; subst hk; exact ⟨h.hp, h.Xp⟩))

theorem Mem.setNv {w1 : World} {nv' : Value} {ns' : List ByteArray} (h : Mem B p X I d w) (hg : w.grownBy w1 d.nv.ownBlock) (ho : w1.ownsRow B 9 1 nv' ns'.length (strs ns')) (hl : nv'.ownBlock = d.nv.ownBlock ∨ ∃ k, w.heap.size ≤ k ∧ nv'.ownBlock = some k) :
    Mem B p X I { d with nv := nv', ns := ns' } (w1.setCell ⟨p, 1, none⟩ nv') ∧ Fr B X w (w1.setCell ⟨p, 1, none⟩ nv') := by
  have hpb : some p ≠ d.nv.ownBlock := Ne.symm (row_ne h.nvO h.here (by decide))
  have h1 : At w1 p d.mv d.nv d.iv d.q d.bv := h.here.kept hg hpb
  have hs := grown_setCell w1 p 1 nv'
  have hbv : w1.ownsRow B 21 1 d.bv d.bs.length (i32s d.bs) := h.bvO.kept hg (rows_apart h.bvO h.nvO (by decide))
  have hiv : w1.ownsRow B 21 1 d.iv I.length (i32s I) := h.ivO.kept hg (rows_apart h.ivO h.nvO (by decide))
  have hmp : MapIs w1 d.mv d.D d.r d.cnt := h.map.kept hg (by
    cases hr : d.r with
    | none => exact .inl rfl
    | some b => refine .inr fun e => ?_; obtain ⟨c, hc⟩ := row_kind h.nvO e.symm; exact map_ne h.map hc hr)
  refine ⟨⟨h1.set rfl, h.hp, hmp.kept hs (.inr (map_ne hmp h1)), h.mapB, ho.kept hs (.inr (row_ne ho h1 (by decide))), hiv.kept hs (.inr (row_ne hiv h1 (by decide))), hbv.kept hs (.inr (row_ne hbv h1 (by decide))), h.sep, fun g hgx => ?_⟩, ?_⟩
  · obtain ⟨⟨cur, hc⟩, h2⟩ := h.hX g hgx
    refine ⟨⟨cur, (hs.block g (Nat.lt_of_lt_of_le (lt_of_block hc) hg.size) (fun e => h.Xp (e ▸ hgx))).trans ((hg.block g (lt_of_block hc) (fun e => h.Xn e.symm hgx)).trans hc)⟩, ?_⟩
    show nv'.ownBlock ≠ some g
    rcases hl with e | ⟨k, hk, e⟩
    · rw [e]; exact h2
    · intro e2
      rw [e] at e2
      simp only [Option.some.injEq] at e2
      have := lt_of_block hc
      omega
  · exact (Fr.grown hg h.size (fun k hk => ⟨(h.nvO.lt k hk).1, h.Xn hk⟩)).trans (Fr.grown hs (Nat.le_trans h.size hg.size) (fun k hk => by simp only [Option.some.injEq] at hk; subst hk; exact ⟨h.hp, h.Xp⟩))

/-- byIndex[k] = v. -/
theorem Mem.storeB {g cap k : Nat} {v : Int} (h : Mem B p X I d w) (hb : d.bv = .slice (some ⟨g, 0, none⟩) d.bs.length cap) :
    Mem B p X I { d with bs := d.bs.set k v } (w.setCell ⟨g, k, none⟩ (.int .i32 v)) ∧ Fr B X w (w.setCell ⟨g, k, none⟩ (.int .i32 v)) := by
  have hbo : d.bv.ownBlock = some g := by rw [hb]; rfl
  have hO := h.bvO
  rw [hb] at hO
  obtain ⟨ho, hg⟩ := hO.stored k (.int .i32 v)
  refine ⟨⟨h.here.kept hg (by rw [← hbo]; exact Ne.symm (row_ne h.bvO h.here (by decide))), h.hp, h.map.kept hg (by
      cases hr : d.r with
      | none => exact .inl rfl
      | some b => refine .inr fun e => ?_; obtain ⟨c, hc⟩ := row_kind h.bvO hbo; rw [e] at hr; exact map_ne h.map hc hr), h.mapB,
    h.nvO.kept hg (by rw [← hbo]; exact rows_apart h.nvO h.bvO (by decide)), h.ivO.kept hg (by rw [← hbo]; exact h.sep), ?_, h.sep, fun g' hgx => ?_⟩, Fr.grown hg h.size (fun j hj => by
      simp only [Option.some.injEq] at hj; subst hj; exact ⟨(h.bvO.lt _ hbo).1, h.Xb hbo⟩)⟩
  · show (w.setCell ⟨g, k, none⟩ (.int .i32 v)).ownsRow B 21 1 d.bv (d.bs.set k v).length (i32s (d.bs.set k v))
    rw [hb, List.length_set]
    have e : i32s (d.bs.set k v) = (i32s d.bs).set k (.int .i32 v) := by simp [i32s, List.map_set]
    rw [e]
    exact ho
  · obtain ⟨⟨cur, hc⟩, h2⟩ := h.hX g' hgx
    exact ⟨⟨cur, (hg.block g' (lt_of_block hc) (fun e => by simp only [Option.some.injEq] at e; subst e; exact h.Xb hbo hgx)).trans hc⟩, h2⟩

/-- The map is made. -/
theorem Mem.makeMap (h : Mem B p X I d w) :
    Mem B p X I { d with mv := .map (some w.heap.size), r := some w.heap.size, D := .map [], cnt := 0 } ((w.alloc (.map #[] 0)).setCell ⟨p, 0, none⟩ (.map (some w.heap.size))) ∧
      Fr B X w ((w.alloc (.map #[] 0)).setCell ⟨p, 0, none⟩ (.map (some w.heap.size))) := by
  obtain ⟨h1, f1⟩ := h.grew (World.grownBy_alloc w (.map #[] 0) none)
  have hs := grown_setCell (w.alloc (.map #[] 0)) p 0 (.map (some w.heap.size))
  have ho := (World.ownsMap_made w Ybaf.prog 9 (plainElem (H := Unit) Ybaf.prog 21)).kept hs (by intro e; simp only [Option.some.injEq] at e; have := h.lt; omega)
  refine ⟨⟨h1.here.set rfl, h.hp, .inr ⟨_, rfl, rfl, ho⟩, fun b hb => ?_, h1.nvO.kept hs (.inr (row_ne h1.nvO h1.here (by decide))), h1.ivO.kept hs (.inr (row_ne h1.ivO h1.here (by decide))), h1.bvO.kept hs (.inr (row_ne h1.bvO h1.here (by decide))), h.sep, fun g hgx => ?_⟩,
    f1.trans (Fr.grown hs h1.size (fun k hk => by simp only [Option.some.injEq] at hk; subst hk; exact ⟨h.hp, h.Xp⟩))⟩
  · simp only [Option.some.injEq] at hb; subst hb; exact h.size
  · obtain ⟨⟨cur, hc⟩, h2⟩ := h1.hX g hgx
    exact ⟨⟨cur, (hs.block g (lt_of_block hc) (fun e => h1.Xp (e ▸ hgx))).trans hc⟩, h2⟩

/-- numbers[key] = n. -/
theorem Mem.putMap {w1 : World} {b cnt' : Nat} {D' : DataW Unit} (h : Mem B p X I d w) (hr : d.r = some b) (hg : w.grownBy w1 (some b)) (ho : w1.ownsMap Ybaf.prog 9 (plainElem Ybaf.prog 21) b cnt' D') :
    Mem B p X I { d with D := D', cnt := cnt' } w1 ∧ Fr B X w w1 := by
  have hmv : d.mv = .map (some b) := by
    rcases h.map with ⟨e, _⟩ | ⟨b', e, e2, _⟩
    · rw [hr] at e; cases e
    · rw [hr] at e; simp only [Option.some.injEq] at e; subst e; exact e2
  have mk : ∀ {e : TypeId} {v : Value} {n : Nat} {xs : List Value}, w.ownsRow B e 1 v n xs → v.ownBlock = none ∨ v.ownBlock ≠ some b := fun {e v n xs} hO => by
    refine .inr fun e2 => ?_
    obtain ⟨c, hc⟩ := row_kind hO e2
    exact map_ne h.map hc hr
  refine ⟨⟨h.here.kept hg (by rw [← hr]; exact Ne.symm (map_ne h.map h.here)), h.hp, .inr ⟨b, hr, hmv, ho⟩, h.mapB, h.nvO.kept hg (mk h.nvO), h.ivO.kept hg (mk h.ivO), h.bvO.kept hg (mk h.bvO), h.sep, fun g hgx => ?_⟩,
    Fr.grown hg h.size (fun k hk => by simp only [Option.some.injEq] at hk; subst hk; exact ⟨h.mapB _ hr, h.Xr hr⟩)⟩
  obtain ⟨⟨cur, hc⟩, h2⟩ := h.hX g hgx
  exact ⟨⟨cur, (hg.block g (lt_of_block hc) (fun e => by simp only [Option.some.injEq] at e; subst e; exact h.Xr hr hgx)).trans hc⟩, h2⟩
end
end Go.Proofs.YbulkatkuFmt.Nm
