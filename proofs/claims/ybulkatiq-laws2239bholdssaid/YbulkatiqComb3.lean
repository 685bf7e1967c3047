/-
  combine: the lists of the joined classes that a class is in, while they are made.
-/
import Derived.Test.YbulkatiqCombS
namespace Go.Proofs.Ybulkatiq
open Go.ChangeShapes Go.WideShapes Go.ChangeAt Go.RowKit Go.Maps Go.WideMaps

theorem info70 : (Yba.prog.info? 70).map (fun i => (i.zero, i.size, i.bytes)) = some (some (.slice none 0 0), 1, 24) := by kernel_rfl

theorem KM.trans {A B C : World} (h1 : KM A B) (h2 : KM B C) : KM A C := ⟨fun b cs t h ht => h2.cells b cs t (h1.cells b cs t h ht) ht, fun b es ck h => h2.maps b es ck (h1.maps b es ck h)⟩

theorem KM.own {W W' : World} {base n : Nat} {v : Value} {xs : List Value} (hg : W.grownBy W' v.ownBlock) (ho : W.ownsRow base 21 1 v n xs) : KM W W' := by
  cases hv : v.ownBlock with
  | none =>
    rw [hv] at hg
    exact KM.below ((Below.refl _ _).grown hg (Nat.le_refl _) (fun k hk => by cases hk))
  | some q =>
    rw [hv] at hg
    obtain ⟨cs, hq⟩ := ownI_kind ho hv
    exact KM.grown hg hq (by decide) (by decide)

theorem RowI.low {W W' : World} {b B : Nat} {d : List Nat} (h : RowI W b d) (hb : Below B W W') (h3 : b < B) : RowI W' b d := by
  obtain ⟨cur, h1, h2⟩ := h.blk
  have h1' := (hb.block _ h3).trans h1
  exact ⟨⟨cur, h1', h2⟩, fun i x hx => cell_block h1 h1' (h.each i x hx)⟩

def CP.ji (c : CP) (v0 v1 : Value) : Array Value := #[.func (.func c.g) #[] #[], c.fromv, c.atv, v0, v1, .int .i32 (c.fr.length : Nat), .slice (some ⟨c.mb, 0, none⟩) c.fr.length c.mc, .int .i32 0]

/-- What lies in memory while the lists are made. -/
structure CIn (w W : World) (c : CP) (v0 v1 : Value) (Ra Rb : Rel) : Prop where
  bel : Below w.heap.size w W
  jbk : W.heap[c.jb]? = some (.cells (c.ji v0 v1) 72 (0, 0))
  cbk : W.heap[c.cb]? = some (.cells (c.cc (.slice none 0 0)) 50 (0, 0))
  mrk : RowI W c.mb (List.replicate c.fr.length 0)
  s0 : SideJ W c.mv0 c.rv c.av0 Ra.n0 Rb.n0 Ra.of0 Rb.of0 c.frR c.jr
  s1 : SideJ W c.mv1 c.fromv c.atv Ra.n1 Rb.n1 Ra.of1 Rb.of1 c.fr c.js
  far : w.heap.size ≤ c.jb ∧ w.heap.size ≤ c.cb ∧ w.heap.size ≤ c.mb

section
variable {w W W' : World} {c : CP} {v0 v1 : Value} {Ra Rb : Rel}

theorem CIn.below (h : CIn w W c v0 v1 Ra Rb) (hb : Below W.heap.size W W') : CIn w W' c v0 v1 Ra Rb :=
  ⟨h.bel.trans (hb.mono h.bel.size), (hb.block _ (lt_of_block h.jbk)).trans h.jbk, (hb.block _ (lt_of_block h.cbk)).trans h.cbk, h.mrk.below hb, h.s0.below hb, h.s1.below hb, h.far⟩

theorem CIn.move {B : Nat} (h : CIn w W c v0 v1 Ra Rb) (k : KM W W') (hb : Below B W W') (hB : w.heap.size ≤ B) (h1 : c.jb < B) (h2 : c.cb < B) (h3 : c.mb < B) : CIn w W' c v0 v1 Ra Rb :=
  ⟨h.bel.trans (hb.mono hB), (hb.block _ h1).trans h.jbk, (hb.block _ h2).trans h.cbk, h.mrk.low hb h3, h.s0.km k, h.s1.km k, h.far⟩

theorem CIn.set0 {v : Value} (h : CIn w W c v0 v1 Ra Rb) : CIn w (W.setCell ⟨c.jb, 3, none⟩ v) c v v1 Ra Rb := by
  obtain ⟨cur, hm1, _⟩ := h.mrk.blk
  have hg : W.grownBy (W.setCell ⟨c.jb, 3, none⟩ v) (some c.jb) := grown_setCell (World.grownBy.refl _ _)
  have k := KM.grown hg h.jbk (by decide) (by decide)
  have f := h.far
  exact ⟨h.bel.grown hg h.bel.size (fun b e => by have := Option.some.inj e; omega), heap_setCell_same W c.jb 3 _ 72 v h.jbk, (hg.block _ (lt_of_block h.cbk) (fun e => ne_cc h.cbk h.jbk (by decide) (Option.some.inj e))).trans h.cbk, h.mrk.other hg (ne_cc hm1 h.jbk (by decide)), h.s0.km k, h.s1.km k, h.far⟩
theorem CIn.set1 {v : Value} (h : CIn w W c v0 v1 Ra Rb) : CIn w (W.setCell ⟨c.jb, 4, none⟩ v) c v0 v Ra Rb := by
  obtain ⟨cur, hm1, _⟩ := h.mrk.blk
  have hg : W.grownBy (W.setCell ⟨c.jb, 4, none⟩ v) (some c.jb) := grown_setCell (World.grownBy.refl _ _)
  have k := KM.grown hg h.jbk (by decide) (by decide)
  have f := h.far
  exact ⟨h.bel.grown hg h.bel.size (fun b e => by have := Option.some.inj e; omega), heap_setCell_same W c.jb 4 _ 72 v h.jbk, (hg.block _ (lt_of_block h.cbk) (fun e => ne_cc h.cbk h.jbk (by decide) (Option.some.inj e))).trans h.cbk, h.mrk.other hg (ne_cc hm1 h.jbk (by decide)), h.s0.km k, h.s1.km k, h.far⟩

theorem CIn.low (h : CIn w W c v0 v1 Ra Rb) : c.jb < W.heap.size ∧ c.cb < W.heap.size ∧ c.mb < W.heap.size := by
  obtain ⟨cur, hm1, _⟩ := h.mrk.blk
  exact ⟨lt_of_block h.jbk, lt_of_block h.cbk, lt_of_block hm1⟩

theorem CIn.done {ob0 ob1 base0 base1 : Nat} {U0 U1 : Nat → Value} (h : CIn w W c (.slice (some ⟨ob0, 0, none⟩) Ra.n1 Ra.n1) (.slice (some ⟨ob1, 0, none⟩) Rb.n1 Rb.n1) Ra Rb) (h0 : OfOwn W base0 ob0 Ra.n1 (ofTo (·.1) c.fr c.fr.length) U0) (h1 : OfOwn W base1 ob1 Rb.n1 (ofTo (·.2) c.fr c.fr.length) U1) (m0 : c.mb < base0) (m1 : c.mb < base1) :
    CJ w W { c with ob0 := ob0, ob1 := ob1, base0 := base0, base1 := base1, U0 := U0, U1 := U1 } 0 (List.replicate c.fr.length 0) (.slice none 0 0) Ra Rb := by
  obtain ⟨f1, f2, f3⟩ := h.far
  exact ⟨h.bel, h.jbk, h.cbk, h.mrk, by simp, fun l => by
    rw [List.getD_eq_getElem?_getD, List.getElem?_replicate]
    split <;> simp, h.s0, h.s1, h0, h1, f1, f2, f3, m0, m1⟩
end

/-- The lists as they are made. -/
theorem OfOwn.made {W : World} {base g n : Nat} {f : Nat × Nat → Nat} {fr : List (Nat × Nat)} (h : W.ownsRow base 70 1 (.slice (some ⟨g, 0, none⟩) n n) n (madeCells #[.slice none 0 0] n).toList) (hb : base ≤ W.heap.size) : OfOwn W base g n (ofTo f fr 0) (fun _ => .slice none 0 0) := by
  have hc := fun j hj => h.cellAt j hj
  have hlt := h.lt g rfl
  rcases h.2 with ⟨e, _⟩ | ⟨g', cap, cur, e, _, hgg, _, _, hcs, _⟩
  · cases e
  · simp only [Value.slice.injEq, Option.some.injEq, Addr.mk.injEq, true_and, and_true] at e
    obtain ⟨rfl, rfl⟩ := e
    refine ⟨⟨cur, hgg, by omega⟩, fun k hk => ?_, fun k hk => ?_, fun k k' g' _ _ _ e => (by cases e), hlt.1, hb⟩
    · rw [hc k (by omega)]
      simp [madeCells, hk, Nat.mod_one]
    · exact World.ownsRow_nil _ _ _ _

/-- What lies above the lists' own blocks is turned. -/
theorem OfOwn.low {W W' : World} {base ob N B : Nat} {L : Nat → List Nat} {U : Nat → Value} (h : OfOwn W base ob N L U) (hb : Below B W W') (hU : ∀ k, k < N → ∀ g, (U k).ownBlock = some g → g < B) (ho : ob < B) : OfOwn W' base ob N L U := by
  obtain ⟨cur, h1, h2⟩ := h.blk
  have h1' := (hb.block _ ho).trans h1
  exact ⟨⟨cur, h1', h2⟩, fun k hk => cell_block h1 h1' (h.each k hk), fun k hk => rowI_moved (h.own k hk) (fun g cs hg hc => (hb.block g (hU k hk g hg)).trans hc), h.dis, h.far.1, Nat.le_trans h.far.2 hb.size⟩

theorem OfOwn.size {W : World} {base ob N : Nat} {L : Nat → List Nat} {U : Nat → Value} (h : OfOwn W base ob N L U) : (∀ k, k < N → ∀ g, (U k).ownBlock = some g → g < W.heap.size) ∧ ob < W.heap.size := by
  obtain ⟨cur, h1, _⟩ := h.blk
  exact ⟨fun k hk g e => ((h.own k hk).lt g e).2, lt_of_block h1⟩

/-- A class goes into its list. -/
theorem OfOwn.step {W : World} {base ob N k x D jb : Nat} {L : Nat → List Nat} {U : Nat → Value} {dc jc : Array Value} (h : OfOwn W base ob N L U) (hk : k < N) (hl : (L k).length ≤ 1024) (hD : W.heap[D]? = some (.cells dc 75 (0, 0))) (hj : W.heap[jb]? = some (.cells jc 72 (0, 0))) :
    ∃ (a' : Option Addr) (Ln c' : Nat) (w5 : World) (U' : Nat → Value), (Builtin.append_ #[70, 70] 70 #[U k, .slice (some ⟨W.heap.size, 0, none⟩) 1 1]).run Yba.prog (W.alloc (.cells #[.int .i32 (x : Nat)] 21)).drew = .ok (.slice a' Ln c') w5 ∧ OfOwn (w5.setCell ⟨ob, k, none⟩ (.slice a' Ln c')) base ob N (fun j => if j = k then L k ++ [x] else L j) U' ∧ Below base W (w5.setCell ⟨ob, k, none⟩ (.slice a' Ln c')) ∧ KM W (w5.setCell ⟨ob, k, none⟩ (.slice a' Ln c')) ∧ w5.cell? ⟨ob, k, none⟩ = some (U k) ∧ (∀ j, w5.frozen? ⟨ob, j, none⟩ = false) ∧ w5.heap[D]? = some (.cells dc 75 (0, 0)) ∧ w5.heap[jb]? = some (.cells jc 72 (0, 0)) ∧ (w5.setCell ⟨ob, k, none⟩ (.slice a' Ln c')).heap[D]? = some (.cells dc 75 (0, 0)) ∧ (w5.setCell ⟨ob, k, none⟩ (.slice a' Ln c')).heap[jb]? = some (.cells jc 72 (0, 0)) := by
  have hb1 : Below W.heap.size W (W.alloc (.cells #[.int .i32 (x : Nat)] 21)).drew := Below.drew (below_al (Below.refl _ _) _)
  have h1 := h.below hb1
  have hD1 := (hb1.block _ (lt_of_block hD)).trans hD
  have hj1 := (hb1.block _ (lt_of_block hj)).trans hj
  obtain ⟨i0, hi0, hz0, hz1, hz2⟩ := info_parts info21
  obtain ⟨v', w5, hrun, hown5, hg5, _, hob⟩ := run_append_own_at (P := Yba.prog) (W.alloc (.cells #[.int .i32 (x : Nat)] 21)).drew base 70 70 21 i0 (.int .i32 0) 1 4 Yba.underlying70 hi0 hz0 hz1 hz2 rfl (by decide) (U k) (L k).length (ints (L k)) (h1.own k hk) ⟨W.heap.size, 0, none⟩ 1 1 [.int .i32 (x : Nat)] rfl (one_new W _ 21) (by intro u hu; simp at hu; subst hu; rfl) (by unfold maxLen; omega) (by omega) h1.far.2
  have hrow5 : w5.ownsRow base 21 1 v' (L k ++ [x]).length (ints (L k ++ [x])) := by
    rw [List.length_append]
    simpa [ints] using hown5
  obtain ⟨hq, hbq, ⟨cur, hcur, _⟩, hcell⟩ := h1.put (x := x) hk hg5 hrow5 hob
  obtain ⟨a', c', hv⟩ := owns_shape hrow5
  have hD5 := (hg5.block D (lt_of_block hD1) (fun e => (ownI_ne (h1.own k hk) hD1 (by decide)) e.symm)).trans hD1
  have hj5 := (hg5.block jb (lt_of_block hj1) (fun e => (ownI_ne (h1.own k hk) hj1 (by decide)) e.symm)).trans hj1
  have hgs : w5.grownBy (w5.setCell ⟨ob, k, none⟩ v') (some ob) := grown_setCell (World.grownBy.refl _ _)
  have km := ((KM.below hb1).trans (KM.own hg5 (h1.own k hk))).trans (KM.grown hgs hcur (by decide) (by decide))
  subst hv
  exact ⟨a', _, c', w5, _, hrun, hq, (hb1.mono h.far.2).trans hbq, km, hcell, fun j => by simp [World.frozen?, hcur], hD5, hj5, (hgs.block _ (lt_of_block hD5) (fun e => ne_cc hD5 hcur (by decide) (Option.some.inj e))).trans hD5, (hgs.block _ (lt_of_block hj5) (fun e => ne_cc hj5 hcur (by decide) (Option.some.inj e))).trans hj5⟩

/-- What the lists' loops keep: i sides are done. -/
def OfInv (w wr : World) (c : CP) (Ra Rb : Rel) (tb i : Nat) : Prop :=
  wr.heap[tb]? = some (.cells #[.int .i32 (Ra.n1 : Nat), .int .i32 (Rb.n1 : Nat)] 21 (0, 0)) ∧
  ((i = 0 ∧ CIn w wr c (.slice none 0 0) (.slice none 0 0) Ra Rb) ∨
   (i = 1 ∧ ∃ ob0 base0 U0, CIn w wr c (.slice (some ⟨ob0, 0, none⟩) Ra.n1 Ra.n1) (.slice none 0 0) Ra Rb ∧ OfOwn wr base0 ob0 Ra.n1 (ofTo (·.1) c.fr c.fr.length) U0 ∧ c.mb < base0) ∨
   (i = 2 ∧ ∃ ob0 base0 U0 ob1 base1 U1, CIn w wr c (.slice (some ⟨ob0, 0, none⟩) Ra.n1 Ra.n1) (.slice (some ⟨ob1, 0, none⟩) Rb.n1 Rb.n1) Ra Rb ∧ OfOwn wr base0 ob0 Ra.n1 (ofTo (·.1) c.fr c.fr.length) U0 ∧ c.mb < base0 ∧ OfOwn wr base1 ob1 Rb.n1 (ofTo (·.2) c.fr c.fr.length) U1 ∧ c.mb < base1))
end Go.Proofs.Ybulkatiq
