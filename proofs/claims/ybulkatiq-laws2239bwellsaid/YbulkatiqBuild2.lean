/-
  zzs2239bbuild.
-/
import Derived.Test.YbulkatiqBuild
namespace Go.Proofs.Ybulkatiq
open Go.ChangeShapes Go.WideShapes Go.ChangeAt Go.RowKit Go.Maps Go.WideMaps

/-- The plain data of a relation: classes, cells, exceptions. -/
structure Dat where
  a0 : Nat → Nat
  n0 : Nat
  a1 : Nat → Nat
  n1 : Nat
  c : Nat → Nat
  ex : Value

def Dat.cells (d : Dat) : Array Value := #[.int .u8 (d.a0 0), .int .u8 (d.a0 1), .int .u8 (d.a0 2), .int .u8 (d.a0 3), .int .u8 d.n0, .int .u8 (d.a1 0), .int .u8 (d.a1 1), .int .u8 (d.a1 2), .int .u8 (d.a1 3), .int .u8 d.n1,
  .int .u8 (d.c 0), .int .u8 (d.c 1), .int .u8 (d.c 2), .int .u8 (d.c 3), .int .u8 (d.c 4), .int .u8 (d.c 5), .int .u8 (d.c 6), .int .u8 (d.c 7), .int .u8 (d.c 8), .int .u8 (d.c 9), .int .u8 (d.c 10), .int .u8 (d.c 11), .int .u8 (d.c 12), .int .u8 (d.c 13), .int .u8 (d.c 14), .int .u8 (d.c 15), d.ex]

structure BW (w wr : World) (d : Dat) (m0 : Value) (n0 : Nat) (m1 : Value) (n1 : Nat) (rv ex : Value) : Prop where
  bel : Below w.heap.size w wr
  dat : wr.heap[w.heap.size]? = some (.cells d.cells 33 (0, 0))
  rel : wr.heap[w.heap.size + 1]? = some (.cells #[m0, .int .i32 n0, m1, .int .i32 n1, rv, ex] 50 (0, 0))

section
variable {w wr wx : World} {d : Dat} {m0 m1 rv ex : Value} {n0 n1 : Nat}
theorem BW.grown (h : BW w wr d m0 n0 m1 n1 rv ex) {g : Option Nat} (hg : wr.grownBy wx g) (hgb : ∀ b, g = some b → w.heap.size + 2 ≤ b) : BW w wx d m0 n0 m1 n1 rv ex :=
  ⟨h.bel.grown hg h.bel.size (fun b e => by have := hgb b e; omega), (hg.block _ (lt_of_block h.dat) (fun e => by have := hgb _ e.symm; omega)).trans h.dat, (hg.block _ (lt_of_block h.rel) (fun e => by have := hgb _ e.symm; omega)).trans h.rel⟩
theorem BW.below (h : BW w wr d m0 n0 m1 n1 rv ex) (hb : Below wr.heap.size wr wx) : BW w wx d m0 n0 m1 n1 rv ex :=
  ⟨h.bel.trans (below_le hb h.bel.size), (hb.block _ (lt_of_block h.dat)).trans h.dat, (hb.block _ (lt_of_block h.rel)).trans h.rel⟩
theorem BW.r (h : BW w wr d m0 n0 m1 n1 rv ex) : wr.cell? ⟨w.heap.size + 1, 0, none⟩ = some m0 ∧ wr.cell? ⟨w.heap.size + 1, 1, none⟩ = some (.int .i32 n0) ∧ wr.cell? ⟨w.heap.size + 1, 2, none⟩ = some m1 ∧ wr.cell? ⟨w.heap.size + 1, 3, none⟩ = some (.int .i32 n1) ∧
    wr.cell? ⟨w.heap.size + 1, 4, none⟩ = some rv ∧ wr.cell? ⟨w.heap.size + 1, 5, none⟩ = some ex := by
  unfold World.cell?; rw [h.rel]; exact ⟨rfl, rfl, rfl, rfl, rfl, rfl⟩
theorem BW.f (h : BW w wr d m0 n0 m1 n1 rv ex) (j : Nat) : wr.frozen? ⟨w.heap.size + 1, j, none⟩ = false := by simp [World.frozen?, h.rel]
theorem BW.setOwn (h : BW w wr d m0 n0 m1 n1 rv ex) (hg : wr.grownBy wx (some (w.heap.size + 1))) {m0' m1' rv' ex' : Value} {n0' n1' : Nat} (hr : wx.heap[w.heap.size + 1]? = some (.cells #[m0', .int .i32 n0', m1', .int .i32 n1', rv', ex'] 50 (0, 0))) : BW w wx d m0' n0' m1' n1' rv' ex' :=
  ⟨h.bel.grown hg h.bel.size (fun b e => by simp only [Option.some.injEq] at e; omega), (hg.block _ (lt_of_block h.dat) (fun e => by simp only [Option.some.injEq] at e; omega)).trans h.dat, hr⟩
theorem BW.side0 (h : BW w wr d m0 n0 m1 n1 rv ex) (m : Value) (n : Nat) : BW w ((wr.setCell ⟨w.heap.size + 1, 0, none⟩ m).setCell ⟨w.heap.size + 1, 1, none⟩ (.int .i32 n)) d m n m1 n1 rv ex :=
  h.setOwn (grown_setCell (grown_setCell (World.grownBy.refl wr _))) (heap_setCell_same _ _ 1 _ 50 _ (heap_setCell_same wr _ 0 _ 50 _ h.rel))
theorem BW.side1 (h : BW w wr d m0 n0 m1 n1 rv ex) (m : Value) (n : Nat) : BW w ((wr.setCell ⟨w.heap.size + 1, 2, none⟩ m).setCell ⟨w.heap.size + 1, 3, none⟩ (.int .i32 n)) d m0 n0 m n rv ex :=
  h.setOwn (grown_setCell (grown_setCell (World.grownBy.refl wr _))) (heap_setCell_same _ _ 3 _ 50 _ (heap_setCell_same wr _ 2 _ 50 _ h.rel))
theorem BW.rows (h : BW w wr d m0 n0 m1 n1 rv ex) (v : Value) : BW w (wr.setCell ⟨w.heap.size + 1, 4, none⟩ v) d m0 n0 m1 n1 v ex :=
  h.setOwn (grown_setCell (World.grownBy.refl wr _)) (heap_setCell_same wr _ 4 _ 50 _ h.rel)
theorem BW.exc (h : BW w wr d m0 n0 m1 n1 rv ex) (v : Value) : BW w (wr.setCell ⟨w.heap.size + 1, 5, none⟩ v) d m0 n0 m1 n1 rv v :=
  h.setOwn (grown_setCell (World.grownBy.refl wr _)) (heap_setCell_same wr _ 5 _ 50 _ h.rel)
/-- What region 2 reads. -/
theorem BW.keep2 (h : BW w wr d m0 n0 m1 n1 rv ex) (hb : Below wr.heap.size wr wx) : wx.cell? ⟨w.heap.size, 0, none⟩ = some (.int .u8 (d.a0 0)) ∧ wx.cell? ⟨w.heap.size, 1, none⟩ = some (.int .u8 (d.a0 1)) ∧ wx.cell? ⟨w.heap.size, 2, none⟩ = some (.int .u8 (d.a0 2)) ∧ wx.cell? ⟨w.heap.size, 3, none⟩ = some (.int .u8 (d.a0 3)) ∧ wx.cell? ⟨w.heap.size, 4, none⟩ = some (.int .u8 d.n0) ∧
    wx.cell? ⟨w.heap.size + 1, 0, none⟩ = some m0 ∧ wx.cell? ⟨w.heap.size + 1, 1, none⟩ = some (.int .i32 n0) ∧ wx.frozen? ⟨w.heap.size + 1, 0, none⟩ = false ∧ wx.frozen? ⟨w.heap.size + 1, 1, none⟩ = false ∧ Below wr.heap.size wr wx := by
  have h2 := h.below hb
  refine ⟨?_, ?_, ?_, ?_, ?_, h2.r.1, h2.r.2.1, h2.f 0, h2.f 1, hb⟩ <;> (unfold World.cell?; rw [h2.dat]; rfl)
theorem BW.keep3 (h : BW w wr d m0 n0 m1 n1 rv ex) (hb : Below wr.heap.size wr wx) : wx.cell? ⟨w.heap.size, 5, none⟩ = some (.int .u8 (d.a1 0)) ∧ wx.cell? ⟨w.heap.size, 5 + 1, none⟩ = some (.int .u8 (d.a1 1)) ∧ wx.cell? ⟨w.heap.size, 5 + 2, none⟩ = some (.int .u8 (d.a1 2)) ∧ wx.cell? ⟨w.heap.size, 5 + 3, none⟩ = some (.int .u8 (d.a1 3)) ∧ wx.cell? ⟨w.heap.size, 9, none⟩ = some (.int .u8 d.n1) ∧
    wx.cell? ⟨w.heap.size + 1, 2, none⟩ = some m1 ∧ wx.cell? ⟨w.heap.size + 1, 3, none⟩ = some (.int .i32 n1) ∧ wx.frozen? ⟨w.heap.size + 1, 2, none⟩ = false ∧ wx.frozen? ⟨w.heap.size + 1, 3, none⟩ = false ∧ Below wr.heap.size wr wx := by
  have h2 := h.below hb
  refine ⟨?_, ?_, ?_, ?_, ?_, h2.r.2.2.1, h2.r.2.2.2.1, h2.f 2, h2.f 3, hb⟩ <;> (unfold World.cell?; rw [h2.dat]; rfl)
end

theorem ClsB.grown {B : Nat} {w w' : World} {v : Value} {n p : Nat} {of : ByteArray → Nat} {cs : Array Value} {t : TypeId} (h : ClsB B w v n of) (hg : w.grownBy w' (some p)) (hp : w.heap[p]? = some (.cells cs t (0, 0))) : ClsB B w' v n of := by
  refine ⟨h.lt, ?_⟩
  rcases h.shape with h1 | ⟨b, N, D, rfl, ho, hN, hd⟩
  · exact .inl h1
  · refine .inr ⟨b, N, D, rfl, ho.kept hg (fun e => ?_), hN, hd⟩
    obtain ⟨es, clock, h1, _⟩ := ho
    simp only [Option.some.injEq] at e
    rw [e, hp] at h1
    cases h1

theorem BW.start (w : World) (d : Dat) : BW w ((w.alloc (.cells d.cells 33)).alloc (.cells #[.map none, .int .i32 0, .map none, .int .i32 0, .slice none 0 0, .map none] 50)) d (.map none) 0 (.map none) 0 (.slice none 0 0) (.map none) := by
  have h1 := heap_new (w.alloc (.cells d.cells 33)) (.cells #[.map none, .int .i32 0, .map none, .int .i32 0, .slice none 0 0, .map none] 50)
  rw [show (w.alloc (.cells d.cells 33)).heap.size = w.heap.size + 1 by simp] at h1
  exact ⟨((Below.refl _ _).alloc (Nat.le_refl _) _).alloc (by simp) _, heap_old (heap_new w _), h1⟩

theorem info57 : (Yba.prog.info? 57).map (fun i => (i.zero, i.size, i.bytes)) = some (some (.agg #[.int .u8 0, .slice none 0 0]), 2, 32) := by kernel_rfl

theorem BW.dcell {w wr : World} {d : Dat} {m0 m1 rv ex : Value} {n0 n1 : Nat} (h : BW w wr d m0 n0 m1 n1 rv ex) {i : Nat} (hi : i < 16) : wr.cell? ⟨w.heap.size, 10 + i, none⟩ = some (.int .u8 (d.c i)) := by
  unfold World.cell?
  rw [h.dat]
  match i with
  | 0 | 1 | 2 | 3 | 4 | 5 | 6 | 7 | 8 | 9 | 10 | 11 | 12 | 13 | 14 | 15 => rfl
  | n + 16 => omega

theorem RowOk.mono {n n' c : Nat} {l : List (Nat × Nat)} (h : RowOk n c l) (hn : n ≤ n') : RowOk n' c l := ⟨h.cell, h.asc, fun i p hp => by have := h.each i p hp; exact ⟨by omega, this.2⟩⟩
theorem RowOk.snoc {i c x : Nat} {l : List (Nat × Nat)} (h : RowOk i c l) (hx : x < 4) (hne : x ≠ c) : RowOk (i + 1) c (l ++ [(i, x)]) := by
  refine ⟨h.cell, asc_append h.asc _ (fun p hp => ?_), fun j p hp => ?_⟩
  · obtain ⟨j, hj, e⟩ := List.getElem_of_mem hp
    exact (h.each j p (by rw [← e]; simp [hj])).1
  · rcases Nat.lt_or_ge j l.length with h1 | h1
    · rw [List.getElem?_append_left h1] at hp
      have := h.each j p hp
      exact ⟨by omega, this.2⟩
    · have hj := (List.getElem?_eq_some_iff.1 hp).1
      simp at hj
      have : j = l.length := by omega
      subst this
      simp at hp
      subst hp
      exact ⟨by simp, hx, hne⟩

theorem DiffAt.shape {w : World} {v : Value} {l : List (Nat × Nat)} (h : DiffAt w v l) : ∃ a cap, v = .slice a l.length cap := by
  obtain ⟨a, cap, hv, _⟩ := h
  exact ⟨a, cap, hv⟩

/-- What the rows' loop keeps. -/
structure RS (w wr : World) (d : Dat) (m0 : Value) (n0 : Nat) (m1 : Value) (n1 : Nat) (of0 of1 : ByteArray → Nat) (rb : Nat) (rows : List (Nat × List (Nat × Nat))) : Prop where
  bw : BW w wr d m0 n0 m1 n1 (.slice (some ⟨rb, 0, none⟩) n0 n0) (.map none)
  c0 : ClsAt wr m0 n0 of0
  c1 : ClsAt wr m1 n1 of1
  far : w.heap.size + 2 ≤ rb
  row : ∃ cur, wr.heap[rb]? = some (.cells cur 57 (0, 0)) ∧ cur.size = n0 * 2
  rows : RowsAt wr rb 0 n1 rows

theorem RS.below {w wr wx : World} {d : Dat} {m0 m1 : Value} {n0 n1 rb : Nat} {of0 of1 : ByteArray → Nat} {rows : List (Nat × List (Nat × Nat))} (h : RS w wr d m0 n0 m1 n1 of0 of1 rb rows) (hb : Below wr.heap.size wr wx) : RS w wx d m0 n0 m1 n1 of0 of1 rb rows :=
  ⟨h.bw.below hb, h.c0.below hb, h.c1.below hb, h.far, by obtain ⟨cur, h1, h2⟩ := h.row; exact ⟨cur, (hb.block _ (lt_of_block h1)).trans h1, h2⟩, h.rows.below hb⟩

theorem BW.drewN {w wr : World} {d : Dat} {m0 m1 rv ex : Value} {n0 n1 : Nat} (h : BW w wr d m0 n0 m1 n1 rv ex) (q : Nat) : BW w (wr.drewN q) d m0 n0 m1 n1 rv ex := ⟨below_drewN h.bel q, h.dat, h.rel⟩
theorem ClsB.drewN {B : Nat} {w : World} {v : Value} {n : Nat} {of : ByteArray → Nat} (h : ClsB B w v n of) (q : Nat) : ClsB B (w.drewN q) v n of := h.below (below_drewN (Below.refl _ _) q)
theorem ClsB.grownN {B : Nat} {w w' : World} {v : Value} {n : Nat} {of : ByteArray → Nat} (h : ClsB B w v n of) (hg : w.grownBy w' none) : ClsB B w' v n of := h.below ((Below.refl _ _).grown hg (Nat.le_refl _) (fun k hk => by cases hk))

theorem RS.start {w wr w1 : World} {d : Dat} {m0 m1 : Value} {n0 n1 nq : Nat} {of0 of1 : ByteArray → Nat} {xs : List Value} (h : BW w wr d m0 n0 m1 n1 (.slice none 0 0) (.map none)) (h0 : ClsAt wr m0 n0 of0) (h1 : ClsAt wr m1 n1 of1) (hg : (wr.drewN nq).grownBy w1 none)
    (hrow : w1.ownsRow (w.heap.size + 2) 57 2 (.slice (some ⟨wr.heap.size, 0, none⟩) n0 n0) n0 xs) : RS w (w1.setCell ⟨w.heap.size + 1, 4, none⟩ (.slice (some ⟨wr.heap.size, 0, none⟩) n0 n0)) d m0 n0 m1 n1 of0 of1 wr.heap.size [] := by
  have hb := (h.drewN nq).grown hg (fun b e => by cases e)
  have hs : w1.grownBy (w1.setCell ⟨w.heap.size + 1, 4, none⟩ (.slice (some ⟨wr.heap.size, 0, none⟩) n0 n0)) (some (w.heap.size + 1)) := grown_setCell (World.grownBy.refl w1 _)
  have hfar := lt_of_block h.rel
  refine ⟨hb.rows _, ((h0.drewN nq).grownN hg).grown hs hb.rel, ((h1.drewN nq).grownN hg).grown hs hb.rel, by omega, ?_, fun k r hr => by simp at hr⟩
  rcases hrow.2 with ⟨e, _⟩ | ⟨g, cap, cur, e, _, hgg, _, _, hcs, _⟩
  · cases e
  · simp only [Value.slice.injEq, Option.some.injEq, Addr.mk.injEq, true_and, and_true] at e
    obtain ⟨rfl, rfl⟩ := e
    exact ⟨cur, (hs.block _ (lt_of_block hgg) (fun e => by simp only [Option.some.injEq] at e; omega)).trans hgg, hcs⟩

theorem RS.slot {w wr : World} {d : Dat} {m0 m1 : Value} {n0 n1 rb k : Nat} {of0 of1 : ByteArray → Nat} {rows : List (Nat × List (Nat × Nat))} (h : RS w wr d m0 n0 m1 n1 of0 of1 rb rows) (hk : k < n0) :
    ∃ x0 x1, wr.cell? ⟨w.heap.size + 1, 4, none⟩ = some (.slice (some ⟨rb, 0, none⟩) n0 n0) ∧ wr.cell? ⟨rb, k * 2, none⟩ = some x0 ∧ wr.cell? ⟨rb, k * 2 + 1, none⟩ = some x1 ∧ wr.frozen? ⟨rb, k * 2, none⟩ = false ∧ wr.frozen? ⟨rb, k * 2 + 1, none⟩ = false := by
  obtain ⟨cur, h1, h2⟩ := h.row
  refine ⟨cur[k * 2]'(by omega), cur[k * 2 + 1]'(by omega), h.bw.r.2.2.2.2.1, ?_, ?_, ?_, ?_⟩
  · simp [World.cell?, h1, show k * 2 < cur.size by omega]
  · simp [World.cell?, h1, show k * 2 + 1 < cur.size by omega]
  · simp [World.frozen?, h1]
  · simp [World.frozen?, h1]

theorem RS.put {w wr : World} {d : Dat} {m0 m1 : Value} {n0 n1 rb : Nat} {of0 of1 : ByteArray → Nat} {rows : List (Nat × List (Nat × Nat))} (h : RS w wr d m0 n0 m1 n1 of0 of1 rb rows) (hk : rows.length < n0) {c : Nat} {v : Value} {l : List (Nat × Nat)} (hro : RowOk n1 c l) (hdf : DiffAt wr v l) :
    RS w ((wr.setCell ⟨rb, rows.length * 2, none⟩ (.int .u8 (c : Nat))).setCell ⟨rb, rows.length * 2 + 1, none⟩ v) d m0 n0 m1 n1 of0 of1 rb (rows ++ [(c, l)]) := by
  obtain ⟨cur, h1, h2⟩ := h.row
  have hg : wr.grownBy ((wr.setCell ⟨rb, rows.length * 2, none⟩ (.int .u8 (c : Nat))).setCell ⟨rb, rows.length * 2 + 1, none⟩ v) (some rb) := grown_setCell (grown_setCell (World.grownBy.refl wr _))
  have g1 := heap_setCell_same wr rb (rows.length * 2) _ 57 (.int .u8 (c : Nat)) h1
  have g2 := heap_setCell_same _ rb (rows.length * 2 + 1) _ 57 v g1
  generalize ((wr.setCell ⟨rb, rows.length * 2, none⟩ (.int .u8 (c : Nat))).setCell ⟨rb, rows.length * 2 + 1, none⟩ v) = W at *
  have hcell : ∀ j, W.cell? ⟨rb, j, none⟩ = ((cur.setIfInBounds (rows.length * 2) (.int .u8 (c : Nat))).setIfInBounds (rows.length * 2 + 1) v)[j]? := fun j => by simp [World.cell?, g2]
  have hold : ∀ j, wr.cell? ⟨rb, j, none⟩ = cur[j]? := fun j => by simp [World.cell?, h1]
  have hfar := h.far
  refine ⟨h.bw.grown hg (fun b e => by simp only [Option.some.injEq] at e; omega), h.c0.grown hg h1, h.c1.grown hg h1, h.far, ⟨_, g2, by simp [h2]⟩, fun k r hr => ?_⟩
  rcases Nat.lt_or_ge k rows.length with hk1 | hk1
  · rw [List.getElem?_append_left hk1] at hr
    obtain ⟨e1, e2, u, e3, e4⟩ := h.rows k r hr
    refine ⟨e1, ?_, u, ?_, e4.kept hg h1 (by decide)⟩
    · rw [hcell, Array.getElem?_setIfInBounds_ne (by omega), Array.getElem?_setIfInBounds_ne (by omega), ← hold]; exact e2
    · rw [hcell, Array.getElem?_setIfInBounds_ne (by omega), Array.getElem?_setIfInBounds_ne (by omega), ← hold]; exact e3
  · have hj := (List.getElem?_eq_some_iff.1 hr).1
    simp at hj
    have : k = rows.length := by omega
    subst this
    simp at hr
    subst hr
    refine ⟨hro, ?_, v, ?_, hdf.kept hg h1 (by decide)⟩
    · rw [hcell, Nat.zero_add, Array.getElem?_setIfInBounds_ne (by omega), Array.getElem?_setIfInBounds_self_of_lt (by omega)]
    · rw [hcell, Nat.zero_add, Array.getElem?_setIfInBounds_self_of_lt (by simp; omega)]

/-- What the exceptions' loop keeps. -/
structure ES (w wr : World) (d : Dat) (m0 : Value) (n0 : Nat) (m1 : Value) (n1 : Nat) (of0 of1 : ByteArray → Nat) (rb : Nat) (rows : List (Nat × List (Nat × Nat))) (mb N : Nat) (D : DataW Unit) : Prop where
  bw : BW w wr d m0 n0 m1 n1 (.slice (some ⟨rb, 0, none⟩) n0 n0) (.map (some mb))
  c0 : ClsAt wr m0 n0 of0
  c1 : ClsAt wr m1 n1 of1
  rows : RowsAt wr rb 0 n1 rows
  far : w.heap.size + 2 ≤ mb
  mine : ∀ b, m0 = .map (some b) ∨ m1 = .map (some b) → b ≠ mb
  own : wr.ownsMap Yba.prog 60 (plainElem (H := Unit) Yba.prog 4) mb N D

theorem RowsAt.kept {w w' : World} {rb ro n1 p : Nat} {rows : List (Nat × List (Nat × Nat))} {es : Array MapEntry} {ck : Nat} (h : RowsAt w rb ro n1 rows) (hg : w.grownBy w' (some p)) (hp : w.heap[p]? = some (.map es ck)) : RowsAt w' rb ro n1 rows := fun k r hr => by
  have other : ∀ (a : Addr) (u : Value), w.cell? a = some u → w'.cell? a = some u := fun a u hu => by
    have hne : a.block ≠ p := fun e => by unfold World.cell? at hu; rw [e, hp] at hu; cases hu
    have := hg.block a.block (block_lt_of_cell hu) (fun e => hne (Option.some.inj e))
    unfold World.cell? at hu ⊢
    rw [this]
    exact hu
  obtain ⟨h1, h2, v, h3, a, cap, hv, hc, hd⟩ := h k r hr
  refine ⟨h1, other _ _ h2, v, other _ _ h3, a, cap, hv, hc, ?_⟩
  rcases hd with hd | ⟨b, off, cur, ha, hk, hd⟩
  · exact .inl hd
  · refine .inr ⟨b, off, cur, ha, (hg.block b (lt_of_block hk) (fun e => by simp only [Option.some.injEq] at e; rw [e, hp] at hk; cases hk)).trans hk, fun i q hq => ⟨other _ _ (hd i q hq).1, other _ _ (hd i q hq).2⟩⟩

theorem ClsB.keptM {B : Nat} {w w' : World} {v : Value} {n p : Nat} {of : ByteArray → Nat} (h : ClsB B w v n of) (hg : w.grownBy w' (some p)) (hne : ∀ b, v = .map (some b) → b ≠ p) : ClsB B w' v n of := by
  refine ⟨h.lt, ?_⟩
  rcases h.shape with h1 | ⟨b, N, D, rfl, ho, hN, hd⟩
  · exact .inl h1
  · exact .inr ⟨b, N, D, rfl, ho.kept hg (fun e => hne b rfl (Option.some.inj e)), hN, hd⟩

theorem ES.put {w wr w' : World} {d : Dat} {m0 m1 : Value} {n0 n1 rb mb N : Nat} {of0 of1 : ByteArray → Nat} {rows : List (Nat × List (Nat × Nat))} {D D' : DataW Unit} (h : ES w wr d m0 n0 m1 n1 of0 of1 rb rows mb N D) (hg : wr.drew.grownBy w' (some mb))
    (hown : w'.ownsMap Yba.prog 60 (plainElem (H := Unit) Yba.prog 4) mb (N + 1) D') : ES w w' d m0 n0 m1 n1 of0 of1 rb rows mb (N + 1) D' := by
  have hfar := h.far
  obtain ⟨es, ck, hm, _⟩ := h.own
  have h0 : ClsAt wr.drew m0 n0 of0 := h.c0.drewN 1
  have h1 : ClsAt wr.drew m1 n1 of1 := h.c1.drewN 1
  have hr : RowsAt wr.drew rb 0 n1 rows := h.rows.below (below_drewN (Below.refl _ _) 1)
  exact ⟨(h.bw.drewN 1).grown hg (fun b e => by simp only [Option.some.injEq] at e; omega), h0.keptM hg (fun b e => h.mine b (.inl e)), h1.keptM hg (fun b e => h.mine b (.inr e)), hr.kept hg hm, h.far, h.mine, hown⟩

theorem RS.es {w wr : World} {d : Dat} {m0 m1 : Value} {n0 n1 rb : Nat} {of0 of1 : ByteArray → Nat} {rows : List (Nat × List (Nat × Nat))} (h : RS w wr d m0 n0 m1 n1 of0 of1 rb rows) :
    ES w ((wr.alloc (.map #[] 0)).setCell ⟨w.heap.size + 1, 5, none⟩ (.map (some wr.heap.size))) d m0 n0 m1 n1 of0 of1 rb rows wr.heap.size 0 (.map []) := by
  have ha := h.below ((Below.refl _ _).alloc (Nat.le_refl _) (.map #[] 0))
  have hs : (wr.alloc (.map #[] 0)).grownBy ((wr.alloc (.map #[] 0)).setCell ⟨w.heap.size + 1, 5, none⟩ (.map (some wr.heap.size))) (some (w.heap.size + 1)) := grown_setCell (World.grownBy.refl _ _)
  have hfar := lt_of_block h.bw.rel
  have hm := World.ownsMap_made wr Yba.prog 60 (plainElem (H := Unit) Yba.prog 4)
  refine ⟨ha.bw.exc _, ha.c0.grown hs ha.bw.rel, ha.c1.grown hs ha.bw.rel, fun k r hr => ?_, by omega, fun b hb e => ?_, hm.kept hs (fun e => by simp only [Option.some.injEq] at e; omega)⟩
  · obtain ⟨cur, hrow, _⟩ := ha.row
    have hrb := h.far
    obtain ⟨e1, e2, u, e3, e4⟩ := ha.rows k r hr
    have other : ∀ (a : Addr) (x : Value), a.block = rb → (wr.alloc (.map #[] 0)).cell? a = some x → ((wr.alloc (.map #[] 0)).setCell ⟨w.heap.size + 1, 5, none⟩ (.map (some wr.heap.size))).cell? a = some x := fun a x hab hx => by
      have := hs.block a.block (block_lt_of_cell hx) (fun e => by simp only [Option.some.injEq] at e; omega)
      unfold World.cell? at hx ⊢
      rw [this]
      exact hx
    exact ⟨e1, other _ _ rfl e2, u, other _ _ rfl e3, e4.kept hs ha.bw.rel (by decide)⟩
  · subst e
    rcases hb with rfl | rfl
    · rcases h.c0.shape with ⟨e, _⟩ | ⟨b, N, D, e, ho, _⟩
      · cases e
      · cases e; have := ho.lt; omega
    · rcases h.c1.shape with ⟨e, _⟩ | ⟨b, N, D, e, ho, _⟩
      · cases e
      · cases e; have := ho.lt; omega

theorem and3s : ((List.range 256).all fun e => bits .and .u8 (e : Int) 3 == ((e % 4 : Nat) : Int)) = true := by kernel_rfl
theorem and3 {e : Nat} (h : e < 256) : bits .and .u8 (e : Int) 3 = ((e % 4 : Nat) : Int) := by
  have := List.all_eq_true.1 and3s e (List.mem_range.2 h)
  simpa using this

theorem wrap_small {x : Nat} (h : x ≤ 1024) : IntKind.i64.wrap (x : Int) = (x : Int) := by
  simp [IntKind.wrap, IntKind.bits, IntKind.signed]
  omega

/-- The row of exceptions, as it came in. -/
def ExIn (w : World) (v : Value) : Prop := ∃ a len cap, v = .slice a len cap ∧ len ≤ 1024 ∧ (len = 0 ∨ ∃ b off, a = some ⟨b, off, none⟩ ∧ ∀ i, i < len → ∃ e : Nat, e < 256 ∧ w.cell? ⟨b, off + i, none⟩ = some (.int .u8 (e : Nat)))

/-- Rows over one class list nothing. -/
def Can (n1 : Nat) (rows : List (Nat × List (Nat × Nat))) : Prop := n1 = 1 → ∀ r ∈ rows, r.2 = []
theorem Can.snoc {n1 c : Nat} {rows : List (Nat × List (Nat × Nat))} {l : List (Nat × Nat)} (h : Can n1 rows) (hl : n1 = 1 → l = []) : Can n1 (rows ++ [(c, l)]) := fun e r hr => by
  rcases List.mem_append.1 hr with h1 | h1
  · exact h e r h1
  · simp only [List.mem_singleton] at h1
    subst h1
    exact hl e

/-- What zzs2239bbuild leaves. -/
def BuildPost (w : World) (e : Ending) (w' : World) : Prop :=
  ∃ (p : Nat) (R : Rel), e = .returned (.pointer (some ⟨p, 0, none⟩)) ∧ RelAt w' p R ∧ 0 < R.n0 ∧ 0 < R.n1 ∧ R.n0 ≤ 4 ∧ R.n1 ≤ 4 ∧ R.eb ≤ 4096 ∧ R.nb ≤ 4 ∧ Can R.n1 R.rows ∧ (∃ b, R.ex = .map (some b)) ∧ w.heap.size ≤ p ∧ Below w.heap.size w w'

theorem ES.post {w wr : World} {d : Dat} {m0 m1 : Value} {n0 n1 rb mb N : Nat} {of0 of1 : ByteArray → Nat} {rows : List (Nat × List (Nat × Nat))} {D : DataW Unit} (h : ES w wr d m0 n0 m1 n1 of0 of1 rb rows mb N D) (hl : rows.length = n0) (h01 : 1 ≤ n0) (h04 : n0 ≤ 4) (h11 : 1 ≤ n1) (h14 : n1 ≤ 4) (hN : N ≤ 4096) (hcan : Can n1 rows) :
    BuildPost w (.returned (.pointer (some ⟨w.heap.size + 1, 0, none⟩))) wr :=
  ⟨w.heap.size + 1, ⟨m0, n0, m1, n1, rb, 0, n0, .map (some mb), of0, of1, excOf D, rows, N, 4⟩, rfl, ⟨h.bw.r.1, h.bw.r.2.1, h.bw.r.2.2.1, h.bw.r.2.2.2.1, h.bw.r.2.2.2.2.1, h.bw.r.2.2.2.2.2, h.c0, h.c1, .inr ⟨mb, N, D, rfl, h.own, Nat.le_refl _, fun _ _ => rfl⟩, hl, ⟨by show n0 ≤ 16; omega, by show n1 ≤ 16; omega⟩, h.rows⟩, h01, h11, h04, h14, hN, Nat.le_refl _, hcan, ⟨mb, rfl⟩, by omega, h.bw.bel⟩

structure DatOk (d : Dat) : Prop where
  a0 : ∀ i, d.a0 i < 256
  n0 : d.n0 < 256
  a1 : ∀ i, d.a1 i < 256
  n1 : d.n1 < 256
  c : ∀ i, d.c i < 256

set_option maxRecDepth 100000 in
set_option maxHeartbeats 1600000 in
theorem build11 (d : Dat) (hd : DatOk d) (w : World) (hex : ExIn w d.ex) : Calls Yba.prog 11 #[.agg d.cells] w (BuildPost w) := by
  have HEX := hid hex
  clear hex
  have HB := hid (BW.start w d)
  have HD := hid hd
  clear hd
  generalize hdc : d.cells = dc at HB ⊢
  have HDC := hid hdc
  clear hdc
  go_enter Yba.func11, Yba.ntmps11
  go_upto_region 2 with fail
  generalize (w.alloc (.cells dc 33)).alloc (.cells #[.map none, .int .i32 0, .map none, .int .i32 0, .slice none 0 0, .map none] 50) = W0 at HB ⊢
  go_cut [20] from 15 to 23 (fun _ wx => ∃ m n of, BW w wx d m n (.map none) 0 (.slice none 0 0) (.map none) ∧ ClsAt wx m n of ∧ 1 ≤ n ∧ n ≤ 4)
  case first =>
    have KP := hid (fun W (h : Below W0.heap.size W0 W) => HB.out.keep2 h)
    have hb0 : Below W0.heap.size W0 W0.drew := (Below.refl W0.heap.size W0).drew
    obtain ⟨k0, k1, k2, k3, k4, _⟩ := KP.out _ hb0
    go_region_held3 (fun wx => wx.cell? ⟨w.heap.size, 0, none⟩ = some (.int .u8 (d.a0 0)) ∧ wx.cell? ⟨w.heap.size, 1, none⟩ = some (.int .u8 (d.a0 1)) ∧ wx.cell? ⟨w.heap.size, 2, none⟩ = some (.int .u8 (d.a0 2)) ∧ wx.cell? ⟨w.heap.size, 3, none⟩ = some (.int .u8 (d.a0 3)) ∧ wx.cell? ⟨w.heap.size, 4, none⟩ = some (.int .u8 d.n0))
      (first | exact ⟨by assumption, by assumption, by assumption, by assumption, by assumption⟩ | go_keep)
      ((go_at_call 18; refine (classes18 d.a0 d.n0 HD.out.a0 HD.out.n0 _).mono ?_; rintro e w' ⟨b, m, of, rfl, hcls, hm1, hm4, hb⟩; have hbn : Below W0.heap.size W0 w' := hb0.trans (below_le hb (Nat.le_refl _)); obtain ⟨q0, q1, q2, q3, q4, r0, r1, f0, f1, _⟩ := KP.out w' hbn))
    have HX := hid (BW.side0 (HB.out.below hbn) (.map (some b)) m)
    have HY := hid (hcls.grown (grown_setCell (o := 1) (v := .int .i32 (m : Nat)) (grown_setCell (o := 0) (v := .map (some b)) (World.grownBy.refl w' (some (w.heap.size + 1))))) (HB.out.below hbn).rel)
    go_wp2_with fail
    go_meet
    case rel => exact ⟨.map (some b), m, of, HX.out, HY.out, hm1, hm4⟩
  case rest =>
    obtain ⟨m0, n0, of0, hbw, hc0, h01, h04⟩ := hcut
    clear HB
    have HB := hid hbw
    have HC0 := hid hc0
    clear hbw hc0 W0
    generalize wc = W0 at HB HC0 ⊢
    go_upto_region 3 with fail
    go_cut [29] from 15 to 32 (fun _ wx => ∃ m n of, BW w wx d m0 n0 m n (.slice none 0 0) (.map none) ∧ ClsAt wx m0 n0 of0 ∧ ClsAt wx m n of ∧ 1 ≤ n ∧ n ≤ 4)
    case first =>
      have KP := hid (fun W (h : Below W0.heap.size W0 W) => HB.out.keep3 h)
      have hb0 : Below W0.heap.size W0 W0.drew := (Below.refl W0.heap.size W0).drew
      obtain ⟨k0, k1, k2, k3, k4, _⟩ := KP.out _ hb0
      go_region_held3 (fun wx => wx.cell? ⟨w.heap.size, 5, none⟩ = some (.int .u8 (d.a1 0)) ∧ wx.cell? ⟨w.heap.size, 5 + 1, none⟩ = some (.int .u8 (d.a1 1)) ∧ wx.cell? ⟨w.heap.size, 5 + 2, none⟩ = some (.int .u8 (d.a1 2)) ∧ wx.cell? ⟨w.heap.size, 5 + 3, none⟩ = some (.int .u8 (d.a1 3)) ∧ wx.cell? ⟨w.heap.size, 9, none⟩ = some (.int .u8 d.n1))
        (first | exact ⟨by assumption, by assumption, by assumption, by assumption, by assumption⟩ | go_keep)
        ((go_at_call 18; refine (classes18 d.a1 d.n1 HD.out.a1 HD.out.n1 _).mono ?_; rintro e w' ⟨b, m, of, rfl, hcls, hm1, hm4, hb⟩; have hbn : Below W0.heap.size W0 w' := hb0.trans (below_le hb (Nat.le_refl _)); obtain ⟨q0, q1, q2, q3, q4, r0, r1, f0, f1, _⟩ := KP.out w' hbn))
      have hgr : w'.grownBy ((w'.setCell ⟨w.heap.size + 1, 2, none⟩ (.map (some b))).setCell ⟨w.heap.size + 1, 3, none⟩ (.int .i32 (m : Nat))) (some (w.heap.size + 1)) := grown_setCell (grown_setCell (World.grownBy.refl w' (some (w.heap.size + 1))))
      have HX := hid (BW.side1 (HB.out.below hbn) (.map (some b)) m)
      have HY := hid (hcls.grown hgr (HB.out.below hbn).rel)
      have HZ := hid ((HC0.out.below hbn).grown hgr (HB.out.below hbn).rel)
      clear hgr
      go_wp2_with fail
      go_meet
      case rel => exact ⟨.map (some b), m, of, HX.out, HZ.out, HY.out, hm1, hm4⟩
    case rest =>
      obtain ⟨m1, n1, of1, hbw, hc0, hc1, h11, h14⟩ := hcut
      clear HB HC0
      obtain ⟨r0, r1, r2, r3, r4, r5⟩ := hbw.r
      have rf := fun j => hbw.f j
      have HB := hid hbw
      have HC0 := hid hc0
      have HC1 := hid hc1
      have hsz := lt_of_block hbw.rel
      clear hbw hc0 hc1
      go_wp2_with fail
      go_quiet (fail)
      obtain ⟨i0, hi0, hz0, hz1, hz2⟩ := info_parts info57
      go_wp2_with (at_make; refine wpList_make_full _ rfl _ _ 47 rfl (w.heap.size + 2) 57 i0 _ 2 Yba.underlying47 hi0 hz0 hz1 .i32 .i32 (n0 : Int) (n0 : Int) n0 rfl rfl rfl rfl ?b2 ?b3 ?b4 ?_)
      case b2 => rw [hz2]; omega
      case b3 => unfold maxLen; omega
      case b4 => show w.heap.size + 2 ≤ wc.heap.size; omega
      intro w1 hrow hgr
      have hrs := RS.start HB.out HC0.out HC1.out hgr hrow
      have HRS := hid hrs
      have hb1 := (HB.out.drewN nq).grown hgr (fun b e => by cases e)
      obtain ⟨q0, q1, q2, q3, q4, q5⟩ := hb1.r
      have qf := fun j => hb1.f j
      clear r0 r1 r2 r3 r4 r5 rf hrow hgr hb1 hrs HB HC0 HC1 hsz hi0 hz0 hz1 hz2
      generalize wc.heap.size = rb at *
      go_upto_block 0 with fail
      go_cut [6] from 15 to 92 (fun _ wx => ∃ rows, rows.length = n0 ∧ Can n1 rows ∧ RS w wx d m0 n0 m1 n1 of0 of1 rb rows)
      case first =>
        generalize w1.setCell ⟨w.heap.size + 1, 4, none⟩ (.slice (some ⟨rb, 0, none⟩) n0 n0) = W2 at HRS ⊢
        clear q0 q1 q2 q3 q4 q5 qf
        go_wp2_with fail
        go_loopw [6] (fun vk wr => ∃ (k : Nat) (rows : List (Nat × List (Nat × Nat))), k ≤ n0 ∧ vk = .int .i32 k ∧ rows.length = k ∧ Can n1 rows ∧ RS w wr d m0 n0 m1 n1 of0 of1 rb rows) (fun vk _ => n0 - (intOf vk).toNat)
        case atStart => exact ⟨0, [], by omega, rfl, rfl, fun _ r hr => by simp at hr, HRS.out⟩
        case round =>
          obtain ⟨k, rows, hk, rfl, hlen, hcan, hrs⟩ := hrel
          have HCAN := hid hcan
          clear hcan
          clear HRS
          generalize wr = wo at hrs ⊢
          have HRS := hid hrs
          clear hrs
          rcases Nat.lt_or_ge k n0 with hlt | hge
          · have t1 : (k : Int) < (n0 : Int) := by omega
            have dc0 := HRS.out.bw.dcell (show k * 4 < 16 by omega)
            have hcc := HD.out.c (k * 4)
            go_upto_block 2 with fail
            have ec : ((d.c (k * 4) : Nat) : Int) % 4 = ((d.c (k * 4) % 4 : Nat) : Int) := by omega
            rw [ec]
            clear ec
            have hcm : d.c (k * 4) % 4 < 4 := by omega
            generalize d.c (k * 4) % 4 = cm at *
            go_cut [8] from 50 to 82 (fun v8 wx => ∃ l, l.length < n1 ∧ RowOk n1 cm l ∧ DiffAt wx v8 l ∧ Below wo.heap.size wo wx)
            case first =>
              clear dc0 hcc
              go_wp2_with fail
              go_loopw [8, 9] (fun v8 v9 wy => ∃ (i : Nat) (l : List (Nat × Nat)), 1 ≤ i ∧ i ≤ n1 ∧ v9 = .int .i32 i ∧ wy.ownsRow wo.heap.size 55 2 v8 l.length (cells2 l) ∧ l.length < i ∧ RowOk i cm l ∧ Below wo.heap.size wo wy) (fun _ v9 _ => n1 - (intOf v9).toNat)
              case atStart => exact ⟨1, [], by omega, by omega, rfl, World.ownsRow_nil _ _ _ _, by simp, ⟨hcm, fun i j p q _ h => by simp at h, fun i p h => by simp at h⟩, Below.refl _ _⟩
              case round =>
                obtain ⟨i, l, hi1, hin, rfl, hown, hll, hro, hb⟩ := hrel
                have HO := hid hown
                have HR := hid hro
                have HBB := hid hb
                have hsz := hb.size
                rcases Nat.lt_or_ge i n1 with hlt2 | hge2
                · have dc1 := (HRS.out.bw.below hb).dcell (show k * 4 + i < 16 by omega)
                  have hcc := HD.out.c (k * 4 + i)
                  have t2 : (i : Int) < (n1 : Int) := by omega
                  obtain ⟨ao, cv, hv⟩ := owns_shape hown
                  subst hv
                  clear hown hro hb
                  go_upto_region 15 with fail
                  have ec : ((d.c (k * 4 + i) : Nat) : Int) % 4 = ((d.c (k * 4 + i) % 4 : Nat) : Int) := by omega
                  rw [ec]
                  clear ec
                  have hci : d.c (k * 4 + i) % 4 < 4 := by omega
                  generalize d.c (k * 4 + i) % 4 = ci at *
                  cases g : ((ci : Int) != (cm : Int))
                  · go_wp2_with fail
                    go_roundw
                    case rel => exact ⟨i + 1, l, by omega, by omega, rfl, HO.out, by omega, HR.out.mono (by omega), HBB.out⟩
                    case measure => simp [intOf]; omega
                  · obtain ⟨i0, hi0, hz0, hz1, hz2⟩ := info_parts info55
                    have hne : ci ≠ cm := fun e => by simp [e] at g
                    go_wp2_with (at_builtin; refine wpList_append_own_at _ rfl _ _ 53 rfl wo.heap.size 55 i0 (.agg #[.int .i32 0, .int .u8 0]) 2 8 Yba.underlying53 hi0 hz0 hz1 hz2 rfl (by decide) (.slice ao l.length cv) l.length (cells2 l) rfl ?own ⟨wr.heap.size, 0, none⟩ 1 1 [.int .i32 (i : Int), .int .u8 (ci : Int)] rfl rfl ?d1 ?d2 ?d3 ?d4 ?d5 ?_)
                    case own => exact HO.out.alloc _
                    case d1 => exact two_new wr _ _ 55
                    case d2 => intro u hu; simp at hu; rcases hu with rfl | rfl <;> rfl
                    case d3 => unfold maxLen; omega
                    case d4 => omega
                    case d5 => simp; omega
                    intro v' w2 hown hgr _ _
                    have hlt3 := HO.out.lt
                    have H4 := hid (show w2.ownsRow wo.heap.size 55 2 v' (l ++ [(i, ci)]).length (cells2 (l ++ [(i, ci)])) from by rw [cells2_append, List.length_append]; exact hown)
                    have H5 := hid (show Below wo.heap.size wo w2 from (HBB.out.alloc hsz _).grown hgr (by simp; omega) (fun b hb => (hlt3 b hb).1))
                    clear hown hgr
                    go_wp2_with fail
                    go_roundw
                    case rel => exact ⟨i + 1, l ++ [(i, ci)], by omega, by omega, rfl, H4.out, by simp; omega, HR.out.snoc hci hne, H5.out⟩
                    case measure => simp [intOf]; omega
                · have : i = n1 := by omega
                  subst this
                  have t2 : ¬ (i : Int) < (i : Int) := by omega
                  clear hown hro hb
                  go_wp2_with fail
                  go_meet
                  case rel => exact ⟨l, hll, HR.out, own_diff HO.out, HBB.out⟩
            case rest =>
              obtain ⟨l, hln, hro, hdf, hb⟩ := hcut
              have HLN := hid hln
              clear hln
              have HR := hid hro
              have HDF := hid hdf
              have HBB := hid hb
              have HRS2 := hid (HRS.out.below hb)
              clear hro hdf hb dc0 hcc
              go_upto_region 17 with fail
              have hb0 : Below wc.heap.size wc wc.drew := (Below.refl wc.heap.size wc).drew
              have k4 := (HRS2.out.bw.below hb0).r.2.2.2.2.1
              have KP := hid (fun W (h : Below wc.heap.size wc W) => (HRS2.out.below h).slot hlt)
              have hn1 : n1 ≤ 1024 := by omega
              have hne1 : ¬ w.heap.size + 1 = rb := by have := HRS2.out.far; omega
              have hne2 : ¬ rb = w.heap.size + 1 := by have := HRS2.out.far; omega
              go_region_held3 (fun wx => wx.cell? ⟨w.heap.size + 1, 4, none⟩ = some (.slice (some ⟨rb, 0, none⟩) n0 n0))
                (first | assumption | go_keep)
                ((go_at_call 19; refine (settled19 (HDF.out.below hb0) HR.out hn1).mono ?_; rintro e w' ⟨c', v', l', rfl, hdf', hro', hat, hem, hb⟩; have hbn : Below wc.heap.size wc w' := hb0.trans (below_le hb (Nat.le_refl _)); obtain ⟨x0, x1, q4, r0, r1, f0, f1⟩ := KP.out w' hbn; obtain ⟨sa, sc, hsv⟩ := hdf'.shape; subst hsv))
              have HP := hid (RS.put (HRS2.out.below hbn) (by omega) hro' hdf')
              have HEM := hid (show n1 = 1 → l' = [] from fun e => hem (List.eq_nil_of_length_eq_zero (by have := HLN.out; omega)) (by omega))
              clear hdf' hro' hat hem hb
              go_wp2_with fail
              go_roundw
              case rel => exact ⟨k + 1, rows ++ [(c', l')], by omega, rfl, by simp [hlen], HCAN.out.snoc HEM.out, by have := HP.out; rw [hlen] at this; exact this⟩
              case measure => simp [intOf]; omega
          · have : k = n0 := by omega
            subst this
            have t1 : ¬ (k : Int) < (k : Int) := by omega
            go_wp2_with fail
            go_meet
            case rel => exact ⟨rows, hlen, HCAN.out, HRS.out⟩
      case rest =>
        obtain ⟨rows, hlen, hcan, hrs⟩ := hcut
        have HCAN := hid hcan
        clear hcan
        clear HRS q0 q1 q2 q3 q4 q5 qf
        have ha := hrs.bw.below ((Below.refl _ _).alloc (Nat.le_refl _) (.map #[] 0))
        obtain ⟨r0, r1, r2, r3, r4, r5⟩ := ha.r
        have rf := fun j => ha.f j
        have HES := hid hrs.es
        clear hrs ha
        have hmm := @run_makeMap Yba.prog
        go_upto_region 19 with fail
        clear r0 r1 r2 r3 r4 r5 rf hmm
        generalize (wc.alloc (.map #[] 0)).setCell ⟨w.heap.size + 1, 5, none⟩ (.map (some wc.heap.size)) = W3 at HES ⊢
        generalize wc.heap.size = mb at HES ⊢
        obtain ⟨ea, el, ecp, hev, hel, hec⟩ := HEX.out
        have d26 : W3.cell? ⟨w.heap.size, 26, none⟩ = some (.slice ea el ecp) := by
          unfold World.cell?
          rw [HES.out.bw.dat, ← hev]
          rfl
        have HEC := hid hec
        clear hec hev
        go_wp2_with fail
        go_loopw [100] (fun vi wr => ∃ (i N : Nat) (D : DataW Unit), i ≤ el ∧ N ≤ i ∧ vi = .int .i64 i ∧ ES w wr d m0 n0 m1 n1 of0 of1 rb rows mb N D) (fun vi _ => el - (intOf vi).toNat)
        case atStart => exact ⟨0, 0, _, by omega, by omega, rfl, HES.out⟩
        case round =>
          obtain ⟨i, N, D, hi, hN, rfl, hes⟩ := hrel
          clear HES
          have HES := hid hes
          rcases Nat.lt_or_ge i el with hlt | hge
          · have t1 : (i : Int) < (el : Int) := by omega
            rcases HEC.out with h0 | ⟨eb, eo, rfl, hcell⟩
            · omega
            obtain ⟨e, he, hce⟩ := hcell i hlt
            have c0 := (hes.bw.bel.cell (block_lt_of_cell hce)).trans hce
            have c5 := hes.bw.r.2.2.2.2.2
            obtain ⟨x, hx4, a1⟩ : ∃ x : Nat, x < 4 ∧ bits .and .u8 (e : Int) 3 = (x : Int) := ⟨e % 4, by omega, and3 he⟩
            obtain ⟨y, hy4, a2⟩ : ∃ y : Nat, y < 4 ∧ bits .and .u8 ((e : Int) / 4) 3 = (y : Int) := ⟨e / 4 % 4, by omega, by
              have := and3 (show e / 4 < 256 by omega)
              rw [show ((e / 4 : Nat) : Int) = (e : Int) / 4 by omega] at this
              exact this⟩
            obtain ⟨w1, hrun, hown1, hg1⟩ := (hes.own).drew.update (key := .agg #[.string (valB x), .string (valB y)]) (val := .bool (bits .and .u8 (e : Int) 16 != 0)) plaw Yba.underlying48 (by unfold maxLen; omega) (key60 (by rw [valB_size]; unfold maxLen; omega) (by rw [valB_size]; unfold maxLen; omega)) (plainElem_bool Yba.underlying4 _)
            have HP := hid (hes.put hg1 hown1)
            clear hes hce hcell hown1 hg1
            go_wp2_with fail
            have hwx := wrap_small (show x ≤ 1024 by omega)
            have hwy := wrap_small (show y ≤ 1024 by omega)
            have k5 : wr.drew.cell? ⟨w.heap.size + 1, 5, none⟩ = some (.map (some mb)) := c5
            have k6 : w1.cell? ⟨w.heap.size + 1, 5, none⟩ = some (.map (some mb)) := HP.out.bw.r.2.2.2.2.2
            go_region_held3 (fun wx => wx.cell? ⟨w.heap.size + 1, 5, none⟩ = some (.map (some mb)))
              (first | assumption | go_keep)
              (first
                | (go_at_call 12; refine (val12 x (by omega) _).mono ?_; rintro e' w' ⟨rfl, rfl⟩)
                | (go_at_call 12; refine (val12 y (by omega) _).mono ?_; rintro e' w' ⟨rfl, rfl⟩))
            go_wp2_with fail
            go_roundw
            case rel => exact ⟨i + 1, N + 1, _, by omega, by omega, rfl, HP.out⟩
            case measure => simp [intOf]; omega
          · have : i = el := by omega
            subst this
            have t1 : ¬ (i : Int) < (i : Int) := by omega
            clear hes
            go_wp2_with fail
            go_ret
            exact HES.out.post hlen h01 h04 h11 h14 (by omega) HCAN.out
end Go.Proofs.Ybulkatiq
