/-
  The walk of settled.
-/
import Derived.Test.YbulkatiqPol
import Derived.Maps.AppendAt
import Derived.Deep.AppendLies
import Derived.OwnWalk
namespace Go.Proofs.Ybulkatiq
open Go.ChangeShapes Go.WideShapes Go.ChangeAt Go.RowKit

/-- A row that is in order: its common cell, its list. -/
structure RowOk (n c : Nat) (l : List (Nat × Nat)) : Prop where
  cell : c < 4
  asc : Asc l
  each : ∀ (i : Nat) (p : Nat × Nat), l[i]? = some p → p.1 < n ∧ p.2 < 4 ∧ p.2 ≠ c

theorem asc_ge {l : List (Nat × Nat)} (h : Asc l) : ∀ (i : Nat) (p : Nat × Nat), l[i]? = some p → i ≤ p.1 := by
  intro i
  induction i with
  | zero => intro p _; omega
  | succ i ih =>
    intro p hp
    have hl := (List.getElem?_eq_some_iff.1 hp).1
    have hq : l[i]? = some (l[i]'(by omega)) := by simp [show i < l.length by omega]
    have h1 := ih _ hq
    have h2 := h i (i + 1) _ p (by omega) hq hp
    omega

theorem RowOk.len {n c : Nat} {l : List (Nat × Nat)} (h : RowOk n c l) : l.length ≤ n := by
  rcases Nat.eq_zero_or_pos l.length with h0 | h0
  · omega
  · have hp : l[l.length - 1]? = some (l[l.length - 1]'(by omega)) := by simp [show l.length - 1 < l.length by omega]
    have h1 := asc_ge h.asc _ _ hp
    have h2 := (h.each _ _ hp).1
    omega

/-! ### the list of the classes that differ from m -/
def oth (c : Nat) (l : List (Nat × Nat)) (m : Nat) : Nat → List (Nat × Nat)
  | 0 => []
  | i + 1 => oth c l m i ++ (if atL c l i = m then [] else [(i, atL c l i)])

theorem oth_mem {c : Nat} {l : List (Nat × Nat)} {m : Nat} : ∀ {i : Nat} {p : Nat × Nat}, p ∈ oth c l m i ↔ p.1 < i ∧ p.2 = atL c l p.1 ∧ p.2 ≠ m
  | 0, p => by simp [oth]
  | i + 1, p => by
    rw [oth, List.mem_append, oth_mem (i := i)]
    by_cases h : atL c l i = m
    · rw [if_pos h]
      simp only [List.not_mem_nil, or_false]
      constructor
      · rintro ⟨h1, h2, h3⟩; exact ⟨by omega, h2, h3⟩
      · rintro ⟨h1, h2, h3⟩
        refine ⟨?_, h2, h3⟩
        rcases Nat.lt_or_ge p.1 i with h4 | h4
        · exact h4
        · exfalso
          have : p.1 = i := by omega
          rw [this] at h2
          exact h3 (h2.trans h)
    · rw [if_neg h]
      simp only [List.mem_singleton]
      constructor
      · rintro (⟨h1, h2, h3⟩ | rfl)
        · exact ⟨by omega, h2, h3⟩
        · exact ⟨by simp, rfl, h⟩
      · rintro ⟨h1, h2, h3⟩
        rcases Nat.lt_or_ge p.1 i with h4 | h4
        · exact .inl ⟨h4, h2, h3⟩
        · right
          have : p.1 = i := by omega
          apply Prod.ext
          · exact this
          · show p.2 = atL c l i
            rw [h2, this]

theorem oth_len (c : Nat) (l : List (Nat × Nat)) (m i : Nat) : (oth c l m i).length ≤ i := by
  induction i with
  | zero => simp [oth]
  | succ i ih =>
    rw [oth, List.length_append]
    split <;> simp <;> omega

theorem asc_append {l : List (Nat × Nat)} (h : Asc l) (q : Nat × Nat) (hq : ∀ p ∈ l, p.1 < q.1) : Asc (l ++ [q]) := by
  intro i j a b hij ha hb
  have hj := (List.getElem?_eq_some_iff.1 hb).1
  simp at hj
  rw [List.getElem?_append_left (by omega)] at ha
  rcases Nat.lt_or_ge j l.length with h1 | h1
  · rw [List.getElem?_append_left h1] at hb
    exact h i j a b hij ha hb
  · have : j = l.length := by omega
    subst this
    simp at hb
    subst hb
    exact hq a (List.mem_of_getElem? ha)

theorem oth_asc (c : Nat) (l : List (Nat × Nat)) (m i : Nat) : Asc (oth c l m i) := by
  induction i with
  | zero => intro i j a b _ ha; simp [oth] at ha
  | succ i ih =>
    rw [oth]
    split
    · simpa using ih
    · exact asc_append ih _ fun p hp => (oth_mem.1 hp).1

theorem atL_lt {n c : Nat} {l : List (Nat × Nat)} (h : RowOk n c l) (x : Nat) : atL c l x < 4 := by
  unfold atL
  split
  · exact h.cell
  · rename_i p hp
    obtain ⟨i, hi, e⟩ := List.getElem_of_mem (List.mem_of_find?_eq_some hp)
    exact (h.each i p (by rw [← e]; simp [hi])).2.1

theorem oth_ok {n c m : Nat} {l : List (Nat × Nat)} (h : RowOk n c l) (hm : m < 4) : RowOk n m (oth c l m n) :=
  ⟨hm, oth_asc c l m n, fun i p hp => by
    obtain ⟨h1, h2, h3⟩ := oth_mem.1 (List.mem_of_getElem? hp)
    exact ⟨h1, by rw [h2]; exact atL_lt h _, h3⟩⟩

theorem oth_at {n c m : Nat} {l : List (Nat × Nat)} {x : Nat} (hx : x < n) : atL m (oth c l m n) x = atL c l x := by
  by_cases h : atL c l x = m
  · rw [h]
    refine atL_none fun t p hp e => ?_
    obtain ⟨_, h2, h3⟩ := oth_mem.1 (List.mem_of_getElem? hp)
    rw [e] at h2
    exact h3 (h2.trans h)
  · have hp : (x, atL c l x) ∈ oth c l m n := oth_mem.2 ⟨hx, rfl, h⟩
    obtain ⟨i, hi, e⟩ := List.getElem_of_mem hp
    exact atL_some (oth_asc c l m n) (show (oth c l m n)[i]? = some (x, atL c l x) by rw [← e]; simp [hi]) rfl

/-! ### a list's cells -/
def cells2 : List (Nat × Nat) → List Value
  | [] => []
  | p :: l => .int .i32 (p.1 : Int) :: .int .u8 (p.2 : Int) :: cells2 l

theorem cells2_append (l m : List (Nat × Nat)) : cells2 (l ++ m) = cells2 l ++ cells2 m := by
  induction l with
  | nil => rfl
  | cons p l ih => simp [cells2, ih]

theorem cells2_len (l : List (Nat × Nat)) : (cells2 l).length = l.length * 2 := by
  induction l with
  | nil => rfl
  | cons p l ih => simp [cells2, ih]; omega

theorem cells2_get : ∀ {l : List (Nat × Nat)} {i : Nat} {p : Nat × Nat}, l[i]? = some p → (cells2 l)[i * 2]? = some (.int .i32 (p.1 : Int)) ∧ (cells2 l)[i * 2 + 1]? = some (.int .u8 (p.2 : Int))
  | [], i, p, h => by simp at h
  | q :: l, 0, p, h => by simp at h; subst h; exact ⟨rfl, rfl⟩
  | q :: l, i + 1, p, h => by
    have := cells2_get (l := l) (i := i) (p := p) (by simpa using h)
    rw [show (i + 1) * 2 = i * 2 + 1 + 1 by omega]
    exact ⟨by simpa [cells2] using this.1, by simpa [cells2] using this.2⟩

theorem own_diff {w : World} {base : Nat} {v : Value} {l : List (Nat × Nat)} (h : w.ownsRow base 55 2 v l.length (cells2 l)) : DiffAt w v l := by
  rcases h.2 with ⟨rfl, h0⟩ | ⟨g, cap, cur, rfl, _, hgg, hc, _, _, _⟩
  · exact ⟨none, 0, by rw [h0], by omega, .inl (List.eq_nil_of_length_eq_zero h0)⟩
  · refine ⟨some ⟨g, 0, none⟩, cap, rfl, hc, .inr ⟨g, 0, cur, rfl, hgg, fun i p hp => ?_⟩⟩
    have hi := (List.getElem?_eq_some_iff.1 hp).1
    have := cells2_get hp
    rw [Nat.zero_add]
    exact ⟨(h.cellAt (i * 2) (by omega)).trans this.1, (h.cellAt (i * 2 + 1) (by omega)).trans this.2⟩

/-- Four numbers in a block. -/
def Four (w : World) (b : Nat) (k : Nat → Int) : Prop := w.heap[b]? = some (.cells #[.int .i32 (k 0), .int .i32 (k 1), .int .i32 (k 2), .int .i32 (k 3)] 78 (0, 0))

theorem Four.cell {w : World} {b : Nat} {k : Nat → Int} (h : Four w b k) {j : Nat} (hj : j < 4) : w.cell? ⟨b, j, none⟩ = some (.int .i32 (k j)) := by
  unfold Four at h
  match j, hj with
  | 0, _ => simp [World.cell?, h]
  | 1, _ => simp [World.cell?, h]
  | 2, _ => simp [World.cell?, h]
  | 3, _ => simp [World.cell?, h]

theorem Four.frozen {w : World} {b : Nat} {k : Nat → Int} (h : Four w b k) (j : Nat) : w.frozen? ⟨b, j, none⟩ = false := by
  unfold Four at h
  simp [World.frozen?, h]

theorem Four.set {w : World} {b : Nat} {k : Nat → Int} (h : Four w b k) {j : Nat} (hj : j < 4) (x : Int) : Four (w.setCell ⟨b, j, none⟩ (.int .i32 x)) b (fun i => if i = j then x else k i) := by
  unfold Four at h ⊢
  rw [heap_setCell_same w b j _ 78 _ h]
  match j, hj with
  | 0, _ => rfl
  | 1, _ => rfl
  | 2, _ => rfl
  | 3, _ => rfl

theorem Four.other {w w' : World} {b : Nat} {k : Nat → Int} (h : Four w b k) {g : Option Nat} (hg : w.grownBy w' g) (hne : g ≠ some b) : Four w' b k :=
  (hg.block b (lt_of_block h) (fun e => hne e.symm)).trans h

theorem grown_setCell {w w' : World} {p o : Nat} {v : Value} (h : w.grownBy w' (some p)) : w.grownBy (w'.setCell ⟨p, o, none⟩ v) (some p) :=
  ⟨h.os, h.tape, h.output, by have := h.size; simpa using this, fun k hk hne => (Below.heap_setCell w' ⟨p, o, none⟩ v k (fun e => hne (by rw [e]))).trans (h.block k hk hne)⟩

/-- What settled's walk keeps. -/
structure S1 (w wr : World) (n c len i : Nat) (k f : Nat → Int) : Prop where
  bel : Below w.heap.size w wr
  res : wr.heap[w.heap.size]? = some (.cells #[.int .u8 0, .slice none 0 0] 57 (0, 0))
  cnt : Four wr (w.heap.size + 1) k
  fst : Four wr (w.heap.size + 2) f
  cc : k c = (n : Int) - (len : Int)
  co : ∀ j, j < 4 → j ≠ c → 0 ≤ k j ∧ k j ≤ i

theorem S1.mostE {w wr : World} {n c len i : Nat} {k f : Nat → Int} (h : S1 w wr n c len len k f) {m : Nat} {l : List (Nat × Nat)} (hl : l.length = len) (hi : i < 4) (hm : l = [] → 0 < n → m = c) (hk : k m ≤ k i) : l = [] → 0 < n → i = c := by
  intro e hn
  rcases Nat.decEq i c with hne | he
  · have h1 := h.co i hi hne
    have h2 := h.cc
    rw [hm e hn] at hk
    have : len = 0 := by rw [← hl, e]; rfl
    omega
  · exact he

theorem S1.alloc {w wr : World} {n c len i : Nat} {k f : Nat → Int} (h : S1 w wr n c len i k f) (o : Obj) : S1 w (wr.alloc o) n c len i k f := by
  have g : wr.grownBy (wr.alloc o) none := World.grownBy_alloc wr o none
  exact ⟨h.bel.alloc h.bel.size o, (g.block _ (lt_of_block h.res) (by simp)).trans h.res, h.cnt.other g (by simp), h.fst.other g (by simp), h.cc, h.co⟩

theorem S1.setF {w wr : World} {n c len i : Nat} {k f : Nat → Int} (h : S1 w wr n c len i k f) {j : Nat} (hj : j < 4) (x : Int) : S1 w (wr.setCell ⟨w.heap.size + 2, j, none⟩ (.int .i32 x)) n c len i k (fun i => if i = j then x else f i) := by
  have g : wr.grownBy (wr.setCell ⟨w.heap.size + 2, j, none⟩ (.int .i32 x)) (some (w.heap.size + 2)) := grown_setCell (World.grownBy.refl wr _)
  exact ⟨h.bel.grown g h.bel.size (fun k hk => by simp only [Option.some.injEq] at hk; omega), (g.block _ (lt_of_block h.res) (by simp)).trans h.res, h.cnt.other g (by simp), h.fst.set hj x, h.cc, h.co⟩

theorem S1.setK {w wr : World} {n c len i : Nat} {k f : Nat → Int} (h : S1 w wr n c len i k f) {j : Nat} (hj : j < 4) (hjc : j ≠ c) : S1 w (wr.setCell ⟨w.heap.size + 1, j, none⟩ (.int .i32 (k j + 1))) n c len (i + 1) (fun i => if i = j then k j + 1 else k i) f := by
  have g : wr.grownBy (wr.setCell ⟨w.heap.size + 1, j, none⟩ (.int .i32 (k j + 1))) (some (w.heap.size + 1)) := grown_setCell (World.grownBy.refl wr _)
  refine ⟨h.bel.grown g h.bel.size (fun k hk => by simp only [Option.some.injEq] at hk; omega), (g.block _ (lt_of_block h.res) (by simp)).trans h.res, h.cnt.set hj _, h.fst.other g (by simp), ?_, ?_⟩
  · show (if c = j then k j + 1 else k c) = _
    rw [if_neg (fun e => hjc e.symm)]
    exact h.cc
  · intro m hm hmc
    show 0 ≤ (if m = j then k j + 1 else k m) ∧ (if m = j then k j + 1 else k m) ≤ ((i + 1 : Nat) : Int)
    have h1 := h.co m hm hmc
    have h2 := h.co j hj hjc
    split <;> omega

theorem heap_new (w : World) (o : Obj) : (w.alloc o).heap[w.heap.size]? = some o := by
  show (w.heap.push o)[w.heap.size]? = _
  simp
theorem heap_old {w : World} {o x : Obj} {b : Nat} (h : w.heap[b]? = some x) : (w.alloc o).heap[b]? = some x :=
  ((World.grownBy_alloc w o none).block b (lt_of_block h) (by simp)).trans h

theorem S1.start (w : World) (n c len : Nat) (hc : c < 4) : S1 w (((w.alloc (.cells #[.int .u8 0, .slice none 0 0] 57)).alloc (.cells ([Value.int .i32 0, .int .i32 0, .int .i32 0, .int .i32 0].set c (.int .i32 ((n : Int) - (len : Int)))).toArray 78)).alloc (.cells #[.int .i32 (n : Int), .int .i32 (n : Int), .int .i32 (n : Int), .int .i32 (n : Int)] 78))
    n c len 0 (fun j => if j = c then (n : Int) - (len : Int) else 0) (fun _ => (n : Int)) := by
  refine ⟨(((Below.refl _ _).alloc (Nat.le_refl _) _).alloc (by simp) _).alloc (by simp; omega) _, heap_old (heap_old (heap_new w _)), heap_old ?_, ?_, ?_, ?_⟩
  · have := heap_new (w.alloc (.cells #[.int .u8 0, .slice none 0 0] 57)) (.cells ([Value.int .i32 0, .int .i32 0, .int .i32 0, .int .i32 0].set c (.int .i32 ((n : Int) - (len : Int)))).toArray 78)
    rw [show (w.alloc (.cells #[.int .u8 0, .slice none 0 0] 57)).heap.size = w.heap.size + 1 by simp] at this
    rw [this]
    match c, hc with
    | 0, _ => rfl
    | 1, _ => rfl
    | 2, _ => rfl
    | 3, _ => rfl
  · have := heap_new ((w.alloc (.cells #[.int .u8 0, .slice none 0 0] 57)).alloc (.cells ([Value.int .i32 0, .int .i32 0, .int .i32 0, .int .i32 0].set c (.int .i32 ((n : Int) - (len : Int)))).toArray 78)) (.cells #[.int .i32 (n : Int), .int .i32 (n : Int), .int .i32 (n : Int), .int .i32 (n : Int)] 78)
    rw [show ((w.alloc (.cells #[.int .u8 0, .slice none 0 0] 57)).alloc (.cells ([Value.int .i32 0, .int .i32 0, .int .i32 0, .int .i32 0].set c (.int .i32 ((n : Int) - (len : Int)))).toArray 78)).heap.size = w.heap.size + 2 by simp] at this
    exact this
  · simp
  · intro j _ hj
    simp [hj]

/-- .. and the pair at hand, in a block of its own. -/
structure S2 (w wr : World) (n c len i : Nat) (k f : Nat → Int) (D : Nat) (p : Nat × Nat) : Prop where
  s1 : S1 w wr n c len i k f
  far : w.heap.size + 2 < D
  here : wr.heap[D]? = some (.cells #[.int .i32 (p.1 : Int), .int .u8 (p.2 : Int)] 55 (0, 0))

theorem S1.s2 {w wr : World} {n c len i : Nat} {k f : Nat → Int} (h : S1 w wr n c len i k f) (p : Nat × Nat) : S2 w (wr.alloc (.cells #[.int .i32 (p.1 : Int), .int .u8 (p.2 : Int)] 55)) n c len i k f wr.heap.size p :=
  ⟨h.alloc _, lt_of_block h.fst, by show (wr.heap.push _)[wr.heap.size]? = _; simp⟩
theorem S2.setF {w wr : World} {n c len i : Nat} {k f : Nat → Int} {D : Nat} {p : Nat × Nat} (h : S2 w wr n c len i k f D p) {j : Nat} (hj : j < 4) (x : Int) : S2 w (wr.setCell ⟨w.heap.size + 2, j, none⟩ (.int .i32 x)) n c len i k (fun i => if i = j then x else f i) D p :=
  ⟨h.s1.setF hj x, h.far, ((grown_setCell (World.grownBy.refl wr _)).block D (lt_of_block h.here) (fun e => by simp only [Option.some.injEq] at e; have := h.far; omega)).trans h.here⟩
theorem S2.setK {w wr : World} {n c len i : Nat} {k f : Nat → Int} {D : Nat} {p : Nat × Nat} (h : S2 w wr n c len i k f D p) {j : Nat} (hj : j < 4) (hjc : j ≠ c) : S2 w (wr.setCell ⟨w.heap.size + 1, j, none⟩ (.int .i32 (k j + 1))) n c len (i + 1) (fun i => if i = j then k j + 1 else k i) f D p :=
  ⟨h.s1.setK hj hjc, h.far, ((grown_setCell (World.grownBy.refl wr _)).block D (lt_of_block h.here) (fun e => by simp only [Option.some.injEq] at e; have := h.far; omega)).trans h.here⟩
theorem S2.d0 {w wr : World} {n c len i : Nat} {k f : Nat → Int} {D : Nat} {p : Nat × Nat} (h : S2 w wr n c len i k f D p) : wr.cell? ⟨D, 0, none⟩ = some (.int .i32 (p.1 : Int)) := by simp [World.cell?, h.here]
theorem S2.d1 {w wr : World} {n c len i : Nat} {k f : Nat → Int} {D : Nat} {p : Nat × Nat} (h : S2 w wr n c len i k f D p) : wr.cell? ⟨D, 1, none⟩ = some (.int .u8 (p.2 : Int)) := by simp [World.cell?, h.here]

theorem S1.drewN {w wr : World} {n c len i : Nat} {k f : Nat → Int} (h : S1 w wr n c len i k f) (m : Nat) : S1 w (wr.drewN m) n c len i k f :=
  ⟨below_drewN h.bel m, h.res, h.cnt, h.fst, h.cc, h.co⟩

theorem S1.r0 {w wr : World} {n c len i : Nat} {k f : Nat → Int} (h : S1 w wr n c len i k f) : wr.cell? ⟨w.heap.size, 0, none⟩ = some (.int .u8 0) := by simp [World.cell?, h.res]
theorem S1.r1 {w wr : World} {n c len i : Nat} {k f : Nat → Int} (h : S1 w wr n c len i k f) : wr.cell? ⟨w.heap.size, 1, none⟩ = some (.slice none 0 0) := by simp [World.cell?, h.res]
theorem S1.rf {w wr : World} {n c len i : Nat} {k f : Nat → Int} (h : S1 w wr n c len i k f) (j : Nat) : wr.frozen? ⟨w.heap.size, j, none⟩ = false := by simp [World.frozen?, h.res]

/-- What settled leaves. -/
def SettledPost (w : World) (n c : Nat) (l : List (Nat × Nat)) (e : Ending) (w' : World) : Prop :=
  ∃ (c' : Nat) (v' : Value) (l' : List (Nat × Nat)), e = .returned (.agg #[.int .u8 c', v']) ∧ DiffAt w' v' l' ∧ RowOk n c' l' ∧ (∀ x, x < n → atL c' l' x = atL c l x) ∧ (l = [] → 0 < n → l' = []) ∧ Below w.heap.size w w'

theorem info55 : (Yba.prog.info? 55).map (fun i => (i.zero, i.size, i.bytes)) = some (some (.agg #[.int .i32 0, .int .u8 0]), 2, 8) := by kernel_rfl
theorem info_parts {e : TypeId} {z : Value} {s b : Nat} (h : (Yba.prog.info? e).map (fun i => (i.zero, i.size, i.bytes)) = some (some z, s, b)) : ∃ i, Yba.prog.info? e = some i ∧ i.zero = some z ∧ i.size = s ∧ i.bytes = b := by
  obtain ⟨i, hi, h⟩ := Option.map_eq_some_iff.1 h
  simp only [Prod.mk.injEq] at h
  exact ⟨i, hi, h.1, h.2.1, h.2.2⟩

theorem S1.grown {w wr wx : World} {n c len i : Nat} {k f : Nat → Int} (h : S1 w wr n c len i k f) {g : Option Nat} (hg : wr.grownBy wx g) (hgb : ∀ b, g = some b → w.heap.size + 3 ≤ b) : S1 w wx n c len i k f :=
  ⟨h.bel.grown hg h.bel.size (fun b e => by have := hgb b e; omega), (hg.block _ (lt_of_block h.res) (fun e => by have := hgb _ e.symm; omega)).trans h.res, h.cnt.other hg (fun e => by have := hgb _ e; omega), h.fst.other hg (fun e => by have := hgb _ e; omega), h.cc, h.co⟩

theorem owns_shape {w : World} {base : Nat} {e : TypeId} {size : Nat} {v : Value} {n : Nat} {xs : List Value} (h : w.ownsRow base e size v n xs) : ∃ ao cap, v = .slice ao n cap := by
  rcases h.2 with ⟨rfl, rfl⟩ | ⟨g, cap, _, rfl, _⟩
  · exact ⟨_, _, rfl⟩
  · exact ⟨_, _, rfl⟩

theorem two_new (w : World) (a b : Value) (t : TypeId) : ∀ (j : Nat) (u : Value), [a, b][j]? = some u → (w.alloc (.cells #[a, b] t)).cell? ((⟨w.heap.size, 0, none⟩ : Addr).add j) = some u := by
  intro j u h
  rw [add_plain]
  match j, h with
  | 0, h => simp at h; subst h; unfold World.cell?; rw [heap_new]; rfl
  | 1, h => simp at h; subst h; unfold World.cell?; rw [heap_new]; rfl
  | n + 2, h => simp at h

/-- What loop 3 keeps: j entries of the list are behind it, i classes. -/
structure S3 (w wr : World) (n c m : Nat) (l : List (Nat × Nat)) (k f : Nat → Int) (i b j : Nat) (v13 v15 : Value) : Prop where
  s1 : S1 w wr n c l.length l.length k f
  row : wr.ownsRow (w.heap.size + 3) 55 2 v13 (oth c l m i).length (cells2 (oth c l m i))
  rest : DiffAt w v15 (l.drop j)
  lo : ∀ (t : Nat) (p : Nat × Nat), t < j → l[t]? = some p → p.1 < b
  hi : ∀ (t : Nat) (p : Nat × Nat), j ≤ t → l[t]? = some p → b ≤ p.1

section
variable {w wr : World} {n c m : Nat} {l : List (Nat × Nat)} {k f : Nat → Int} {i j : Nat} {v13 v15 : Value}
/-- The entry at hand is of class i: it is taken off the rest. -/
theorem S3.take (h : S3 w wr n c m l k f i i j v13 v15) (ha : Asc l) {p : Nat × Nat} (hp : l[j]? = some p) (hpi : p.1 = i) (q : Nat) {v15' : Value} (hr : DiffAt w v15' (l.drop (j + 1))) :
    p.2 = atL c l i ∧ S3 w (wr.drewN q) n c m l k f i (i + 1) (j + 1) v13 v15' := by
  refine ⟨(atL_some ha hp hpi).symm, h.s1.drewN q, h.row, hr, fun t r ht hr2 => ?_, fun t r ht hr2 => ?_⟩
  · rcases Nat.lt_or_ge t j with h1 | h1
    · have := h.lo t r h1 hr2; omega
    · have : t = j := by omega
      subst this
      rw [hp] at hr2
      simp only [Option.some.injEq] at hr2
      subst hr2
      omega
  · have := ha j t p r (by omega) hp hr2
    omega
/-- No entry is of class i. -/
theorem S3.skip (h : S3 w wr n c m l k f i i j v13 v15) (ha : Asc l) (hn : ∀ p, l[j]? = some p → p.1 ≠ i) : c = atL c l i ∧ S3 w wr n c m l k f i (i + 1) j v13 v15 := by
  have hno : ∀ (t : Nat) (p : Nat × Nat), l[t]? = some p → p.1 ≠ i := fun t p hp e => by
    rcases Nat.lt_trichotomy t j with h1 | h1 | h1
    · have := h.lo t p h1 hp; omega
    · subst h1; exact hn p hp e
    · have hjl : j < l.length := by have := (List.getElem?_eq_some_iff.1 hp).1; omega
      have hq : l[j]? = some l[j] := by simp [hjl]
      have h2 := h.hi j _ (Nat.le_refl _) hq
      have h3 := ha j t _ p h1 hq hp
      omega
  refine ⟨(atL_none hno).symm, h.s1, h.row, h.rest, fun t r ht hr => by have := h.lo t r ht hr; omega, fun t r ht hr => ?_⟩
  have h1 := h.hi t r ht hr
  have h2 := hno t r hr
  omega
theorem S3.same {j : Nat} (h : S3 w wr n c m l k f i (i + 1) j v13 v15) (he : atL c l i = m) : S3 w wr n c m l k f (i + 1) (i + 1) j v13 v15 := by
  have e : oth c l m (i + 1) = oth c l m i := by rw [oth, if_pos he, List.append_nil]
  exact ⟨h.s1, by rw [e]; exact h.row, h.rest, h.lo, h.hi⟩
theorem S3.more {wx : World} {o2 : Obj} {v13' : Value} {j : Nat} (h : S3 w wr n c m l k f i (i + 1) j v13 v15) (he : ¬ atL c l i = m) (hg : (wr.alloc o2).grownBy wx v13.ownBlock)
    (hr : wx.ownsRow (w.heap.size + 3) 55 2 v13' ((oth c l m i).length + 1) (cells2 (oth c l m i) ++ [.int .i32 (i : Int), .int .u8 ((atL c l i : Nat) : Int)])) : S3 w wx n c m l k f (i + 1) (i + 1) j v13' v15 := by
  have e : oth c l m (i + 1) = oth c l m i ++ [(i, atL c l i)] := by rw [oth, if_neg he]
  have g2 : wr.grownBy (wr.alloc o2) none := World.grownBy_alloc wr o2 none
  have hs1 := h.s1.grown g2 (fun b hb => by cases hb)
  have hs2 := hs1.grown hg (fun b hb => (h.row.lt b hb).1)
  refine ⟨hs2, ?_, h.rest, h.lo, h.hi⟩
  rw [e, cells2_append, List.length_append]
  exact hr
theorem S3.drop1 (h : S3 w wr n c m l k f i i j v13 v15) {p : Nat × Nat} (hp : l[j]? = some p) : ∃ b off cap, v15 = .slice (some ⟨b, off, none⟩) (l.length - j) cap ∧ 1 ≤ l.length - j ∧ l.length - j ≤ cap ∧ wr.cell? ⟨b, off, none⟩ = some (.int .i32 (p.1 : Int)) ∧ wr.cell? ⟨b, off + 1, none⟩ = some (.int .u8 (p.2 : Int)) ∧ DiffAt w (.slice (some ⟨b, off + 2, none⟩) (l.length - j - 1) (cap - 1)) (l.drop (j + 1)) := by
  have hjl := (List.getElem?_eq_some_iff.1 hp).1
  obtain ⟨a, cap, hv, hc, h1⟩ := h.rest
  rw [List.length_drop] at hv hc
  rcases h1 with h1 | ⟨b, off, cur, rfl, hk, h1⟩
  · have := congrArg List.length h1
    simp at this
    omega
  · have g := h1 0 p (by rw [List.getElem?_drop]; simpa using hp)
    simp only [Nat.zero_mul, Nat.add_zero] at g
    refine ⟨b, off, cap, hv, by omega, hc, (h.s1.bel.cell (block_lt_of_cell g.1)).trans g.1, (h.s1.bel.cell (block_lt_of_cell g.2)).trans g.2, some ⟨b, off + 2, none⟩, cap - 1, by rw [List.length_drop, Nat.sub_sub], by rw [List.length_drop]; omega, .inr ⟨b, off + 2, cur, rfl, hk, fun t r hr => ?_⟩⟩
    have g := h1 (t + 1) r (by rw [List.getElem?_drop] at hr ⊢; rw [← hr]; congr 1; omega)
    rw [show off + 2 + t * 2 = off + (t + 1) * 2 by omega]
    exact g
end

/-- The end: the row laid into the result's own block, and returned. -/
theorem settled_ret {w wr : World} {Q : Ending → World → Prop} {tmps : Array Value} (h6 : tmps.getD 6 undef = .pointer (some ⟨w.heap.size, 0, none⟩)) {n c len i : Nat} {k f : Nat → Int} (h : S1 w wr n c len i k f) (m : Nat) (v : Value)
    (hQ : ∀ W', W' = (wr.setCell ⟨w.heap.size, 0, none⟩ (.int .u8 m)).setCell ⟨w.heap.size, 1, none⟩ v → Below w.heap.size w W' → Q (.returned (.agg #[.int .u8 m, v])) W') :
    bodyPost Yba.prog Yba.f19 Q Exit.ret ⟨tmps, []⟩ ((wr.setCell ⟨w.heap.size, 0, none⟩ (.int .u8 m)).setCell ⟨w.heap.size, 1, none⟩ v) := by
  have hb : Below w.heap.size w ((wr.setCell ⟨w.heap.size, 0, none⟩ (.int .u8 m)).setCell ⟨w.heap.size, 1, none⟩ v) := h.bel.grown (grown_setCell (grown_setCell (World.grownBy.refl wr _))) h.bel.size (fun k hk => by simp only [Option.some.injEq] at hk; omega)
  have h1 := heap_setCell_same wr w.heap.size 0 _ 57 (.int .u8 m) h.res
  have h2 := heap_setCell_same _ w.heap.size 1 _ 57 v h1
  have c0 : ((wr.setCell ⟨w.heap.size, 0, none⟩ (.int .u8 m)).setCell ⟨w.heap.size, 1, none⟩ v).cell? ⟨w.heap.size, 0, none⟩ = some (.int .u8 m) := by simp [World.cell?, h2]
  have c1 : ((wr.setCell ⟨w.heap.size, 0, none⟩ (.int .u8 m)).setCell ⟨w.heap.size, 1, none⟩ v).cell? ⟨w.heap.size, 1, none⟩ = some v := by simp [World.cell?, h2]
  rw [Array.getD_eq_getD_getElem?] at h6
  refine bodyPost_ret (v := .agg #[.int .u8 m, v]) ?_ rfl (hQ _ rfl hb)
  simp [results, Yba.results19, go_sem, c0, c1, h6]

set_option maxRecDepth 100000 in
set_option maxHeartbeats 1600000 in
theorem settled19 {w : World} {v : Value} {l : List (Nat × Nat)} {n c : Nat} (h : DiffAt w v l) (ok : RowOk n c l) (hn : n ≤ 1024) :
    Calls Yba.prog 19 #[.int .u8 c, v, .int .i32 n] w (SettledPost w n c l) := by
  have hlen := ok.len
  have hc4 := ok.cell
  have HD := hid h
  have HO := hid ok
  obtain ⟨a, cap, rfl, hcap, h⟩ := h
  clear h ok
  go_enter Yba.func19, Yba.ntmps19
  go_upto_block 0 with fail
  have HS0 := hid (S1.start w n c l.length hc4)
  go_cut [31] from 17 to 69 (fun _ wx => ∃ k f, S1 w wx n c l.length l.length k f)
  case first =>
    go_wp2_with fail
    go_loopw [31] (fun vi wr => ∃ (i : Nat) (k f : Nat → Int), i ≤ l.length ∧ vi = .int .i64 i ∧ S1 w wr n c l.length i k f) (fun vi _ => l.length - (intOf vi).toNat)
    case atStart => exact ⟨0, _, _, by omega, rfl, HS0.out⟩
    case round =>
      obtain ⟨i, k, f, hi, rfl, hs⟩ := hrel
      have HS := hid hs
      clear HS0
      rcases Nat.lt_or_ge i l.length with hlt | hge
      · obtain ⟨a', cap', e', _, hd⟩ := HD.out.below hs.bel
        simp only [Value.slice.injEq] at e'
        obtain ⟨rfl, _, rfl⟩ := e'
        rcases hd with h0 | ⟨b, off, cur, rfl, _, hd⟩
        · rw [h0] at hlt; simp at hlt
        obtain ⟨p, hp⟩ : ∃ p, l[i]? = some p := ⟨l[i], by simp [hlt]⟩
        obtain ⟨c0, c1⟩ := hd i p hp
        obtain ⟨hp1, hp2, hp3⟩ := HO.out.each i p hp
        have t1 : (i : Int) < (l.length : Int) := by omega
        have HS2 := hid (hs.s2 p)
        have hcb := hs.co p.2 hp2 hp3
        clear hs hd hp
        go_upto_region 7 with fail
        go_cut [47] from 32 to 47 (fun v wx => (∃ b : Bool, v = .bool b) ∧ S2 w wx n c l.length i k f wr.heap.size p)
        case first =>
          have f0 := HS2.out.s1.fst.cell hc4
          have d0 := HS2.out.d0
          cases g : (f c == (n : Int))
          · go_wp2_with fail
            go_meet
            case rel => exact ⟨⟨_, rfl⟩, HS2.out⟩
          · go_wp2_with fail
            go_meet
            case rel => exact ⟨⟨_, rfl⟩, HS2.out⟩
        case rest =>
          obtain ⟨⟨b47, rfl⟩, h2⟩ := hcut
          clear HS2
          have HS2 := hid h2
          clear h2
          go_upto_if 47 with fail
          go_cut [47] from 32 to 51 (fun _ wx => ∃ f, S2 w wx n c l.length i k f wr.heap.size p)
          case first =>
            have f0 := HS2.out.s1.fst.cell hc4
            have f2 := fun j => HS2.out.s1.fst.frozen j
            cases b47
            · go_wp2_with fail
              go_meet
              case rel => exact ⟨_, HS2.out⟩
            · go_wp2_with fail
              go_meet
              case rel => exact ⟨_, HS2.out.setF hc4 _⟩
          case rest =>
            obtain ⟨f2, h2⟩ := hcut
            clear HS2
            have HS2 := hid h2
            clear h2
            go_upto_region 9 with fail
            go_cut [57] from 32 to 57 (fun _ wx => ∃ k, S2 w wx n c l.length (i + 1) k f2 wr.heap.size p)
            case first =>
              have f3 := HS2.out.s1.cnt.cell hp2
              have f4 := fun j => HS2.out.s1.cnt.frozen j
              have d1 := HS2.out.d1
              go_wp2_with fail
              go_meet
              case rel => exact ⟨_, HS2.out.setK hp2 hp3⟩
            case rest =>
              obtain ⟨k2, h2⟩ := hcut
              clear HS2 hcb
              have HS2 := hid h2
              clear h2
              go_upto_region 10 with fail
              go_cut [63] from 32 to 63 (fun v wx => (∃ b : Bool, v = .bool b) ∧ S2 w wx n c l.length (i + 1) k2 f2 wr.heap.size p)
              case first =>
                have f0 := HS2.out.s1.fst.cell hp2
                have d1 := HS2.out.d1
                go_wp2_with fail
                go_meet
                case rel => exact ⟨⟨_, rfl⟩, HS2.out⟩
              case rest =>
                obtain ⟨⟨b63, rfl⟩, h2⟩ := hcut
                clear HS2
                have HS2 := hid h2
                clear h2
                have d0 := HS2.out.d0
                have d1 := HS2.out.d1
                have f0 := HS2.out.s1.fst.cell hp2
                have f2 := fun j => HS2.out.s1.fst.frozen j
                cases b63
                · go_wp2_with fail
                  go_roundw
                  case rel => exact ⟨i + 1, _, _, by omega, rfl, HS2.out.s1⟩
                  case measure => simp [intOf]; omega
                · have HS3 := hid (HS2.out.setF hp2 (p.1 : Int))
                  go_wp2_with fail
                  go_roundw
                  case rel => exact ⟨i + 1, _, _, by omega, rfl, HS3.out.s1⟩
                  case measure => simp [intOf]; omega
      · have : i = l.length := by omega
        subst this
        have t1 : ¬ (l.length : Int) < (l.length : Int) := by omega
        clear hs
        go_wp2_with fail
        go_meet
        case rel => exact ⟨_, _, HS.out⟩
  case rest =>
    obtain ⟨k, f, hs⟩ := hcut
    clear HS0
    have HS := hid hs
    clear hs
    go_upto_region 13 with fail
    go_cut [80] from 32 to 80 (fun v wx => (∃ b : Bool, v = .bool b) ∧ S1 w wx n c l.length l.length k f)
    case first =>
      have f0 := HS.out.fst.cell hc4
      have f1 := HS.out.cnt.cell hc4
      cases g : (f c == (n : Int))
      · go_wp2_with fail
        go_meet
        case rel => exact ⟨⟨_, rfl⟩, HS.out⟩
      · go_wp2_with fail
        go_meet
        case rel => exact ⟨⟨_, rfl⟩, HS.out⟩
    case rest =>
      obtain ⟨⟨b80, rfl⟩, h2⟩ := hcut
      clear HS
      have HS := hid h2
      clear h2
      go_upto_if 80 with fail
      go_cut [80] from 32 to 85 (fun _ wx => ∃ f, S1 w wx n c l.length l.length k f)
      case first =>
        have f0 := HS.out.fst.cell hc4
        have f2 := fun j => HS.out.fst.frozen j
        cases b80
        · go_wp2_with fail
          go_meet
          case rel => exact ⟨_, HS.out⟩
        · go_wp2_with fail
          go_meet
          case rel => exact ⟨_, HS.out.setF hc4 _⟩
      case rest =>
        obtain ⟨f2, h2⟩ := hcut
        clear HS
        have HS := hid h2
        clear h2 f
        go_upto_block 2 with fail
        go_cut [11] from 32 to 116 (fun v wx => (∃ m : Nat, m < 4 ∧ v = .int .u8 m ∧ (l = [] → 0 < n → m = c)) ∧ S1 w wx n c l.length l.length k f2)
        case first =>
          go_wp2_with fail
          go_loopw [11, 87] (fun vm vi wr => ∃ m i : Nat, m < 4 ∧ i ≤ 4 ∧ vm = .int .u8 m ∧ vi = .int .u8 i ∧ (l = [] → 0 < n → m = c) ∧ S1 w wr n c l.length l.length k f2) (fun _ vi _ => 4 - (intOf vi).toNat)
          case atStart => exact ⟨c, 0, hc4, by omega, rfl, rfl, fun _ _ => rfl, HS.out⟩
          case round =>
            obtain ⟨m, i, hm, hi, rfl, rfl, hmc, hs⟩ := hrel
            have HMC := hid hmc
            clear hmc
            clear HS
            have HS := hid hs
            clear hs
            rcases Nat.lt_or_ge i 4 with hlt | hge
            · have t1 : (i : Int) < 4 := by omega
              have k1 := HS.out.cnt.cell hlt
              have k2 := HS.out.cnt.cell hm
              have k3 := HS.out.fst.cell hlt
              have k4 := HS.out.fst.cell hm
              cases g1 : decide (k m < k i)
              · cases g2 : (k i == k m)
                · go_wp2_with fail
                  go_quiet (fail)
                  go_wp2_with fail
                  exact ⟨⟨m, i + 1, by omega, by omega, rfl, rfl, HMC.out, HS.out.drewN _⟩, by simp [intOf]; omega⟩
                · cases g3 : decide (f2 i < f2 m)
                  · go_wp2_with fail
                    go_quiet (fail)
                    go_wp2_with fail
                    exact ⟨⟨m, i + 1, by omega, by omega, rfl, rfl, HMC.out, HS.out.drewN _⟩, by simp [intOf]; omega⟩
                  · have g4 := of_decide_eq_true g3
                    have HM2 := hid (HS.out.mostE rfl hlt HMC.out (by have := eq_of_beq g2; omega))
                    go_wp2_with fail
                    go_quiet (fail)
                    go_wp2_with fail
                    exact ⟨⟨i, i + 1, by omega, by omega, rfl, rfl, HM2.out, HS.out.drewN _⟩, by simp [intOf]; omega⟩
              · have g4 := of_decide_eq_true g1
                have HM2 := hid (HS.out.mostE rfl hlt HMC.out (by omega))
                go_wp2_with fail
                go_quiet (fail)
                go_wp2_with fail
                exact ⟨⟨i, i + 1, by omega, by omega, rfl, rfl, HM2.out, HS.out.drewN _⟩, by simp [intOf]; omega⟩
            · have : i = 4 := by omega
              subst this
              go_wp2_with fail
              go_meet
              case rel => exact ⟨⟨m, hm, rfl, HMC.out⟩, HS.out⟩
        case rest =>
          obtain ⟨⟨m, hm, rfl, hmz⟩, h2⟩ := hcut
          have HMZ := hid hmz
          clear hmz
          clear HS
          have HS := hid h2
          clear h2
          by_cases hmc : m = c
          · subst hmc
            have r0 := HS.out.r0
            have r1 := HS.out.r1
            have rf := fun j => HS.out.rf j
            have HDB := hid (HD.out.below HS.out.bel)
            go_wp2_with fail
            exact settled_ret rfl HS.out m (.slice a l.length cap) (Q := SettledPost w n m l) fun W' _ hb => ⟨m, _, l, rfl, HD.out.below hb, HO.out, fun _ _ => rfl, fun e _ => e, hb⟩
          · have g1 : ((m : Int) == (c : Int)) = false := by simp; omega
            have k1 := HS.out.cnt.cell hm
            have hkm := HS.out.co m hm hmc
            obtain ⟨i0, hi0, hz0, hz1, hz2⟩ := info_parts info55
            have hsz := lt_of_block HS.out.fst
            go_wp2_with (at_make; refine wpList_make_own _ rfl _ _ 53 rfl (w.heap.size + 3) 55 i0 _ 2 Yba.underlying53 hi0 hz0 hz1 .i64 .i32 ((n : Int) - k m) (n - (k m).toNat) rfl rfl ?a1 ?a2 ?a3 ?a4 ?_)
            case a1 => omega
            case a2 => rw [hz2]; omega
            case a3 => unfold maxLen; omega
            case a4 => omega
            intro w1 hown hgr
            have HS3 := hid (show S3 w w1 n c m l k f2 0 0 0 (.slice (some ⟨wc.heap.size, 0, none⟩) 0 (n - (k m).toNat)) (.slice a l.length cap) from ⟨HS.out.grown hgr (fun b e => by cases e), hown, by simpa using HD.out, fun t p h => by omega, fun t p _ _ => by omega⟩)
            clear hown hgr k1 HS
            go_wp2_with fail
            go_loopw [13, 14, 15] (fun v13 v14 v15 wr => ∃ i j : Nat, i ≤ n ∧ v14 = .int .i32 i ∧ S3 w wr n c m l k f2 i i j v13 v15) (fun _ v14 _ _ => n - (intOf v14).toNat)
            case atStart => exact ⟨0, 0, by omega, rfl, HS3.out⟩
            case round =>
              obtain ⟨i, j, hin, rfl, hs⟩ := hrel
              clear HS3
              have HS3 := hid hs
              have hsz := lt_of_block hs.s1.fst
              clear hs
              rcases Nat.lt_or_ge i n with hlt | hge
              · have t1 : (i : Int) < (n : Int) := by omega
                go_upto_region 29 with fail
                go_cut [146] from 130 to 146 (fun v wx => (∃ bb : Bool, v = .bool bb ∧ (bb = true → ∃ p, l[j]? = some p ∧ p.1 = i) ∧ (bb = false → ∀ p, l[j]? = some p → p.1 ≠ i)) ∧ S3 w wx n c m l k f2 i i j u13 u15)
                case first =>
                  cases hp : l[j]? with
                  | none =>
                    have HN := hid hp
                    have hjl : l.length ≤ j := by simpa using hp
                    obtain ⟨a', cap', e', _, _⟩ := HS3.out.rest
                    rw [List.length_drop, show l.length - j = 0 by omega] at e'
                    subst e'
                    clear hp
                    go_wp2_with fail
                    go_meet
                    case rel => exact ⟨⟨false, rfl, (fun h => by cases h), (fun _ p hp => by rw [HN.out] at hp; cases hp)⟩, HS3.out⟩
                  | some p =>
                    obtain ⟨b, off, cap', rfl, h1, h2, c0, c1, _⟩ := HS3.out.drop1 hp
                    have HP := hid hp
                    have t2 : 0 < l.length - j := by omega
                    clear hp
                    cases g : ((p.1 : Int) == (i : Int))
                    · go_wp2_with fail
                      go_meet
                      case rel => exact ⟨⟨false, rfl, (fun h => by cases h), (fun _ q hq e => by rw [HP.out] at hq; simp only [Option.some.injEq] at hq; subst hq; simp [e] at g)⟩, HS3.out⟩
                    · go_wp2_with fail
                      go_meet
                      case rel => exact ⟨⟨true, rfl, (fun _ => ⟨p, HP.out, by have := beq_iff_eq.1 g; omega⟩), (fun h => by cases h)⟩, HS3.out⟩
                case rest =>
                  obtain ⟨⟨bb, rfl, hb1, hb2⟩, h2⟩ := hcut
                  clear HS3
                  have HS3 := hid h2
                  have HB1 := hid hb1
                  have HB2 := hid hb2
                  clear h2 hb1 hb2
                  go_upto_if 146 with fail
                  go_cut [15, 16] from 130 to 152 (fun v15 v16 wx => v16 = .int .u8 (atL c l i : Nat) ∧ ∃ j, S3 w wx n c m l k f2 i (i + 1) j u13 v15)
                  case first =>
                    cases bb
                    · obtain ⟨e1, h3⟩ := HS3.out.skip HO.out.asc (HB2.out rfl)
                      have HE := hid e1
                      have H3 := hid h3
                      clear e1 h3
                      go_wp2_with fail
                      go_meet
                      case rel => exact ⟨by rw [← HE.out], _, H3.out⟩
                    · obtain ⟨p, hp, hpi⟩ := HB1.out rfl
                      obtain ⟨b, off, cap', rfl, h1, h2, c0, c1, hd⟩ := HS3.out.drop1 hp
                      have t2 : 0 < l.length - j := by omega
                      have t3 : (0 : Int) < ((l.length - j : Nat) : Int) := by omega
                      by_cases hc1 : cap' = 1
                      · subst hc1
                        have hnil : l.drop (j + 1) = [] := List.drop_eq_nil_of_le (by omega)
                        have H3 := hid (fun q => HS3.out.take HO.out.asc hp hpi q (v15' := .slice (some ⟨b, off, none⟩) 0 0) ⟨_, 0, by rw [hnil]; rfl, by rw [hnil]; simp, .inl hnil⟩)
                        clear hp hpi hd hnil
                        go_wp2_with fail
                        go_quiet (fail)
                        go_wp2_with fail
                        go_meet
                        case rel => exact ⟨by rw [← (H3.out 0).1], _, (H3.out _).2⟩
                      · have H3 := hid (fun q => HS3.out.take HO.out.asc hp hpi q hd)
                        clear hp hpi hd
                        go_wp2_with fail
                        go_quiet (fail)
                        go_wp2_with fail
                        go_meet
                        case rel => exact ⟨by rw [← (H3.out 0).1], _, (H3.out _).2⟩
                  case rest =>
                    obtain ⟨rfl, j2, h2⟩ := hcut
                    clear HS3 HB1 HB2
                    have HS3 := hid h2
                    clear h2
                    by_cases hat : atL c l i = m
                    · have HA := hid hat
                      have g3 : (((atL c l i : Nat) : Int) != (m : Int)) = false := by simp [hat]
                      clear hat
                      go_wp2_with fail
                      go_roundw
                      case rel => exact ⟨i + 1, j2, by omega, rfl, HS3.out.same HA.out⟩
                      case measure => simp [intOf]; omega
                    · have HA := hid hat
                      have g3 : (((atL c l i : Nat) : Int) != (m : Int)) = true := by simp only [bne_iff_ne]; omega
                      have hol := oth_len c l m i
                      clear hat
                      obtain ⟨i0, hi0, hz0, hz1, hz2⟩ := info_parts info55
                      obtain ⟨ao, cv, hv⟩ := owns_shape HS3.out.row
                      subst hv
                      go_wp2_with (at_builtin; refine wpList_append_own_at _ rfl _ _ 53 rfl (w.heap.size + 3) 55 i0 (.agg #[.int .i32 0, .int .u8 0]) 2 8 Yba.underlying53 hi0 hz0 hz1 hz2 rfl (by decide) (.slice ao (oth c l m i).length cv) (oth c l m i).length (cells2 (oth c l m i)) rfl ?own ⟨wc.heap.size, 0, none⟩ 1 1 [.int .i32 (i : Int), .int .u8 ((atL c l i : Nat) : Int)] rfl rfl ?d1 ?d2 ?d3 ?d4 ?d5 ?_)
                      case own => exact HS3.out.row.alloc _
                      case d1 => exact two_new wc _ _ 55
                      case d2 => intro u hu; simp at hu; rcases hu with rfl | rfl <;> rfl
                      case d3 => unfold maxLen; omega
                      case d4 => omega
                      case d5 => have := lt_of_block HS3.out.s1.fst; simp; omega
                      intro v' w2 hown hgr _ _
                      have H4 := hid (HS3.out.more HA.out hgr hown)
                      clear hown hgr
                      go_wp2_with fail
                      go_roundw
                      case rel => exact ⟨i + 1, j2, by omega, rfl, H4.out⟩
                      case measure => simp [intOf]; omega
              · have : i = n := by omega
                subst this
                have t1 : ¬ (i : Int) < (i : Int) := by omega
                have r0 := HS3.out.s1.r0
                have r1 := HS3.out.s1.r1
                have rf := fun j => HS3.out.s1.rf j
                obtain ⟨ao, cv, hv⟩ := owns_shape HS3.out.row
                subst hv
                go_wp2_with fail
                exact settled_ret rfl HS3.out.s1 m _ (Q := SettledPost w i c l) fun W' hW hb => ⟨m, _, oth c l m i, rfl, own_diff (HS3.out.row.kept (hW ▸ grown_setCell (grown_setCell (World.grownBy.refl _ _))) (.inr fun e => by have := (HS3.out.row.lt _ e).1; omega)), oth_ok HO.out hm, fun x hx => oth_at hx, fun e hn => absurd (HMZ.out e hn) hmc, hb⟩
end Go.Proofs.Ybulkatiq
