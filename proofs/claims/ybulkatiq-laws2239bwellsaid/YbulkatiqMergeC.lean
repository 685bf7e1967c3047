/-
  mergeColumns.
-/
import Derived.Test.YbulkatiqMergeF
set_option linter.unusedVariables false
set_option linter.unusedSimpArgs false
namespace Go.Proofs.Ybulkatiq
open Go.ChangeShapes Go.WideShapes Go.ChangeAt Go.RowKit Go.Maps Go.WideMaps

/-- What the counting keeps. -/
structure MC1 (w wr : World) (sx sb n : Nat) (d : List Nat) : Prop where
  bel : Below w.heap.size w wr
  vs : wr.cell? ⟨sx, 0, none⟩ = some (.slice (some ⟨sb, 0, none⟩) (n + 1) (n + 1))
  rs : RowI wr sb d
  far : w.heap.size ≤ sb ∧ sb < sx

theorem MC1.below {w wr wx : World} {sx sb n : Nat} {d : List Nat} (h : MC1 w wr sx sb n d) (hb : Below wr.heap.size wr wx) : MC1 w wx sx sb n d :=
  ⟨h.bel.trans (below_le hb h.bel.size), (hb.cell (block_lt_of_cell h.vs)).trans h.vs, h.rs.below hb, h.far⟩

theorem MC1.set {w wr : World} {sx sb n : Nat} {d : List Nat} (h : MC1 w wr sx sb n d) {i : Nat} (x : Nat) (hi : i < d.length) : MC1 w (wr.setCell ⟨sb, i, none⟩ (.int .i32 (x : Nat))) sx sb n (d.set i x) := by
  have hf := h.far
  have hg : wr.grownBy (wr.setCell ⟨sb, i, none⟩ (.int .i32 (x : Nat))) (some sb) := grown_setCell (World.grownBy.refl wr _)
  exact ⟨h.bel.grown hg h.bel.size (fun k hk => by simp only [Option.some.injEq] at hk; omega), cell_kept hg h.vs (by omega), h.rs.set x hi, hf⟩

theorem rows_len {w : World} {p : Nat} {R : Rel} (h : RelAt w p R) : ∀ r ∈ R.rows, r.2.length ≤ R.n1 := fun r hr => by
  obtain ⟨k, hk, e⟩ := List.getElem_of_mem hr
  exact (h.rows k r (by rw [← e]; simp [hk])).1.len

theorem wrap32s {x y : Nat} (hxy : y = x + 1) (h : y ≤ 65536) : IntKind.i32.wrap ((x : Int) + 1) = (y : Int) := by
  simp [IntKind.wrap, IntKind.bits, IntKind.signed]
  omega
theorem wrap32p {x y z : Nat} (hxy : z = x + y) (h : z ≤ 65536) : IntKind.i32.wrap ((x : Int) + (y : Int)) = (z : Int) := by
  simp [IntKind.wrap, IntKind.bits, IntKind.signed]
  omega

theorem newk {W w' : World} {b : Nat} {v : Value} {t : TypeId} (hb : Below W.heap.size W w') (h : W.heap[b]? = some (.cells #[v] t (0, 0))) : w'.cell? ⟨b, 0, none⟩ = some v ∧ w'.frozen? ⟨b, 0, none⟩ = false ∧ (∀ o, (w'.alloc o).cell? ⟨b, 0, none⟩ = some v) ∧ (∀ o, (w'.alloc o).frozen? ⟨b, 0, none⟩ = false) := by
  have h2 := (hb.block b (lt_of_block h)).trans h
  exact ⟨by simp [World.cell?, h2], by simp [World.frozen?, h2], fun o => by simp [World.cell?, heap_old h2], fun o => by simp [World.frozen?, heap_old h2]⟩

theorem heap_new1 (w : World) (o1 o2 : Obj) : ((w.alloc o1).alloc o2).heap[w.heap.size + 1]? = some o2 := by
  have h := heap_new (w.alloc o1) o2
  rw [show (w.alloc o1).heap.size = w.heap.size + 1 by simp] at h
  exact h

theorem own_rowI {w : World} {base n : Nat} {v : Value} {l : List Nat} (h : w.ownsRow base 21 1 v n (ints l)) (hn : 0 < n) : ∃ xb xc, v = .slice (some ⟨xb, 0, none⟩) n xc ∧ base ≤ xb ∧ RowI w xb l := by
  have hl := h.1
  simp only [ints, List.length_map, Nat.mul_one] at hl
  rcases h.2 with ⟨e, h1⟩ | ⟨g, cap, cur, e, hb, hgg, h3, h4, hcs, h5⟩
  · omega
  · subst e
    refine ⟨g, cap, rfl, hb, ⟨cur, hgg, by omega⟩, fun i x hx => ?_⟩
    rw [h.cellAt i (by have := (List.getElem?_eq_some_iff.1 hx).1; omega)]
    simp [ints, hx]

/-- What the two variables 'listing' and 'next' hold when they are made. -/
def MC16 (wo wx : World) (tot n : Nat) (dd : List Nat) (v9 v10 : Value) : Prop :=
  ∃ lx lb xb xc, v9 = .pointer (some ⟨lx, 0, none⟩) ∧ v10 = .slice (some ⟨xb, 0, none⟩) n xc ∧ wx.cell? ⟨lx, 0, none⟩ = some (.slice (some ⟨lb, 0, none⟩) tot tot) ∧ RowC wx lb 0 (List.replicate tot (0, 0)) ∧ RowI wx xb dd ∧ wo.heap.size ≤ lx ∧ wo.heap.size ≤ lb ∧ wo.heap.size ≤ xb ∧ lx ≠ lb ∧ lx ≠ xb ∧ lb ≠ xb ∧ Below wo.heap.size wo wx

abbrev made55 (tot : Nat) : Obj := .cells (madeCells #[.int .i32 0, .int .u8 0] (tot * 2)) 55

theorem made55_row (X : World) (tot : Nat) : RowC (X.alloc (made55 tot)) X.heap.size 0 (List.replicate tot (0, 0)) := by
  refine ⟨⟨_, heap_new X _⟩, fun i x hx => ?_⟩
  rw [List.getElem?_replicate] at hx
  split at hx
  · simp only [Option.some.injEq] at hx
    subst hx
    rename_i hi
    have h := heap_new X (made55 tot)
    refine ⟨?_, ?_⟩
    · simp only [World.cell?, h]
      simp [madeCells, show i * 2 < tot * 2 by omega]
    · simp only [World.cell?, h]
      simp [madeCells, show i * 2 + 1 < tot * 2 by omega, Nat.add_mod]
  · cases hx

theorem cell_new1 (X : World) (v : Value) (t : TypeId) : (X.alloc (.cells #[v] t)).cell? ⟨X.heap.size, 0, none⟩ = some v := by
  unfold World.cell?
  rw [heap_new]
  rfl

theorem sz1 (X : World) (o : Obj) : (X.alloc o).heap.size = X.heap.size + 1 := by simp

section
variable {wo w' : World} {tot n xb xc : Nat} {dd : List Nat} {o2 : Obj}
theorem leaf1 (hb : Below (wo.alloc (made55 tot)).drew.heap.size (wo.alloc (made55 tot)).drew w') (hbn : Below wo.heap.size wo w') (hxb : (wo.alloc (made55 tot)).drew.heap.size ≤ xb) (hr : RowI w' xb dd) :
    MC16 wo (w'.alloc (.cells #[.slice (some ⟨wo.heap.size, 0, none⟩) tot tot] 53)) tot n dd (.pointer (some ⟨w'.heap.size, 0, none⟩)) (.slice (some ⟨xb, 0, none⟩) n xc) := by
  have h1 := ((made55_row wo tot).below (Below.drew (Below.refl _ _))).below hb
  have h2 := h1.lt
  have h3 := hr.lt
  have h4 : wo.heap.size + 1 ≤ xb := by rw [← sz1 wo (made55 tot)]; exact hxb
  have ha : Below w'.heap.size w' (w'.alloc (.cells #[.slice (some ⟨wo.heap.size, 0, none⟩) tot tot] 53)) := below_al (Below.refl _ _) _
  exact ⟨_, wo.heap.size, xb, xc, rfl, rfl, cell_new1 _ _ _, h1.below ha, hr.below ha, hbn.size, Nat.le_refl _, by omega, by omega, by omega, by omega, below_chain hbn ha⟩

theorem leaf3 (hb : Below wo.drew.heap.size wo.drew w') (hbn : Below wo.heap.size wo w') (hxb : wo.drew.heap.size ≤ xb) (hr : RowI w' xb dd) :
    MC16 wo ((w'.alloc (made55 tot)).alloc (.cells #[.slice (some ⟨w'.heap.size, 0, none⟩) tot tot] 53)) tot n dd (.pointer (some ⟨w'.heap.size + 1, 0, none⟩)) (.slice (some ⟨xb, 0, none⟩) n xc) := by
  have h1 := made55_row w' tot
  have h3 := hr.lt
  have h4 : wo.heap.size ≤ xb := hxb
  have h5 := hbn.size
  have ha : Below w'.heap.size w' (w'.alloc (made55 tot)) := below_al (Below.refl _ _) _
  have hc : Below (w'.alloc (made55 tot)).heap.size (w'.alloc (made55 tot)) ((w'.alloc (made55 tot)).alloc (.cells #[.slice (some ⟨w'.heap.size, 0, none⟩) tot tot] 53)) := below_al (Below.refl _ _) _
  have hn := cell_new1 (w'.alloc (made55 tot)) (.slice (some ⟨w'.heap.size, 0, none⟩) tot tot) 53
  rw [sz1] at hn
  exact ⟨_, w'.heap.size, xb, xc, rfl, rfl, hn, h1.below hc, (hr.below ha).below hc, by omega, by omega, by omega, by omega, by omega, by omega, below_chain (below_chain hbn ha) hc⟩

theorem leaf4 (hb : Below wo.drew.heap.size wo.drew w') (hbn : Below wo.heap.size wo w') (hxb : wo.drew.heap.size ≤ xb) (hr : RowI w' xb dd) :
    MC16 wo ((w'.alloc (.cells #[.slice (some ⟨w'.heap.size + 1, 0, none⟩) tot tot] 53)).alloc (made55 tot)) tot n dd (.pointer (some ⟨w'.heap.size, 0, none⟩)) (.slice (some ⟨xb, 0, none⟩) n xc) := by
  have h1 := made55_row (w'.alloc (.cells #[.slice (some ⟨w'.heap.size + 1, 0, none⟩) tot tot] 53)) tot
  rw [sz1] at h1
  have h3 := hr.lt
  have h4 : wo.heap.size ≤ xb := hxb
  have h5 := hbn.size
  have ha : Below w'.heap.size w' (w'.alloc (.cells #[.slice (some ⟨w'.heap.size + 1, 0, none⟩) tot tot] 53)) := below_al (Below.refl _ _) _
  have hc : Below (w'.alloc (.cells #[.slice (some ⟨w'.heap.size + 1, 0, none⟩) tot tot] 53)).heap.size (w'.alloc (.cells #[.slice (some ⟨w'.heap.size + 1, 0, none⟩) tot tot] 53)) ((w'.alloc (.cells #[.slice (some ⟨w'.heap.size + 1, 0, none⟩) tot tot] 53)).alloc (made55 tot)) := below_al (Below.refl _ _) _
  have hn := cell_new1 w' (.slice (some ⟨w'.heap.size + 1, 0, none⟩) tot tot) 53
  exact ⟨_, w'.heap.size + 1, xb, xc, rfl, rfl, (hc.cell (block_lt_of_cell hn)).trans hn, h1, (hr.below ha).below hc, by omega, by omega, by omega, by omega, by omega, by omega, below_chain (below_chain hbn ha) hc⟩

theorem leafS {lx lb : Nat} {X : World} {t : TypeId} {c0 : Value} (hX : Below wo.heap.size wo X) (hl : X.heap[lx]? = some (.cells #[c0] t (0, 0))) (h1 : RowC X lb 0 (List.replicate tot (0, 0))) (hr : RowI X xb dd) (h2 : wo.heap.size ≤ lx) (h3 : wo.heap.size ≤ lb) (h4 : wo.heap.size ≤ xb) (h5 : lx ≠ lb) (h6 : lx ≠ xb) (h7 : lb ≠ xb) :
    MC16 wo (X.setCell ⟨lx, 0, none⟩ (.slice (some ⟨lb, 0, none⟩) tot tot)) tot n dd (.pointer (some ⟨lx, 0, none⟩)) (.slice (some ⟨xb, 0, none⟩) n xc) := by
  have hg : X.grownBy (X.setCell ⟨lx, 0, none⟩ (.slice (some ⟨lb, 0, none⟩) tot tot)) (some lx) := grown_setCell (World.grownBy.refl X _)
  have g1 := heap_setCell_same X lx 0 _ t (.slice (some ⟨lb, 0, none⟩) tot tot) hl
  refine ⟨lx, lb, xb, xc, rfl, rfl, ?_, h1.other hg (fun e => h5 e.symm), hr.other hg (fun e => h6 e.symm), h2, h3, h4, h5, h6, h7, hX.grown hg hX.size (fun k hk => by simp only [Option.some.injEq] at hk; omega)⟩
  simp [World.cell?, g1]

theorem leaf2 (hb : Below ((wo.alloc (made55 tot)).alloc (.cells #[.slice none 0 0] 53)).drew.heap.size ((wo.alloc (made55 tot)).alloc (.cells #[.slice none 0 0] 53)).drew w') (hbn : Below wo.heap.size wo w') (hxb : ((wo.alloc (made55 tot)).alloc (.cells #[.slice none 0 0] 53)).drew.heap.size ≤ xb) (hr : RowI w' xb dd) :
    MC16 wo (w'.setCell ⟨wo.heap.size + 1, 0, none⟩ (.slice (some ⟨wo.heap.size, 0, none⟩) tot tot)) tot n dd (.pointer (some ⟨wo.heap.size + 1, 0, none⟩)) (.slice (some ⟨xb, 0, none⟩) n xc) := by
  have h4 : wo.heap.size + 1 + 1 ≤ xb := by rw [← sz1 wo (made55 tot), ← sz1 (wo.alloc (made55 tot)) (.cells #[.slice none 0 0] 53)]; exact hxb
  have hl := heap_new1 wo (made55 tot) (.cells #[.slice none 0 0] 53)
  have h1 := (made55_row wo tot).below (below_al (Below.refl _ _) (.cells #[.slice none 0 0] 53))
  exact leafS hbn ((hb.block _ (lt_of_block (w := ((wo.alloc (made55 tot)).alloc (.cells #[.slice none 0 0] 53)).drew) hl)).trans hl) ((h1.below (Below.drew (Below.refl _ _))).below hb) hr (by omega) (by omega) (by omega) (by omega) (by omega) (by omega)

theorem leaf5 (hb : Below ((wo.alloc (.cells #[.slice none 0 0] 53)).alloc (made55 tot)).drew.heap.size ((wo.alloc (.cells #[.slice none 0 0] 53)).alloc (made55 tot)).drew w') (hbn : Below wo.heap.size wo w') (hxb : ((wo.alloc (.cells #[.slice none 0 0] 53)).alloc (made55 tot)).drew.heap.size ≤ xb) (hr : RowI w' xb dd) :
    MC16 wo (w'.setCell ⟨wo.heap.size, 0, none⟩ (.slice (some ⟨wo.heap.size + 1, 0, none⟩) tot tot)) tot n dd (.pointer (some ⟨wo.heap.size, 0, none⟩)) (.slice (some ⟨xb, 0, none⟩) n xc) := by
  have h4 : wo.heap.size + 1 + 1 ≤ xb := by rw [← sz1 wo (.cells #[.slice none 0 0] 53), ← sz1 (wo.alloc (.cells #[.slice none 0 0] 53)) (made55 tot)]; exact hxb
  have hl := heap_old (o := made55 tot) (heap_new wo (.cells #[.slice none 0 0] 53))
  have h1 := made55_row (wo.alloc (.cells #[.slice none 0 0] 53)) tot
  rw [sz1] at h1
  exact leafS hbn ((hb.block _ (lt_of_block (w := ((wo.alloc (.cells #[.slice none 0 0] 53)).alloc (made55 tot)).drew) hl)).trans hl) ((h1.below (Below.drew (Below.refl _ _))).below hb) hr (by omega) (by omega) (by omega) (by omega) (by omega) (by omega)

theorem leaf6 (hb : Below (wo.alloc (.cells #[.slice none 0 0] 53)).drew.heap.size (wo.alloc (.cells #[.slice none 0 0] 53)).drew w') (hbn : Below wo.heap.size wo w') (hxb : (wo.alloc (.cells #[.slice none 0 0] 53)).drew.heap.size ≤ xb) (hr : RowI w' xb dd) :
    MC16 wo ((w'.alloc (made55 tot)).setCell ⟨wo.heap.size, 0, none⟩ (.slice (some ⟨w'.heap.size, 0, none⟩) tot tot)) tot n dd (.pointer (some ⟨wo.heap.size, 0, none⟩)) (.slice (some ⟨xb, 0, none⟩) n xc) := by
  have h4 : wo.heap.size + 1 ≤ xb := by rw [← sz1 wo (.cells #[.slice none 0 0] 53)]; exact hxb
  have hl := heap_new wo (.cells #[.slice none 0 0] 53)
  have hl2 := (hb.block _ (lt_of_block (w := (wo.alloc (.cells #[.slice none 0 0] 53)).drew) hl)).trans hl
  have hlt := lt_of_block hl2
  have hx := hr.lt
  have ha : Below w'.heap.size w' (w'.alloc (made55 tot)) := below_al (Below.refl _ _) _
  exact leafS (below_chain hbn ha) (heap_old hl2) (made55_row w' tot) (hr.below ha) (by omega) (by omega) (by omega) (by omega) (by omega) (by omega)
end

theorem colE_len (es : List Ent) (c : Nat) : (colE es c).length ≤ es.length := by
  unfold colE
  rw [List.length_map]
  exact List.length_filter_le _ _

theorem doneE_len {w : World} {p : Nat} {R : Rel} (h : RelAt w p R) {k i : Nat} (hk : k < R.rows.length) : (doneE R.rows k i).length ≤ 256 := by
  obtain ⟨r, hr⟩ := doneE_prefix (i := i) hk
  have h1 := ents_len (rows_len h) 0
  have h2 := h.small
  have h3 := h.len
  have h4 : R.rows.length * R.n1 ≤ 16 * 16 := Nat.mul_le_mul (by omega) h2.2
  rw [hr] at h1
  simp only [List.length_append] at h1
  omega
theorem ents_len' {w : World} {p : Nat} {R : Rel} (h : RelAt w p R) : (ents 0 R.rows).length ≤ 256 := by
  have h1 := ents_len (rows_len h) 0
  have h2 := h.small
  have h3 := h.len
  have h4 : R.rows.length * R.n1 ≤ 16 * 16 := Nat.mul_le_mul (by omega) h2.2
  omega

/-- What the laying keeps. -/
structure MC2 (w wr : World) (sx sb lx lb xb n tot : Nat) (d nx : List Nat) (ls : List (Nat × Nat)) : Prop where
  m1 : MC1 w wr sx sb n d
  vl : wr.cell? ⟨lx, 0, none⟩ = some (.slice (some ⟨lb, 0, none⟩) tot tot)
  rl : RowC wr lb 0 ls
  rx : RowI wr xb nx
  far : sx < lx ∧ sx < lb ∧ sx < xb ∧ lx ≠ lb ∧ lx ≠ xb ∧ lb ≠ xb

theorem MC2.below {w wr wx : World} {sx sb lx lb xb n tot : Nat} {d nx : List Nat} {ls : List (Nat × Nat)} (h : MC2 w wr sx sb lx lb xb n tot d nx ls) (hb : Below wr.heap.size wr wx) : MC2 w wx sx sb lx lb xb n tot d nx ls :=
  ⟨h.m1.below hb, (hb.cell (block_lt_of_cell h.vl)).trans h.vl, h.rl.below hb, h.rx.below hb, h.far⟩

theorem MC1.other {w wr wx : World} {sx sb n p : Nat} {d : List Nat} (h : MC1 w wr sx sb n d) (hg : wr.grownBy wx (some p)) (h1 : sx < p) : MC1 w wx sx sb n d := by
  have hf := h.far
  exact ⟨h.bel.grown hg h.bel.size (fun k hk => by simp only [Option.some.injEq] at hk; omega), cell_kept hg h.vs (by omega), h.rs.other hg (by omega), hf⟩

theorem MC2.put {w wr : World} {sx sb lx lb xb n tot : Nat} {d nx : List Nat} {ls : List (Nat × Nat)} (h : MC2 w wr sx sb lx lb xb n tot d nx ls) {i c y : Nat} (q : Nat × Nat) (hi : i < ls.length) (hc : c < nx.length) :
    MC2 w (((wr.setCell ⟨lb, i * 2, none⟩ (.int .i32 (q.1 : Nat))).setCell ⟨lb, i * 2 + 1, none⟩ (.int .u8 (q.2 : Nat))).setCell ⟨xb, c, none⟩ (.int .i32 (y : Nat))) sx sb lx lb xb n tot d (nx.set c y) (ls.set i q) := by
  obtain ⟨f1, f2, f3, f4, f5, f6⟩ := h.far
  have hg1 : wr.grownBy ((wr.setCell ⟨lb, i * 2, none⟩ (.int .i32 (q.1 : Nat))).setCell ⟨lb, i * 2 + 1, none⟩ (.int .u8 (q.2 : Nat))) (some lb) := grown_setCell (grown_setCell (World.grownBy.refl wr _))
  have r1 := h.rl.set q hi
  rw [Nat.zero_add] at r1
  have x1 := h.rx.other hg1 (fun e => f6 e.symm)
  have m1 := h.m1.other hg1 f2
  have v1 := cell_kept hg1 h.vl f4
  generalize ((wr.setCell ⟨lb, i * 2, none⟩ (.int .i32 (q.1 : Nat))).setCell ⟨lb, i * 2 + 1, none⟩ (.int .u8 (q.2 : Nat))) = W at *
  have hg2 : W.grownBy (W.setCell ⟨xb, c, none⟩ (.int .i32 (y : Nat))) (some xb) := grown_setCell (World.grownBy.refl W _)
  exact ⟨m1.other hg2 f3, cell_kept hg2 v1 f5, r1.other hg2 f6, x1.set y hc, f1, f2, f3, f4, f5, f6⟩

set_option maxRecDepth 100000 in
set_option maxHeartbeats 12800000 in
theorem mergeCols27 {w : World} {p : Nat} {R : Rel} (h : RelOn w p R) (hpos : 0 < R.n1) (hn12 : R.n1 ≤ 12) (hnb : R.nb ≤ 4096) : Calls Yba.prog 27 #[.pointer (some ⟨p, 0, none⟩)] w (MCPost w p R) := by
  have hp := lt_of_block h.blk
  have hsm := h.at_.small
  have hro := h.ro
  have c3 := h.at_.c3
  have hlen := h.at_.len
  obtain ⟨i0, hi0, hz0, hz1, hz2⟩ := info_parts info21
  obtain ⟨N, hN⟩ : ∃ N, N = R.n1 + 1 := ⟨_, rfl⟩
  have hwN := wrap32s hN (by omega)
  have HN := hid hN
  clear hN
  have H := hid h
  clear h
  go_enter Yba.func27, Yba.ntmps27
  go_wp2_with (at_make; refine wpList_make_full _ rfl _ _ 70 rfl w.heap.size 21 i0 _ 1 Yba.underlying70 hi0 hz0 hz1 .i32 .i32 (N : Int) (N : Int) N rfl rfl rfl rfl ?b2 ?b3 ?b4 ?_)
  case b2 => have := HN.out; rw [hz2]; omega
  case b3 => have := HN.out; unfold maxLen; omega
  case b4 => exact Nat.le_refl _
  intro w1 hrow hgr
  have hb1 : Below w.heap.size w w1 := (Below.refl _ _).grown hgr (Nat.le_refl _) (fun k hk => by cases hk)
  have HS := hid (show MC1 w (w1.alloc (.cells #[.slice (some ⟨w.heap.size, 0, none⟩) N N] 70)) w1.heap.size w.heap.size R.n1 (List.replicate (R.n1 + 1) 0) from by
    have hr := made_rowI hrow
    have hl := hr.lt
    rw [HN.out] at hr
    refine ⟨below_al hb1 _, ?_, hr.below (below_al (Below.refl _ _) _), Nat.le_refl _, by omega⟩
    unfold World.cell?
    rw [heap_new, HN.out]
    rfl)
  have hpw : p < w1.heap.size := by have := hb1.size; omega
  clear hrow hb1 hgr c3
  go_upto_region 2 with fail
  generalize w1.alloc (.cells #[.slice (some ⟨w.heap.size, 0, none⟩) N N] 70) = W1 at HS ⊢
  generalize w1.heap.size = sx at HS ⊢
  generalize hsb : w.heap.size = sb at HS ⊢
  have hsb2 : w.heap.size ≤ sb := by omega
  have c4 := (H.out.below HS.out.bel).at_.c4
  rw [hro] at c4
  go_upto_block 0 with fail
  clear c4
  go_cut [36] from 36 to 56 (fun _ wx => ∃ d, MC1 w wx sx sb R.n1 d ∧ Cnt (ents 0 R.rows) R.n1 d)
  case first =>
    go_wp2_with fail
    go_loopw [36] (fun vk wr => ∃ (k : Nat) (d : List Nat), k ≤ R.n0 ∧ vk = .int .i64 k ∧ MC1 w wr sx sb R.n1 d ∧ Cnt (doneE R.rows k 0) R.n1 d) (fun vk _ => R.n0 - (intOf vk).toNat)
    case atStart => exact ⟨0, _, by omega, rfl, HS.out, by rw [doneE_zero]; exact Cnt.start _⟩
    case round =>
      obtain ⟨k, d, hk, rfl, hmc, hcnt⟩ := hrel
      clear HS
      generalize wr = wo at hmc ⊢
      have HS := hid hmc
      have HC := hid hcnt
      clear hmc hcnt
      rcases Nat.lt_or_ge k R.n0 with hlt | hge
      · have t1 : (k : Int) < (R.n0 : Int) := by omega
        have hrel := H.out.at_
        have hri : R.rows[k]? = some (R.rows.getD k (0, [])) := by simp [List.getD, show k < R.rows.length by omega]
        obtain ⟨ok1, r0, vr, r1, d1⟩ := hrel.rows k _ hri
        have HLE := hid (fun i => doneE_len (i := i) hrel (show k < R.rows.length by omega))
        have HSN := hid (fun i d => doneE_snoc (rows := R.rows) (k := k) (i := i) (d := d))
        have HRW := hid (doneE_row (rows := R.rows) (k := k) (by omega))
        clear hri hrel
        rw [hro, Nat.zero_add] at r0 r1
        have r0 := (HS.out.bel.cell (block_lt_of_cell r0)).trans r0
        have r1 := (HS.out.bel.cell (block_lt_of_cell r1)).trans r1
        obtain ⟨r, hr⟩ : ∃ r, r = R.rows.getD k (0, []) := ⟨_, rfl⟩
        rw [← hr] at ok1 r0 d1 HSN HRW
        obtain ⟨c, l⟩ := r
        simp only at ok1 r0 d1 HSN HRW
        have hll := ok1.len
        have HD := hid d1
        have HOK := hid ok1
        obtain ⟨a, cap, rfl⟩ := d1.shape
        clear d1 ok1 hr
        go_upto_block 1 with fail
        go_cut [43] from 43 to 55 (fun _ wx => ∃ d, MC1 w wx sx sb R.n1 d ∧ Cnt (doneE R.rows (k + 1) 0) R.n1 d)
        case first =>
          go_wp2_with fail
          have HS1 := hid (HS.out.below (below_al (Below.refl _ _) (.cells #[.int .u8 (c : Nat), .slice a l.length cap] 57)))
          clear HS
          generalize wo.alloc (.cells #[.int .u8 (c : Nat), .slice a l.length cap] 57) = wp at HS1 ⊢
          go_loopw [43] (fun vi wr => ∃ (i : Nat) (d : List Nat), i ≤ l.length ∧ vi = .int .i64 i ∧ MC1 w wr sx sb R.n1 d ∧ Cnt (doneE R.rows k i) R.n1 d) (fun vi _ => l.length - (intOf vi).toNat)
          case atStart => exact ⟨0, d, by omega, rfl, HS1.out, HC.out⟩
          case round =>
            obtain ⟨i, d, hi, rfl, hmc, hcnt⟩ := hrel
            clear HS1 HC
            have HS := hid hmc
            have HC := hid hcnt
            have hdl := hcnt.len
            clear hmc hcnt
            rcases Nat.lt_or_ge i l.length with hlt2 | hge2
            · have t2 : (i : Int) < (l.length : Int) := by omega
              have hp : l[i]? = some l[i] := by simp [hlt2]
              obtain ⟨b1, o1, rfl, _, x0, x1⟩ := (HD.out.below HS.out.bel).one hp
              have hq := HOK.out.each i _ hp
              have HN2 := hid (HSN.out i _ hp)
              have hle := HLE.out i
              clear hp
              generalize l[i] = q at *
              obtain ⟨c1, hc1⟩ : ∃ c1, c1 = q.1 + 1 := ⟨_, rfl⟩
              have hw1 := wrap32s hc1 (by omega)
              have t3 : (c1 : Int) < (N : Int) := by have := HN.out; omega
              have hcx := HC.out.each q.1 hq.1
              rw [← hc1] at hcx
              have hcl := colE_len (doneE R.rows k i) q.1
              have hb2 : Below wr.heap.size wr (wr.alloc (.cells #[.int .i32 (q.1 : Nat), .int .u8 (q.2 : Nat)] 55)) := below_al (Below.refl _ _) _
              have HS1 := hid (HS.out.below hb2)
              have vs := HS1.out.vs
              rw [← HN.out] at vs
              have ra := HS1.out.rs.at (i := c1) (by omega)
              have rf := fun j => HS1.out.rs.fz j
              have HS2 := hid (HS1.out.set (i := c1) (d.getD c1 0 + 1) (by omega))
              have HC2 := hid (show Cnt (doneE R.rows k (i + 1)) R.n1 (d.set c1 (d.getD c1 0 + 1)) from by rw [HN2.out, hc1]; exact HC.out.step hq.1)
              obtain ⟨x, hx⟩ : ∃ x, x = d.getD c1 0 := ⟨_, rfl⟩
              obtain ⟨y, hy⟩ : ∃ y, y = d.getD c1 0 + 1 := ⟨_, rfl⟩
              have hw2 := wrap32s (show y = x + 1 by omega) (by omega)
              rw [← hx] at ra
              rw [← hy] at HS2 HC2
              clear hc1 hcx hx hy hb2
              go_wp2_with fail
              go_roundw
              case rel => exact ⟨i + 1, _, by omega, rfl, HS2.out, HC2.out⟩
              case measure => simp [intOf]; omega
            · have : i = l.length := by omega
              have t2 : ¬ (i : Int) < (l.length : Int) := by omega
              have HC2 := hid (show Cnt (doneE R.rows (k + 1) 0) R.n1 d from by rw [← HRW.out, ← this]; exact HC.out)
              go_wp2_with fail
              go_meet
              case rel => exact ⟨d, HS.out, HC2.out⟩
        case rest =>
          obtain ⟨d2, hmc, hcnt⟩ := hcut
          clear HS HC HD HOK HLE HSN HRW
          have HS := hid hmc
          have HC := hid hcnt
          clear hmc hcnt
          go_wp2_with fail
          go_roundw
          case rel => exact ⟨k + 1, d2, by omega, rfl, HS.out, HC.out⟩
          case measure => simp [intOf]; omega
      · have : k = R.n0 := by omega
        have t1 : ¬ (k : Int) < (R.n0 : Int) := by omega
        have HE := hid (show Cnt (ents 0 R.rows) R.n1 d from by have := HC.out; rw [show k = R.rows.length by omega, doneE_all] at this; exact this)
        go_wp2_with fail
        go_meet
        case rel => exact ⟨d, HS.out, HE.out⟩
  case rest =>
    obtain ⟨d, hmc, hcnt⟩ := hcut
    clear HS
    have HS := hid hmc
    have HC := hid hcnt
    clear hmc hcnt W1
    have hall := ents_len' H.out.at_
    generalize hae : ents 0 R.rows = all at *
    go_upto_block 4 with fail
    go_cut [58] from 58 to 72 (fun _ wx => ∃ d, MC1 w wx sx sb R.n1 d ∧ Sums all R.n1 R.n1 d)
    case first =>
      go_wp2_with fail
      go_loopw [58] (fun vl wr => ∃ (l : Nat) (d : List Nat), l ≤ R.n1 ∧ vl = .int .i32 l ∧ MC1 w wr sx sb R.n1 d ∧ Sums all R.n1 l d) (fun vl _ => R.n1 - (intOf vl).toNat)
      case atStart => exact ⟨0, _, by omega, rfl, HS.out, HC.out.sums⟩
      case round =>
        obtain ⟨l, d, hl, rfl, hmc, hsum⟩ := hrel
        clear HS HC
        have HS := hid hmc
        have HC := hid hsum
        have hdl := hsum.len
        clear hmc hsum
        rcases Nat.lt_or_ge l R.n1 with hlt | hge
        · have t1 : (l : Int) < (R.n1 : Int) := by omega
          obtain ⟨l1, hl1⟩ : ∃ l1, l1 = l + 1 := ⟨_, rfl⟩
          have hw1 := wrap32s hl1 (by omega)
          have t2 : (l1 : Int) < (N : Int) := by have := HN.out; omega
          have t3 : (l : Int) < (N : Int) := by have := HN.out; omega
          have e1 := HC.out.high l (Nat.le_refl _) hlt
          have e2 := HC.out.low l (Nat.le_refl _)
          have e3 := colE_len all l
          have e4 := sumC_le all l
          rw [← hl1] at e1
          have vs := HS.out.vs
          rw [← HN.out] at vs
          have vs2 : wr.drew.cell? ⟨sx, 0, none⟩ = some (.slice (some ⟨sb, 0, none⟩) N N) := vs
          have ra : wr.drew.cell? ⟨sb, l1, none⟩ = _ := HS.out.rs.at (i := l1) (by omega)
          have rb : wr.drew.cell? ⟨sb, l, none⟩ = _ := HS.out.rs.at (i := l) (by omega)
          have rf : ∀ j, wr.drew.frozen? ⟨sb, j, none⟩ = false := fun j => HS.out.rs.fz j
          have HS2 := hid ((HS.out.set (i := l1) (d.getD l1 0 + d.getD l 0) (by omega)).below (Below.drew (Below.refl _ _)))
          have HC2 := hid (show Sums all R.n1 (l + 1) (d.set l1 (d.getD l1 0 + d.getD l 0)) from by rw [hl1]; exact HC.out.step hlt)
          obtain ⟨x, hx⟩ : ∃ x, x = d.getD l1 0 := ⟨_, rfl⟩
          obtain ⟨y, hy⟩ : ∃ y, y = d.getD l 0 := ⟨_, rfl⟩
          obtain ⟨z, hz⟩ : ∃ z, z = x + y := ⟨_, rfl⟩
          have hw2 := wrap32p hz (by omega)
          rw [← hx] at ra
          rw [← hy] at rb
          rw [← hx, ← hy, ← hz] at HS2 HC2
          have HL1 := hid hl1
          clear hl1 e1 e2 e3 e4 hx hy hz vs
          go_upto_region 14 with fail
          go_region
          all_goals go_wp2_with fail
          all_goals exact ⟨⟨l + 1, _, by omega, by rw [HL1.out], HS2.out, HC2.out⟩, by have := HL1.out; simp [intOf]; omega⟩
        · have : l = R.n1 := by omega
          have t1 : ¬ (l : Int) < (R.n1 : Int) := by omega
          rw [this] at HC
          go_wp2_with fail
          go_meet
          case rel => exact ⟨d, HS.out, HC.out⟩
    case rest =>
      obtain ⟨d2, hmc, hsum⟩ := hcut
      clear HS HC d
      generalize d2 = d at hmc hsum
      have hdl := hsum.len
      have HS := hid hmc
      have HC := hid hsum
      have vs := hmc.vs
      rw [← HN.out] at vs
      have hnn := hsum.low R.n1 (Nat.le_refl _)
      have hle := sumC_le all R.n1
      have rn := hmc.rs.at (i := R.n1) (by omega)
      rw [hnn] at rn
      obtain ⟨tot, htot⟩ : ∃ tot, tot = sumC all R.n1 := ⟨_, rfl⟩
      rw [← htot] at rn hle hnn
      have HT := hid htot
      clear hmc hsum htot hnn
      generalize wc = wo at HS rn vs ⊢
      obtain ⟨j0, hj0, hy0, hy1, hy2⟩ := info_parts info55
      have hmk : ∀ W : World, (Instr.makeSlice 53 (.int .i32 (tot : Nat)) (.int .i32 (tot : Nat))).run Yba.prog W = .ok (.slice (some ⟨W.heap.size, 0, none⟩) tot tot) (W.alloc (.cells (madeCells #[.int .i32 0, .int .u8 0] (tot * 2)) 55)) := fun W => by
        have h := run_makeSlice (P := Yba.prog) W 53 55 j0 _ Yba.underlying53 hj0 hy0 .i32 .i32 (tot : Int) (tot : Int) (by omega) (by omega) (by rw [hy1]; simp; omega) (by rw [hy2]; simp; omega) (by omega)
        rw [hy1] at h
        simpa [Value.cells] using h
      have KP := hid (fun W (hb : Below wo.heap.size wo W) => (⟨(hb.cell (block_lt_of_cell vs)).trans vs, (hb.cell (block_lt_of_cell rn)).trans rn, hb⟩ : W.cell? ⟨sx, 0, none⟩ = some (.slice (some ⟨sb, 0, none⟩) N N) ∧ W.cell? ⟨sb, R.n1, none⟩ = some (.int .i32 (tot : Nat)) ∧ Below wo.heap.size wo W))
      have HCL := hid (fun W (hb : Below wo.heap.size wo W) => clone40 (w := W) (b := sb) (cap := N) (l := d.take R.n1) (fun i x hx => (HS.out.rs.below hb).each i x (by rw [List.getElem?_take] at hx; split at hx; exact hx; cases hx)) (by simp; omega) (by simp; omega))
      have hb0 := Below.refl wo.heap.size wo
      have t1 : (R.n1 : Int) < (N : Int) := by have := HN.out; omega
      have t2 : (R.n1 : Int) ≤ (N : Int) := by omega
      have htl : (d.take R.n1).length = R.n1 := by simp; omega
      rw [htl] at HCL
      clear vs rn
      go_upto_region 16 with fail
      go_cut [9, 10] from 73 to 81 (fun v9 v10 wx => MC16 wo wx tot R.n1 (d.take R.n1) v9 v10)
      case first =>
        go_region_held3 (fun W => W.cell? ⟨sx, 0, none⟩ = some (.slice (some ⟨sb, 0, none⟩) N N) ∧ W.cell? ⟨sb, R.n1, none⟩ = some (.int .i32 (tot : Nat)) ∧ Below wo.heap.size wo W)
          (exact KP.out _ (by repeat (first | assumption | exact Below.refl _ _ | refine Below.drew ?_ | refine below_al ?_ _ | refine Below.setCell ?_ (by first | exact Nat.le_refl _ | exact Nat.le_succ _) _)))
          ((go_at_call 40; refine (HCL.out _ ?hx).mono ?_; (case hx => (repeat (first | assumption | exact Below.refl _ _ | refine Below.drew ?_ | refine below_al ?_ _))); rintro e w' ⟨v, rfl, hrow, hb⟩; have hbn : Below wo.heap.size wo w' := below_chain (by repeat (first | assumption | exact Below.refl _ _ | refine Below.drew ?_ | refine below_al ?_ _)) hb
            obtain ⟨xb, xc, rfl, hxb, hri⟩ := own_rowI hrow (by omega)
            first
              | (have hq := newk (b := wo.heap.size) (v := .slice none 0 0) (t := 53) hb (heap_new wo _); obtain ⟨q1, q2, q3, q4⟩ := hq)
              | (have hq := newk (b := wo.heap.size) (v := .slice none 0 0) (t := 53) hb (heap_old (heap_new wo _)); obtain ⟨q1, q2, q3, q4⟩ := hq)
              | (have hq := newk (b := wo.heap.size + 1) (v := .slice none 0 0) (t := 53) hb (heap_new1 wo _ _); obtain ⟨q1, q2, q3, q4⟩ := hq)
              | skip))
        all_goals go_wp2_with fail
        all_goals go_meet
        · exact leaf1 hb hbn hxb hri
        · exact leaf2 hb hbn hxb hri
        · exact leaf3 hb hbn hxb hri
        · exact leaf4 hb hbn hxb hri
        · exact leaf5 hb hbn hxb hri
        · exact leaf6 hb hbn hxb hri
      case rest =>
        obtain ⟨lx, lb, xb, xc, rfl, rfl, hvl, hrl, hrx, g1, g2, g3, g4, g5, g6, hbc⟩ := hcut
        have hsxl := block_lt_of_cell HS.out.vs
        have HM := hid (show MC2 w wc sx sb lx lb xb R.n1 tot d (d.take R.n1) (List.replicate tot (0, 0)) from ⟨HS.out.below hbc, hvl, hrl, hrx, by simp only at hsxl; omega, by simp only at hsxl; omega, by simp only at hsxl; omega, g4, g5, g6⟩)
        have HL := hid (show Lay all [] R.n1 (d.take R.n1) (List.replicate tot (0, 0)) from by
          have h0 := Lay.start all R.n1
          rw [← HT.out] at h0
          have e : d.take R.n1 = (List.range R.n1).map (sumC all) := by
            apply List.ext_getElem?
            intro j
            rw [List.getElem?_take]
            split
            · rename_i hj
              have := HC.out.low j (by omega)
              have h2 : d[j]? = some (d.getD j 0) := by simp [List.getD, show j < d.length by omega]
              rw [h2, this]
              simp [hj]
            · rename_i hj
              simp [hj]
          rw [e]
          exact h0)
        clear hvl hrl hrx hbc g1 g2 g3 KP HCL hmk HS hj0 hy0 hy1 hy2 hb0 hi0 hz0 hz1 hz2 htl
        have c4 := (H.out.below HM.out.m1.bel).at_.c4
        rw [hro] at c4
        go_upto_block 6 with fail
        clear c4
        go_cut [87] from 82 to 122 (fun _ wx => ∃ nx ls, MC2 w wx sx sb lx lb xb R.n1 tot d nx ls ∧ Lay all all R.n1 nx ls)
        case first =>
          go_wp2_with fail
          go_loopw [87] (fun vk wr => ∃ (k : Nat) (nx : List Nat) (ls : List (Nat × Nat)), k ≤ R.n0 ∧ vk = .int .i64 k ∧ MC2 w wr sx sb lx lb xb R.n1 tot d nx ls ∧ Lay all (doneE R.rows k 0) R.n1 nx ls) (fun vk _ => R.n0 - (intOf vk).toNat)
          case atStart => exact ⟨0, _, _, by omega, rfl, HM.out, by rw [doneE_zero]; exact HL.out⟩
          case round =>
            obtain ⟨k, nx, ls, hk, rfl, hmc, hlay⟩ := hrel
            clear HM HL
            generalize wr = wo at hmc ⊢
            have HS := hid hmc
            have HL := hid hlay
            clear hmc hlay
            rcases Nat.lt_or_ge k R.n0 with hlt | hge
            · have t3 : (k : Int) < (R.n0 : Int) := by omega
              have hrel := H.out.at_
              have hri : R.rows[k]? = some (R.rows.getD k (0, [])) := by simp [List.getD, show k < R.rows.length by omega]
              obtain ⟨ok1, r0, vr, r1, d1⟩ := hrel.rows k _ hri
              have HPF := hid (fun i => doneE_prefix (rows := R.rows) (i := i) (show k < R.rows.length by omega))
              have HSN := hid (fun i d => doneE_snoc (rows := R.rows) (k := k) (i := i) (d := d))
              have HRW := hid (doneE_row (rows := R.rows) (k := k) (by omega))
              clear hri hrel
              rw [hro, Nat.zero_add] at r0 r1
              have r0 := (HS.out.m1.bel.cell (block_lt_of_cell r0)).trans r0
              have r1 := (HS.out.m1.bel.cell (block_lt_of_cell r1)).trans r1
              obtain ⟨r, hr⟩ : ∃ r, r = R.rows.getD k (0, []) := ⟨_, rfl⟩
              rw [← hr] at ok1 r0 d1 HSN HRW
              obtain ⟨c, l⟩ := r
              simp only at ok1 r0 d1 HSN HRW
              have hll := ok1.len
              have HD := hid d1
              have HOK := hid ok1
              obtain ⟨a, cap, rfl⟩ := d1.shape
              clear d1 ok1 hr
              go_upto_block 7 with fail
              go_cut [95] from 89 to 121 (fun _ wx => ∃ nx ls, MC2 w wx sx sb lx lb xb R.n1 tot d nx ls ∧ Lay all (doneE R.rows (k + 1) 0) R.n1 nx ls)
              case first =>
                go_wp2_with fail
                have HS1 := hid (HS.out.below (below_al (Below.refl _ _) (.cells #[.int .u8 (c : Nat), .slice a l.length cap] 57)))
                clear HS
                generalize wo.alloc (.cells #[.int .u8 (c : Nat), .slice a l.length cap] 57) = wp at HS1 ⊢
                go_loopw [95] (fun vi wr => ∃ (i : Nat) (nx : List Nat) (ls : List (Nat × Nat)), i ≤ l.length ∧ vi = .int .i64 i ∧ MC2 w wr sx sb lx lb xb R.n1 tot d nx ls ∧ Lay all (doneE R.rows k i) R.n1 nx ls) (fun vi _ => l.length - (intOf vi).toNat)
                case atStart => exact ⟨0, nx, ls, by omega, rfl, HS1.out, HL.out⟩
                case round =>
                  obtain ⟨i, nx, ls, hi, rfl, hmc, hlay⟩ := hrel
                  clear HS1 HL
                  have HS := hid hmc
                  have HL := hid hlay
                  have hnl := hlay.nlen
                  have hll2 := hlay.llen
                  rw [← HT.out] at hll2
                  clear hmc hlay
                  rcases Nat.lt_or_ge i l.length with hlt2 | hge2
                  · have t4 : (i : Int) < (l.length : Int) := by omega
                    have hp : l[i]? = some l[i] := by simp [hlt2]
                    obtain ⟨b1, o1, rfl, _, x0, x1⟩ := (HD.out.below HS.out.m1.bel).one hp
                    have hq := HOK.out.each i _ hp
                    have HN2 := hid (HSN.out i _ hp)
                    clear hp
                    generalize l[i] = q at *
                    obtain ⟨q1, q2⟩ := q
                    simp only at hq HN2 x0 x1
                    obtain ⟨re, hre⟩ := HPF.out (i + 1)
                    rw [hae, HN2.out] at hre
                    obtain ⟨hr1, hr2⟩ := HL.out.room hre hq.1
                    rw [← HT.out] at hr2
                    have HL2 := hid (show Lay all (doneE R.rows k (i + 1)) R.n1 (nx.set q1 (nx.getD q1 0 + 1)) (ls.set (nx.getD q1 0) (k, q2)) from by rw [HN2.out]; exact HL.out.step hre hq.1)
                    obtain ⟨y, hy⟩ : ∃ y, y = nx.getD q1 0 := ⟨_, rfl⟩
                    obtain ⟨y1, hy1⟩ : ∃ y1, y1 = y + 1 := ⟨_, rfl⟩
                    have hw1 := wrap32s hy1 (by omega)
                    have hwk := wrap32 (show k ≤ 65536 by omega)
                    have t5 : (q1 : Int) < (R.n1 : Int) := by omega
                    have t6 : (y : Int) < (tot : Int) := by omega
                    have hb2 : Below wr.heap.size wr (wr.alloc (.cells #[.int .i32 (q1 : Nat), .int .u8 (q2 : Nat)] 55)) := below_al (Below.refl _ _) _
                    have HS1 := hid (HS.out.below hb2)
                    have z0 := new2_0' wr (.int .i32 (q1 : Nat)) (.int .u8 (q2 : Nat)) 55
                    have z1 := new2_1' wr (.int .i32 (q1 : Nat)) (.int .u8 (q2 : Nat)) 55
                    rw [← hy] at hr1
                    rw [← hy, ← hy1] at HL2
                    clear hre hb2
                    go_upto_region 23 with fail
                    generalize wr.alloc (.cells #[.int .i32 (q1 : Nat), .int .u8 (q2 : Nat)] 55) = W2 at HS1 z0 z1 ⊢
                    have hDl : wr.heap.size ≠ lb := by have := HS.out.rl.lt; omega
                    have hDx : wr.heap.size ≠ xb := by have := HS.out.rx.lt; omega
                    generalize wr.heap.size = D at z0 z1 hDl hDx ⊢
                    have e0 : W2.drew.cell? ⟨D, 0, none⟩ = some (.int .i32 (q1 : Nat)) := z0
                    have e1 : W2.drew.cell? ⟨D, 1, none⟩ = some (.int .u8 (q2 : Nat)) := z1
                    have e2 : W2.drew.cell? ⟨lx, 0, none⟩ = some (.slice (some ⟨lb, 0, none⟩) tot tot) := HS1.out.vl
                    have e3 : W2.drew.cell? ⟨xb, q1, none⟩ = some (.int .i32 (y : Nat)) := by rw [hy]; exact HS1.out.rx.at (i := q1) (by omega)
                    have e4 := (HS1.out.rl.at (i := y) (by omega)).1
                    have e5 := (HS1.out.rl.at (i := y) (by omega)).2
                    rw [Nat.zero_add] at e4 e5
                    generalize ls.getD y (0, 0) = oz at e4 e5
                    have e6 : W2.drew.cell? ⟨lb, y * 2, none⟩ = some (.int .i32 (oz.1 : Nat)) := e4
                    have e7 : W2.drew.cell? ⟨lb, y * 2 + 1, none⟩ = some (.int .u8 (oz.2 : Nat)) := e5
                    have e8 : ∀ j, W2.drew.frozen? ⟨lb, j, none⟩ = false := fun j => HS1.out.rl.fz j
                    have e9 : ∀ j, W2.drew.frozen? ⟨xb, j, none⟩ = false := fun j => HS1.out.rx.fz j
                    have HS2 := hid ((HS1.out.put (i := y) (c := q1) (y := y1) (k, q2) (by omega) (by omega)).below (Below.drew (Below.refl _ _)))
                    have hne : xb ≠ lb := fun e => g6 e.symm
                    have e10 : ∀ j, W2.frozen? ⟨lb, j, none⟩ = false := fun j => HS1.out.rl.fz j
                    have e11 : ∀ j, W2.frozen? ⟨xb, j, none⟩ = false := fun j => HS1.out.rx.fz j
                    have e12 : W2.cell? ⟨xb, q1, none⟩ = some (.int .i32 (y : Nat)) := e3
                    clear hy hy1 x0 x1
                    go_region
                    all_goals go_wp2_with fail
                    all_goals exact ⟨⟨i + 1, _, _, by omega, rfl, HS2.out, HL2.out⟩, by simp [intOf]; omega⟩
                  · have : i = l.length := by omega
                    have t4 : ¬ (i : Int) < (l.length : Int) := by omega
                    have HL2 := hid (show Lay all (doneE R.rows (k + 1) 0) R.n1 nx ls from by rw [← HRW.out, ← this]; exact HL.out)
                    go_wp2_with fail
                    go_meet
                    case rel => exact ⟨nx, ls, HS.out, HL2.out⟩
              case rest =>
                obtain ⟨nx2, ls2, hmc, hlay⟩ := hcut
                clear HS HL HD HOK HPF HSN HRW
                have HS := hid hmc
                have HL := hid hlay
                clear hmc hlay
                go_wp2_with fail
                go_roundw
                case rel => exact ⟨k + 1, nx2, ls2, by omega, rfl, HS.out, HL.out⟩
                case measure => simp [intOf]; omega
            · have : k = R.n0 := by omega
              have t3 : ¬ (k : Int) < (R.n0 : Int) := by omega
              have HE := hid (show Lay all all R.n1 nx ls from by have := HL.out; rw [show k = R.rows.length by omega, doneE_all, hae] at this; exact this)
              go_wp2_with fail
              go_meet
              case rel => exact ⟨nx, ls, HS.out, HE.out⟩
        case rest =>
          obtain ⟨nx, ls, hmc, hlay⟩ := hcut
          have hcol : ColAt wc lx sx lb sb R.n1 tot d ls (colE (ents 0 R.rows)) := by
            rw [hae]
            refine ⟨hmc.vl, hmc.m1.vs, hmc.m1.rs, hmc.rl, hdl, fun c hc => ?_, fun c hc j q hj => ?_⟩
            · rw [HC.out.low (c + 1) (by omega), HC.out.low c (by omega), HT.out]
              exact ⟨rfl, sumC_mono all (by omega)⟩
            · rw [HC.out.low c (by omega)]
              exact hlay.seg c hc j q hj
          refine via (P := Yba.prog) (by assumption) ?_
          exact mcD H.out hmc.m1.bel hcol (by omega) hpos hn12 hnb
end Go.Proofs.Ybulkatiq
