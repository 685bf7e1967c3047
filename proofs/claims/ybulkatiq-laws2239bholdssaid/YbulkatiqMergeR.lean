/-
  mergeRows.
-/
import Derived.Test.YbulkatiqRenum
import Derived.Test.YbulkatiqNumFact
import Derived.Test.YbulkatiqSmall
import Derived.Shelf.Abstract
set_option linter.unusedVariables false
set_option linter.unusedSimpArgs false
namespace Go.Proofs.Ybulkatiq
open Go.ChangeShapes Go.WideShapes Go.ChangeAt Go.RowKit Go.Maps Go.WideMaps

theorem cell_kept {w w' : World} {b o p : Nat} {v : Value} (hg : w.grownBy w' (some p)) (h : w.cell? ⟨b, o, none⟩ = some v) (hne : b ≠ p) : w'.cell? ⟨b, o, none⟩ = some v := by
  rw [← h]
  unfold World.cell?
  rw [hg.block _ (block_lt_of_cell h) (fun e => hne (Option.some.inj e))]

def Rel.cells (R : Rel) : Array Value := #[R.m0, .int .i32 (R.n0 : Nat), R.m1, .int .i32 (R.n1 : Nat), .slice (some ⟨R.rb, R.ro, none⟩) R.n0 R.rc, R.ex]

/-- The relation R lies at block p, and its blocks may be written. -/
structure RelOn (w : World) (p : Nat) (R : Rel) : Prop where
  at_ : RelAt w p R
  blk : w.heap[p]? = some (.cells R.cells 50 (0, 0))
  ro : R.ro = 0
  row : ∃ cur, w.heap[R.rb]? = some (.cells cur 57 (0, 0)) ∧ cur.size = R.n0 * 2

theorem RelOn.below {w w' : World} {p : Nat} {R : Rel} (h : RelOn w p R) (hb : Below w.heap.size w w') : RelOn w' p R :=
  ⟨h.at_.below hb, (hb.block _ (lt_of_block h.blk)).trans h.blk, h.ro, by obtain ⟨cur, h1, h2⟩ := h.row; exact ⟨cur, (hb.block _ (lt_of_block h1)).trans h1, h2⟩⟩
theorem RelOn.fz {w : World} {p : Nat} {R : Rel} (h : RelOn w p R) (j : Nat) : w.frozen? ⟨p, j, none⟩ = false := by simp [World.frozen?, h.blk]
theorem RelOn.rfz {w : World} {p : Nat} {R : Rel} (h : RelOn w p R) (j : Nat) : w.frozen? ⟨R.rb, j, none⟩ = false := by
  obtain ⟨cur, h1, _⟩ := h.row
  simp [World.frozen?, h1]

/-- A row is written over. -/
theorem RowsAt.put {w : World} {rb n1 i c : Nat} {rows : List (Nat × List (Nat × Nat))} {l : List (Nat × Nat)} {v : Value} {cur : Array Value} (h : RowsAt w rb 0 n1 rows) (h1 : w.heap[rb]? = some (.cells cur 57 (0, 0))) (hs : cur.size = rows.length * 2) (hi : i < rows.length) (hro : RowOk n1 c l) (hdf : DiffAt w v l) :
    RowsAt ((w.setCell ⟨rb, i * 2, none⟩ (.int .u8 (c : Nat))).setCell ⟨rb, i * 2 + 1, none⟩ v) rb 0 n1 (rows.set i (c, l)) := by
  have hg : w.grownBy ((w.setCell ⟨rb, i * 2, none⟩ (.int .u8 (c : Nat))).setCell ⟨rb, i * 2 + 1, none⟩ v) (some rb) := grown_setCell (grown_setCell (World.grownBy.refl w _))
  have g1 := heap_setCell_same w rb (i * 2) _ 57 (.int .u8 (c : Nat)) h1
  have g2 := heap_setCell_same _ rb (i * 2 + 1) _ 57 v g1
  generalize ((w.setCell ⟨rb, i * 2, none⟩ (.int .u8 (c : Nat))).setCell ⟨rb, i * 2 + 1, none⟩ v) = W at *
  have hcell : ∀ j, W.cell? ⟨rb, j, none⟩ = ((cur.setIfInBounds (i * 2) (.int .u8 (c : Nat))).setIfInBounds (i * 2 + 1) v)[j]? := fun j => by simp [World.cell?, g2]
  have hold : ∀ j, w.cell? ⟨rb, j, none⟩ = cur[j]? := fun j => by simp [World.cell?, h1]
  intro k r hr
  by_cases e : k = i
  · subst e
    rw [List.getElem?_set_self hi] at hr
    simp only [Option.some.injEq] at hr
    subst hr
    refine ⟨hro, ?_, v, ?_, hdf.kept hg h1 (by decide)⟩
    · rw [hcell, Nat.zero_add, Array.getElem?_setIfInBounds_ne (by omega), Array.getElem?_setIfInBounds_self_of_lt (by omega)]
    · rw [hcell, Nat.zero_add, Array.getElem?_setIfInBounds_self_of_lt (by simp; omega)]
  · rw [List.getElem?_set_ne (fun e' => e e'.symm)] at hr
    obtain ⟨e1, e2, u, e3, e4⟩ := h k r hr
    refine ⟨e1, ?_, u, ?_, e4.kept hg h1 (by decide)⟩
    · rw [hcell, Array.getElem?_setIfInBounds_ne (by omega), Array.getElem?_setIfInBounds_ne (by omega), ← hold]; exact e2
    · rw [hcell, Array.getElem?_setIfInBounds_ne (by omega), Array.getElem?_setIfInBounds_ne (by omega), ← hold]; exact e3

/-- A new row of rows. -/
theorem made_rows {w : World} {base g n n1 : Nat} (h : w.ownsRow base 57 2 (.slice (some ⟨g, 0, none⟩) n n) n (madeCells #[.int .u8 0, .slice none 0 0] (n * 2)).toList) : RowsAt w g 0 n1 (List.replicate n (0, [])) ∧ ∃ cur, w.heap[g]? = some (.cells cur 57 (0, 0)) ∧ cur.size = n * 2 := by
  have hc := fun j hj => h.cellAt j hj
  rcases h.2 with ⟨e, _⟩ | ⟨g', cap, cur, e, _, hgg, _, _, hcs, _⟩
  · cases e
  · simp only [Value.slice.injEq, Option.some.injEq, Addr.mk.injEq, true_and, and_true] at e
    obtain ⟨rfl, rfl⟩ := e
    refine ⟨fun k r hr => ?_, cur, hgg, hcs⟩
    rw [List.getElem?_replicate] at hr
    split at hr
    · rename_i hk
      simp only [Option.some.injEq] at hr
      subst hr
      refine ⟨⟨by omega, fun i j p q _ hp => by simp at hp, fun i p hp => by simp at hp⟩, ?_, .slice none 0 0, ?_, ⟨none, 0, rfl, Nat.le_refl _, .inl rfl⟩⟩
      · rw [Nat.zero_add, hc (k * 2) (by omega)]
        simp [madeCells, show k * 2 < n * 2 by omega]
      · rw [Nat.zero_add, hc (k * 2 + 1) (by omega)]
        simp [madeCells, show k * 2 + 1 < n * 2 by omega, Nat.add_mod]
    · cases hr

/-- The rows that are kept, k of them laid. -/
def keptTo (rows : List (Nat × List (Nat × Nat))) (num : List Nat) (m : Nat) : Nat → List (Nat × List (Nat × Nat))
  | 0 => List.replicate m (0, [])
  | k + 1 => (keptTo rows num m k).set (num.getD k 0) (rows.getD k (0, []))

theorem keptTo_len (rows : List (Nat × List (Nat × Nat))) (num : List Nat) (m k : Nat) : (keptTo rows num m k).length = m := by
  induction k with
  | zero => simp [keptTo]
  | succ k ih => simp [keptTo, ih]

/-- How mergeRows numbers the rows. -/
def Rel.rowNum (R : Rel) : List Nat × Nat := numberOf (fun k l => cmpRow (R.rows.getD k (0, [])) (R.rows.getD l (0, []))) R.n0

def Rel.merged (R : Rel) (v : Value) (kb : Nat) : Rel := { R with m0 := v, n0 := R.rowNum.2, rb := kb, ro := 0, rc := R.rowNum.2, of0 := fun s => R.rowNum.1.getD (R.of0 s) 0, rows := keptTo R.rows R.rowNum.1 R.rowNum.2 R.n0 }

def MRPost (w : World) (p : Nat) (R : Rel) (e : Ending) (w' : World) : Prop :=
  e = .returned (.tuple #[]) ∧ ∃ R', (R' = R ∨ ∃ v kb, w.heap.size ≤ kb ∧ R' = R.merged v kb) ∧ RelOn w' p R' ∧ ∀ B, B ≤ p → B ≤ w.heap.size → Below B w w'

/-- What the loop of mergeRows keeps. -/
structure KR (w wr : World) (p nb kb : Nat) (R : Rel) (num : List Nat) (m : Nat) (kept : List (Nat × List (Nat × Nat))) : Prop where
  bel : Below w.heap.size w wr
  box : wr.cell? ⟨w.heap.size, 0, none⟩ = some (.pointer (some ⟨p, 0, none⟩))
  row : RowD wr nb R.n0 num
  blk : ∃ cur, wr.heap[kb]? = some (.cells cur 57 (0, 0)) ∧ cur.size = m * 2
  len : kept.length = m
  rows : RowsAt wr kb 0 R.n1 kept
  far : w.heap.size < kb ∧ kb ≠ nb

theorem KR.below {w wr wx : World} {p nb kb m : Nat} {R : Rel} {num : List Nat} {kept : List (Nat × List (Nat × Nat))} (h : KR w wr p nb kb R num m kept) (hb : Below wr.heap.size wr wx) : KR w wx p nb kb R num m kept :=
  ⟨h.bel.trans (below_le hb h.bel.size), (hb.cell (block_lt_of_cell h.box)).trans h.box, h.row.below hb, by obtain ⟨cur, h1, h2⟩ := h.blk; exact ⟨cur, (hb.block _ (lt_of_block h1)).trans h1, h2⟩, h.len, h.rows.below hb, h.far⟩

theorem KR.put {w wr : World} {p nb kb m : Nat} {R : Rel} {num : List Nat} {kept : List (Nat × List (Nat × Nat))} (h : KR w wr p nb kb R num m kept) {i c : Nat} {l : List (Nat × Nat)} {v : Value} (hi : i < m) (hro : RowOk R.n1 c l) (hdf : DiffAt wr v l) :
    KR w ((wr.setCell ⟨kb, i * 2, none⟩ (.int .u8 (c : Nat))).setCell ⟨kb, i * 2 + 1, none⟩ v) p nb kb R num m (kept.set i (c, l)) := by
  obtain ⟨cur, h1, h2⟩ := h.blk
  have hl := h.len
  have hf := h.far
  have hg : wr.grownBy ((wr.setCell ⟨kb, i * 2, none⟩ (.int .u8 (c : Nat))).setCell ⟨kb, i * 2 + 1, none⟩ v) (some kb) := grown_setCell (grown_setCell (World.grownBy.refl wr _))
  have hr := h.rows.put h1 (by omega) (i := i) (by omega) hro hdf
  have g1 := heap_setCell_same wr kb (i * 2) _ 57 (.int .u8 (c : Nat)) h1
  have g2 := heap_setCell_same _ kb (i * 2 + 1) _ 57 v g1
  exact ⟨h.bel.grown hg h.bel.size (fun k hk => by simp only [Option.some.injEq] at hk; omega), cell_kept hg h.box (by omega), h.row.other hg (by omega), ⟨_, g2, by simp [h2]⟩, by simp [hl], hr, hf⟩
theorem ClsB.isMap {B n : Nat} {w : World} {v : Value} {of : ByteArray → Nat} (h : ClsB B w v n of) : ∃ o, v = .map o := by
  rcases h.shape with ⟨rfl, _⟩ | ⟨b, _, _, rfl, _⟩
  · exact ⟨_, rfl⟩
  · exact ⟨_, rfl⟩

theorem KR.slot {w wr : World} {p nb kb m : Nat} {R : Rel} {num : List Nat} {kept : List (Nat × List (Nat × Nat))} (h : KR w wr p nb kb R num m kept) {i : Nat} (hi : i < m) :
    (∃ x, wr.cell? ⟨kb, i * 2, none⟩ = some x) ∧ (∃ x, wr.cell? ⟨kb, i * 2 + 1, none⟩ = some x) ∧ wr.frozen? ⟨kb, i * 2, none⟩ = false ∧ wr.frozen? ⟨kb, i * 2 + 1, none⟩ = false := by
  obtain ⟨cur, h1, h2⟩ := h.blk
  refine ⟨⟨cur[i * 2]'(by omega), ?_⟩, ⟨cur[i * 2 + 1]'(by omega), ?_⟩, ?_, ?_⟩
  · simp [World.cell?, h1, show i * 2 < cur.size by omega]
  · simp [World.cell?, h1, show i * 2 + 1 < cur.size by omega]
  · simp [World.frozen?, h1]
  · simp [World.frozen?, h1]

theorem KR.start {w w2 w3 : World} {p nb base : Nat} {R : Rel} {num : List Nat} {m : Nat} (hb : Below w.heap.size w w2) (hbox : w2.cell? ⟨w.heap.size, 0, none⟩ = some (.pointer (some ⟨p, 0, none⟩))) (hrow : RowD w2 nb R.n0 num) (hg : w2.grownBy w3 none)
    (ho : w3.ownsRow base 57 2 (.slice (some ⟨w2.heap.size, 0, none⟩) m m) m (madeCells #[.int .u8 0, .slice none 0 0] (m * 2)).toList) : KR w w3 p nb w2.heap.size R num m (List.replicate m (0, [])) := by
  have hb3 : Below w2.heap.size w2 w3 := (Below.refl _ _).grown hg (Nat.le_refl _) (fun k hk => by cases hk)
  obtain ⟨h1, h2⟩ := made_rows (n1 := R.n1) ho
  have hl := hrow.lt
  have hbx := block_lt_of_cell hbox
  exact ⟨hb.trans (below_le hb3 hb.size), (hb3.cell hbx).trans hbox, hrow.below hb3, h2, by simp, h1, ⟨hbx, by omega⟩⟩

/-- The relation's block is turned: three cells. -/
theorem RelOn.turn {w w' : World} {p nb kb : Nat} {R : Rel} {v : Value} (h : RelOn w' p R) (hk : KR w w' p nb kb R R.rowNum.1 R.rowNum.2 (keptTo R.rows R.rowNum.1 R.rowNum.2 R.n0)) (hle : R.rowNum.2 ≤ R.n0) (hc : ClsB R.nb w' v R.rowNum.2 (fun s => R.rowNum.1.getD (R.of0 s) 0)) (hne : kb ≠ p) :
    RelOn (((w'.setCell ⟨p, 0, none⟩ v).setCell ⟨p, 1, none⟩ (.int .i32 (R.rowNum.2 : Nat))).setCell ⟨p, 4, none⟩ (.slice (some ⟨kb, 0, none⟩) R.rowNum.2 R.rowNum.2)) p (R.merged v kb) := by
  have hg : w'.grownBy (((w'.setCell ⟨p, 0, none⟩ v).setCell ⟨p, 1, none⟩ (.int .i32 (R.rowNum.2 : Nat))).setCell ⟨p, 4, none⟩ (.slice (some ⟨kb, 0, none⟩) R.rowNum.2 R.rowNum.2)) (some p) := grown_setCell (grown_setCell (grown_setCell (World.grownBy.refl w' _)))
  have g0 := heap_setCell_same w' p 0 _ 50 v h.blk
  have g1 := heap_setCell_same _ p 1 _ 50 (.int .i32 (R.rowNum.2 : Nat)) g0
  have g2 := heap_setCell_same _ p 4 _ 50 (.slice (some ⟨kb, 0, none⟩) R.rowNum.2 R.rowNum.2) g1
  have hb := h.blk
  generalize (((w'.setCell ⟨p, 0, none⟩ v).setCell ⟨p, 1, none⟩ (.int .i32 (R.rowNum.2 : Nat))).setCell ⟨p, 4, none⟩ (.slice (some ⟨kb, 0, none⟩) R.rowNum.2 R.rowNum.2)) = W at *
  have g3 : W.heap[p]? = some (.cells #[v, .int .i32 (R.rowNum.2 : Nat), R.m1, .int .i32 (R.n1 : Nat), .slice (some ⟨kb, 0, none⟩) R.rowNum.2 R.rowNum.2, R.ex] 50 (0, 0)) := g2
  obtain ⟨cur, k1, k2⟩ := hk.blk
  refine ⟨⟨?_, ?_, ?_, ?_, ?_, ?_, hc.grown hg hb, h.at_.s1.grown hg hb, ?_, keptTo_len _ _ _ _, ⟨by have := h.at_.small; show R.rowNum.2 ≤ 16; omega, h.at_.small.2⟩, ?_⟩, g3, rfl, ⟨cur, (hg.block _ (lt_of_block k1) (fun e => hne (Option.some.inj e))).trans k1, k2⟩⟩
  · unfold World.cell?; rw [g3]; rfl
  · unfold World.cell?; rw [g3]; rfl
  · unfold World.cell?; rw [g3]; rfl
  · unfold World.cell?; rw [g3]; rfl
  · unfold World.cell?; rw [g3]; rfl
  · unfold World.cell?; rw [g3]; rfl
  · rcases h.at_.se with h1 | ⟨b, N, D, h1, ho, hN, hd⟩
    · exact .inl h1
    · refine .inr ⟨b, N, D, h1, ho.kept hg (fun e => ?_), hN, hd⟩
      obtain ⟨es, clock, h1, _⟩ := ho
      simp only [Option.some.injEq] at e
      rw [e, hb] at h1
      cases h1
  · intro k r hr
    obtain ⟨e1, e2, u, e3, e4⟩ := hk.rows k r hr
    refine ⟨e1, ?_, u, ?_, e4.kept hg hb (by decide)⟩
    · exact cell_kept hg e2 hne
    · exact cell_kept hg e3 hne
set_option maxRecDepth 100000 in
set_option maxHeartbeats 1600000 in
theorem mergeRows26 {w : World} {p : Nat} {R : Rel} (h : RelOn w p R) (hpos : 0 < R.n0) (hnb : R.nb ≤ 4096) : Calls Yba.prog 26 #[.pointer (some ⟨p, 0, none⟩)] w (MRPost w p R) := by
  have eg : ∀ args w, (callFunc 35 args).run Yba.prog w = .ok (.enter 35 args) w := enters_of Yba.func35 (by kernel_rfl) rfl
  have hp := lt_of_block h.blk
  have hsm := h.at_.small
  have hb1 : Below w.heap.size w (w.alloc (.cells #[.pointer (some ⟨p, 0, none⟩)] 34)) := (Below.refl _ _).alloc (Nat.le_refl _) _
  have hbx : (w.alloc (.cells #[.pointer (some ⟨p, 0, none⟩)] 34)).cell? ⟨w.heap.size, 0, none⟩ = some (.pointer (some ⟨p, 0, none⟩)) := by
    unfold World.cell?
    rw [heap_new]
    rfl
  have h1 := h.below hb1
  have hro := h.ro
  have c4 := h1.at_.c4
  have HN := hid (number34 (cmpOk35 (n1 := R.n1) hbx c4 h1.at_.len h1.at_.rows (by omega) (by omega)) eg (by omega) hpos)
  have HF := hid (numberOf_facts (fun k l => cmpRow (R.rows.getD k (0, [])) (R.rows.getD l (0, []))) hpos)
  have H := hid h
  have H1 := hid h1
  have HB1 := hid hb1
  clear h h1 hb1
  go_enter Yba.func26, Yba.ntmps26
  go_upto_region 1 with fail
  generalize w.alloc (.cells #[.pointer (some ⟨p, 0, none⟩)] 34) = W1 at *
  go_wp2_with fail
  refine HN.out.mono ?_
  rintro e w2 ⟨nb, rfl, hrow, hnb1, hb2⟩
  have hb02 := HB1.out.trans (below_le hb2 HB1.out.size)
  have hbx2 := (hb2.cell (block_lt_of_cell hbx)).trans hbx
  have H2 := hid (H1.out.below hb2)
  have HROW := hid hrow
  have HB2 := hid hb02
  have c42 := H2.out.at_.c4
  have hne := hb02.size
  clear hb2 hrow hb02 HN hbx c4 H1 HB1
  generalize hrn : numberOf (fun k l => cmpRow (R.rows.getD k (0, [])) (R.rows.getD l (0, []))) R.n0 = rn at HF HROW ⊢
  have HRN := hid (show R.rowNum = rn from hrn)
  clear hrn
  obtain ⟨num, m⟩ := rn
  obtain ⟨hm1, hm2, hml, hm0, hlen⟩ := HF.out
  have HML := hid hml
  have HM0 := hid hm0
  simp only at hm1 hm2 HROW HML HM0 ⊢
  clear HF hml hm0 hlen
  cases g : ((m : Int) == (R.n0 : Int))
  · obtain ⟨i0, hi0, hz0, hz1, hz2⟩ := info_parts info57
    go_wp2_with (at_make; refine wpList_make_full _ rfl _ _ 47 rfl w.heap.size 57 i0 _ 2 Yba.underlying47 hi0 hz0 hz1 .i32 .i32 (m : Int) (m : Int) m rfl rfl rfl rfl ?b2 ?b3 ?b4 ?_)
    case b2 => rw [hz2]; omega
    case b3 => unfold maxLen; omega
    case b4 => exact hne
    intro w3 hrow hgr
    have HS := hid (KR.start HB2.out hbx2 HROW.out hgr hrow)
    have hpk : p ≠ w2.heap.size := by omega
    clear hrow hgr hbx2 HROW H2 HB2 c42 hi0 hz0 hz1 hz2
    generalize w2.heap.size = kb at *
    go_upto_block 0 with fail
    go_cut [29] from 15 to 44 (fun _ wx => KR w wx p nb kb R num m (keptTo R.rows num m R.n0))
    case first =>
      go_wp2_with fail
      go_loopw [29] (fun vi wr => ∃ i : Nat, i ≤ R.n0 ∧ vi = .int .i64 i ∧ KR w wr p nb kb R num m (keptTo R.rows num m i)) (fun vi _ => R.n0 - (intOf vi).toNat)
      case atStart => exact ⟨0, by omega, rfl, HS.out⟩
      case round =>
        obtain ⟨i, hi, rfl, hk⟩ := hrel
        clear HS
        have HS := hid hk
        clear hk
        rcases Nat.lt_or_ge i R.n0 with hlt | hge
        · have t1 : (i : Int) < (R.n0 : Int) := by omega
          have cx := HS.out.box
          have cn := (HS.out.row.at hlt).2
          have hnm := HML.out i
          have hrel := (H.out.below HS.out.bel).at_
          have c4 := hrel.c4
          have hri : R.rows[i]? = some (R.rows.getD i (0, [])) := by simp [List.getD, show i < R.rows.length by have := hrel.len; omega]
          obtain ⟨ok1, r0, vr, r1, d1⟩ := hrel.rows i _ hri
          have hst : keptTo R.rows num m (i + 1) = (keptTo R.rows num m i).set (num.getD i 0) (R.rows.getD i (0, [])) := rfl
          have HST := hid hst
          clear hri hrel hst
          generalize R.rows.getD i (0, []) = r at *
          obtain ⟨c, l⟩ := r
          have HP := hid (HS.out.put hnm ok1 d1)
          obtain ⟨a, cap, rfl⟩ := d1.shape
          clear d1 ok1
          obtain ⟨kx0, kx1, kf0, kf1⟩ := HS.out.slot hnm
          obtain ⟨y0, k0⟩ := kx0
          obtain ⟨y1, k1⟩ := kx1
          have t2 : ((num.getD i 0 : Nat) : Int) < (m : Int) := by omega
          simp only at r0 r1
          generalize num.getD i 0 = nv at *
          rw [hro] at c4
          rw [hro, Nat.zero_add] at r0 r1
          go_wp2_with fail
          go_roundw
          case rel => exact ⟨i + 1, by omega, rfl, by rw [HST.out]; exact HP.out⟩
          case measure => simp [intOf]; omega
        · have : i = R.n0 := by omega
          have t1 : ¬ (i : Int) < (R.n0 : Int) := by omega
          go_wp2_with fail
          go_meet
          case rel => rw [← this]; exact HS.out
    case rest =>
      clear HS
      have HS := hid hcut
      clear hcut
      have hk0 := HS.out.bel.size
      have HR := hid (H.out.below HS.out.bel)
      have cx := HS.out.box
      have c0 := HR.out.at_.c0
      have c1 := HR.out.at_.c1
      have HC := hid (fun W (hb : Below wc.heap.size wc W) => renum39 (HR.out.at_.s0.below hb) (HS.out.row.below hb) (fun k _ => HML.out k) HM0.out hm2 hsm.1 hnb)
      have KQ := hid (fun W (hb : Below wc.heap.size wc W) => (⟨(HR.out.below hb).at_.c0, (HR.out.below hb).at_.c1, (HR.out.below hb).at_.c4, fun j => (HR.out.below hb).fz j⟩ : W.cell? ⟨p, 0, none⟩ = some R.m0 ∧ W.cell? ⟨p, 1, none⟩ = some (.int .i32 (R.n0 : Nat)) ∧ W.cell? ⟨p, 4, none⟩ = some (.slice (some ⟨R.rb, R.ro, none⟩) R.n0 R.rc) ∧ ∀ j, W.frozen? ⟨p, j, none⟩ = false))
      have hb0 : Below wc.heap.size wc wc.drew := (Below.refl wc.heap.size wc).drew
      have hbp : w.heap.size ≠ p := by omega
      obtain ⟨k0, k1, _, _⟩ := KQ.out _ hb0
      clear c0 c1
      go_wp2_with fail
      refine wp_region_noPanic ?_
      refine wp_region_held_drew (S := fun W => W.cell? ⟨w.heap.size, 0, none⟩ = some (.pointer (some ⟨p, 0, none⟩))) (by kernel_rfl) cx (fun hHeld => ?_)
      refine wpAnyH_take (i := 0) (v := .pointer (some ⟨p, 0, none⟩)) rfl (by kernel_rfl) (by kernel_rfl) (by kernel_rfl) (fun _ _ _ h => h) (Or.inl ⟨by rfl, fun W hSw => by go_simp⟩) (by assumption) ?_
      simp only [Act.put, List.setIfInBounds_toArray, List.set_cons_zero, List.set_cons_succ]
      refine wpAnyH_take (i := 1) (v := .pointer (some ⟨p, 0, none⟩)) rfl (by kernel_rfl) (by kernel_rfl) (by kernel_rfl) (fun _ _ _ h => h) (Or.inl ⟨by rfl, fun W hSw => by go_simp⟩) (by assumption) ?_
      simp only [Act.put, List.setIfInBounds_toArray, List.set_cons_zero, List.set_cons_succ]
      refine wpAnyH_take (i := 2) (v := .pointer (some ⟨p, 0, none⟩)) rfl (by kernel_rfl) (by kernel_rfl) (by kernel_rfl) (fun _ _ _ h => h) (Or.inl ⟨by rfl, fun W hSw => by go_simp⟩) (by assumption) ?_
      simp only [Act.put, List.setIfInBounds_toArray, List.set_cons_zero, List.set_cons_succ]
      refine wpAnyH_take (i := 3) (v := .pointer (some ⟨p, 0, none⟩)) rfl (by kernel_rfl) (by kernel_rfl) (by kernel_rfl) (fun _ _ _ h => h) (Or.inl ⟨by rfl, fun W hSw => by go_simp⟩) (by assumption) ?_
      simp only [Act.put, List.setIfInBounds_toArray, List.set_cons_zero, List.set_cons_succ]
      refine wpAnyH_take (i := 4) (v := .pointer (some ⟨p, 0, none⟩)) rfl (by kernel_rfl) (by kernel_rfl) (by kernel_rfl) (fun _ _ _ h => h) (Or.inl ⟨by rfl, fun W hSw => by go_simp⟩) (by assumption) ?_
      simp only [Act.put, List.setIfInBounds_toArray, List.set_cons_zero, List.set_cons_succ]
      refine wpAnyH_take (i := 5) (v := .pointer (some ⟨p, 0, none⟩)) rfl (by kernel_rfl) (by kernel_rfl) (by kernel_rfl) (fun _ _ _ h => h) (Or.inl ⟨by rfl, fun W hSw => by go_simp⟩) (by assumption) ?_
      simp only [Act.put, List.setIfInBounds_toArray, List.set_cons_zero, List.set_cons_succ]
      refine wpAnyH_take (i := 7) (v := .slice (some ⟨nb, 0, none⟩) R.n0 R.n0) rfl (by kernel_rfl) (by kernel_rfl) (by kernel_rfl) (fun _ _ _ h => h) (Or.inl ⟨by rfl, fun W hSw => by go_simp⟩) (by assumption) ?_
      simp only [Act.put, List.setIfInBounds_toArray, List.set_cons_zero, List.set_cons_succ]
      refine wpAnyH_take (i := 8) (v := .int .i32 (m : Nat)) rfl (by kernel_rfl) (by kernel_rfl) (by kernel_rfl) (fun _ _ _ h => h) (Or.inl ⟨by rfl, fun W hSw => by go_simp⟩) (by assumption) ?_
      simp only [Act.put, List.setIfInBounds_toArray, List.set_cons_zero, List.set_cons_succ]
      refine wpAnyH_take (i := 10) (v := .slice (some ⟨kb, 0, none⟩) m m) rfl (by kernel_rfl) (by kernel_rfl) (by kernel_rfl) (fun _ _ _ h => h) (Or.inl ⟨by rfl, fun W hSw => by go_simp⟩) (by assumption) ?_
      simp only [Act.put, List.setIfInBounds_toArray, List.set_cons_zero, List.set_cons_succ]
      refine wpAnyH_take (i := 11) (v := .pointer (some ⟨p, 0, none⟩)) rfl (by kernel_rfl) (by kernel_rfl) (by kernel_rfl) (fun _ _ _ h => h) (Or.inl ⟨by rfl, fun W hSw => by go_simp⟩) (by assumption) ?_
      simp only [Act.put, List.setIfInBounds_toArray, List.set_cons_zero, List.set_cons_succ]
      refine wpAnyH_take (i := 12) (v := .pointer (some ⟨p, 0, none⟩)) rfl (by kernel_rfl) (by kernel_rfl) (by kernel_rfl) (fun _ _ _ h => h) (Or.inl ⟨by rfl, fun W hSw => by go_simp⟩) (by assumption) ?_
      simp only [Act.put, List.setIfInBounds_toArray, List.set_cons_zero, List.set_cons_succ]
      refine wpAnyH_ready (rs := [6]) (by kernel_rfl) (by simp) ?_
      refine AllReadyH.cons rfl (fun K hK => ?_) AllReadyH.nil
      go_simp
      refine hK.out _ _ ?_ (fun hHeld => ?_)
      · exact cx
      clear hK K
      try simp only [Act.put, List.setIfInBounds_toArray, List.set_cons_zero, List.set_cons_succ]
      refine wpAnyH_ready (rs := [9]) (by kernel_rfl) (by simp) ?_
      refine AllReadyH.cons rfl (fun K hK => ?_) AllReadyH.nil
      go_simp
      refine (HC.out _ hb0).mono ?_
      rintro e w' ⟨v, rfl, hcl, hb⟩
      have hbn : Below wc.heap.size wc w' := hb0.trans (below_le hb (Nat.le_refl _))
      obtain ⟨o, rfl⟩ := hcl.isMap
      obtain ⟨q0, q1, q4, qf⟩ := KQ.out w' hbn
      have qx := (hbn.cell (block_lt_of_cell cx)).trans cx
      go_wp2_with fail
      refine hK.out _ _ ?_ (fun hHeld => ?_)
      · exact qx
      clear hK K
      try simp only [Act.put, List.setIfInBounds_toArray, List.set_cons_zero, List.set_cons_succ]
      refine wpAnyH_take (i := 13) (v := .pointer (some ⟨p, 0, none⟩)) rfl (by kernel_rfl) (by kernel_rfl) (by kernel_rfl) (fun _ _ _ h => h) (Or.inl ⟨by rfl, fun W hSw => by go_simp⟩) (by assumption) ?_
      simp only [Act.put, List.setIfInBounds_toArray, List.set_cons_zero, List.set_cons_succ]
      refine wpAnyH_ready (rs := [14]) (by kernel_rfl) (by simp) ?_
      refine AllReadyH.cons rfl (fun K hK => ?_) AllReadyH.nil
      go_simp
      refine hK.out _ _ ?_ (fun hHeld => ?_)
      · exact cell_kept (grown_setCell (grown_setCell (World.grownBy.refl _ _))) qx hbp
      clear hK K
      try simp only [Act.put, List.setIfInBounds_toArray, List.set_cons_zero, List.set_cons_succ]
      refine wpAnyH_take (i := 15) (v := .pointer (some ⟨p, 0, none⟩)) rfl (by kernel_rfl) (by kernel_rfl) (by kernel_rfl) (fun _ _ _ h => h) (Or.inl ⟨by rfl, fun W hSw => by go_simp⟩) (by assumption) ?_
      simp only [Act.put, List.setIfInBounds_toArray, List.set_cons_zero, List.set_cons_succ]
      refine wpAnyH_take (i := 16) (v := .pointer (some ⟨p, 4, none⟩)) rfl (by kernel_rfl) (by kernel_rfl) (by kernel_rfl) (fun _ _ _ h => h) (Or.inl ⟨by rfl, fun W hSw => by go_simp⟩) (by assumption) ?_
      simp only [Act.put, List.setIfInBounds_toArray, List.set_cons_zero, List.set_cons_succ]
      refine wpAnyH_ready (rs := [17]) (by kernel_rfl) (by simp) ?_
      refine AllReadyH.cons rfl (fun K hK => ?_) AllReadyH.nil
      go_simp
      refine hK.out _ _ ?_ (fun hHeld => ?_)
      · exact cell_kept (grown_setCell (World.grownBy.refl _ _)) (by assumption) hbp
      clear hK K
      try simp only [Act.put, List.setIfInBounds_toArray, List.set_cons_zero, List.set_cons_succ]
      refine wpAnyH_done (by kernel_rfl) ?_ _
      refine NoPanic.normal ?_
      have e1 := HRN.out
      have hT := RelOn.turn (v := .map o) (kb := kb) (nb := nb) (w := w) (HR.out.below hbn) (by rw [e1]; exact HS.out.below hbn) (by rw [e1]; exact hm2) (by rw [e1]; exact hcl) (fun h => hpk h.symm)
      rw [e1] at hT
      go_end0
      refine ⟨rfl, _, .inr ⟨_, _, hne, rfl⟩, hT, fun B h1 h2 => ?_⟩
      have hB := (HS.out.bel.mono h2).trans (hbn.mono (by omega))
      exact hB.grown (grown_setCell (grown_setCell (grown_setCell (World.grownBy.refl _ _)))) (by have := hbn.size; omega) (fun k hk => by simp only [Option.some.injEq] at hk; omega)
  · go_wp2_with fail
    exact bodyPost_ret (results_none rfl _ _ _) rfl ⟨rfl, R, .inl rfl, H2.out, fun B h1 h2 => HB2.out.mono h2⟩
end Go.Proofs.Ybulkatiq
