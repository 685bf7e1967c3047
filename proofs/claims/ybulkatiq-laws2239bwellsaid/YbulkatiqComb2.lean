/-
  combine: the rows that it joins.
-/
import Derived.Test.YbulkatiqExc
import Derived.Test.YbulkatiqCombS
import Derived.Test.YbulkatiqRow6
namespace Go.Proofs.Ybulkatiq
open Go.ChangeShapes Go.WideShapes Go.ChangeAt Go.RowKit Go.Maps Go.WideMaps

section
variable {w W W' : World} {c : CP} {made : Nat} {marks : List Nat} {v4 : Value} {Ra Rb : Rel}

theorem CJ.below (h : CJ w W c made marks v4 Ra Rb) (hb : Below W.heap.size W W') : CJ w W' c made marks v4 Ra Rb :=
  ⟨h.bel.trans (hb.mono h.bel.size), (hb.block _ (lt_of_block h.jbk)).trans h.jbk, (hb.block _ (lt_of_block h.cbk)).trans h.cbk, h.mrk.below hb, h.mlen, h.mle, h.s0.below hb, h.s1.below hb, h.o0.below hb, h.o1.below hb, h.far⟩

theorem Fr2.toBelow {jb mb B : Nat} (hf : Fr2 jb mb W W') (hb : Below B w W) (hw : B ≤ w.heap.size) (h1 : B ≤ jb) (h2 : B ≤ mb) : Below B w W' :=
  ⟨hf.os.trans hb.os, hf.tape.trans hb.tape, hf.output.trans hb.output, Nat.le_trans hb.size hf.size, fun b hl => (hf.block b (by have := hb.size; omega) (by omega) (by omega)).trans (hb.block b hl)⟩

theorem Fr2.trans {jb mb : Nat} {A B C : World} (h1 : Fr2 jb mb A B) (h2 : Fr2 jb mb B C) : Fr2 jb mb A C :=
  ⟨h2.os.trans h1.os, h2.tape.trans h1.tape, h2.output.trans h1.output, Nat.le_trans h1.size h2.size, fun b hl e1 e2 => (h2.block b (by have := h1.size; omega) e1 e2).trans (h1.block b hl e1 e2)⟩

/-- A row has been joined. -/
theorem CJ.fr2 {marks' : List Nat} (h : CJ w W c made marks v4 Ra Rb) (hf : Fr2 c.jb c.mb W W') (hj : W'.heap[c.jb]? = some (.cells ((c.jc Ra Rb made).setIfInBounds 7 (.int .i32 ((made + 1 : Nat) : Int))) 72 (0, 0))) (hm : RowI W' c.mb marks') (hl : marks'.length = c.fr.length) (hle : ∀ l, marks'.getD l 0 ≤ made + 1) : CJ w W' c (made + 1) marks' v4 Ra Rb := by
  obtain ⟨cur, hm1, _⟩ := h.mrk.blk
  have k := KM.fr2 hf h.jbk hm1
  obtain ⟨f1, f2, f3, f4, f5⟩ := h.far
  exact ⟨hf.toBelow h.bel (Nat.le_refl _) f1 f3, hj, (hf.block _ (lt_of_block h.cbk) (ne_cc h.cbk h.jbk (by decide)) (ne_cc h.cbk hm1 (by decide))).trans h.cbk, hm, hl, hle, h.s0.km k, h.s1.km k, h.o0.fr2 hf h.jbk hm1 f4, h.o1.fr2 hf h.jbk hm1 f5, h.far⟩

/-- A block of another kind is turned. -/
theorem CJ.turn {q : Nat} {cs : Array Value} (h : CJ w W c made marks v4 Ra Rb) (hg : W.grownBy W' (some q)) (hq : W.heap[q]? = some (.cells cs 57 (0, 0))) (hw : w.heap.size ≤ q) : CJ w W' c made marks v4 Ra Rb := by
  obtain ⟨cur, hm1, _⟩ := h.mrk.blk
  have k := KM.grown hg hq (by decide) (by decide)
  have ne : ∀ (b : Nat) (cs' : Array Value) (t : TypeId), W.heap[b]? = some (.cells cs' t (0, 0)) → t ≠ 57 → W'.heap[b]? = some (.cells cs' t (0, 0)) := fun b cs' t hb ht => (hg.block b (lt_of_block hb) (fun e => ne_cc hb hq ht (Option.some.inj e))).trans hb
  exact ⟨h.bel.grown hg h.bel.size (fun b e => by have := Option.some.inj e; omega), ne _ _ _ h.jbk (by decide), ne _ _ _ h.cbk (by decide), h.mrk.other hg (ne_cc hm1 hq (by decide)), h.mlen, h.mle, h.s0.km k, h.s1.km k, h.o0.grown hg hq (by decide) (by decide), h.o1.grown hg hq (by decide) (by decide), h.far⟩

/-- The rows' slice is laid down. -/
theorem CJ.setRows {v : Value} (h : CJ w W c made marks v4 Ra Rb) : CJ w (W.setCell ⟨c.cb, 4, none⟩ v) c made marks v Ra Rb := by
  obtain ⟨cur, hm1, _⟩ := h.mrk.blk
  have hg : W.grownBy (W.setCell ⟨c.cb, 4, none⟩ v) (some c.cb) := grown_setCell (World.grownBy.refl _ _)
  have k := KM.grown hg h.cbk (by decide) (by decide)
  have f := h.far
  exact ⟨h.bel.grown hg h.bel.size (fun b e => by have := Option.some.inj e; omega), (hg.block _ (lt_of_block h.jbk) (fun e => ne_cc h.jbk h.cbk (by decide) (Option.some.inj e))).trans h.jbk, heap_setCell_same W c.cb 4 _ 50 v h.cbk, h.mrk.other hg (ne_cc hm1 h.cbk (by decide)), h.mlen, h.mle, h.s0.km k, h.s1.km k, h.o0.grown hg h.cbk (by decide) (by decide), h.o1.grown hg h.cbk (by decide) (by decide), h.far⟩

/-- .. and so a row may be joined. -/
theorem CJ.jin {ra rb : Nat × List (Nat × Nat)} {va vb : Value} {opf : Nat → Nat → Nat} (h : CJ w W c made marks v4 Ra Rb) (hmd : made ≤ 1000) (hda : DiffAt w va ra.2) (hdb : DiffAt w vb rb.2) (hop : OpOk c.g opf) (heg : ∀ args w, (callFunc c.g args).run Yba.prog w = .ok (.enter c.g args) w) (hcomm : ∀ u v, u < 4 → v < 4 → opf u v = opf v u)
    (hoa : RowOk Ra.n1 ra.1 ra.2) (hob : RowOk Rb.n1 rb.1 rb.2) (hna : Ra.n1 ≤ 4) (hnb : Rb.n1 ≤ 4) (hca : Ra.n1 = 1 → ra.2 = []) (hcb : Rb.n1 = 1 → rb.2 = []) :
    JIn W c.jb c.mb c.fr.length c.mc made c.g ra.1 rb.1 Ra.n1 Rb.n1 (c.jc Ra Rb made) marks c.fromv c.atv (.slice (some ⟨c.ob0, 0, none⟩) Ra.n1 Ra.n1) (.slice (some ⟨c.ob1, 0, none⟩) Rb.n1 Rb.n1) va vb c.fr (ofTo (·.1) c.fr c.fr.length) (ofTo (·.2) c.fr c.fr.length) c.U0 c.U1 ra.2 rb.2 opf := by
  obtain ⟨cur, hm1, _⟩ := h.mrk.blk
  obtain ⟨f1, f2, f3, f4, f5⟩ := h.far
  exact ⟨h.jbk, rfl, rfl, rfl, rfl, rfl, rfl, rfl, rfl, rfl, h.mrk, h.mlen, h.mle, hmd,
    fun W' hf => ⟨h.s1.prs.km (KM.fr2 hf h.jbk hm1), h.s1.atm.km (KM.fr2 hf h.jbk hm1), (h.o0.fr2 hf h.jbk hm1 f4).ofAt, (h.o1.fr2 hf h.jbk hm1 f5).ofAt, hda.below (hf.toBelow h.bel (Nat.le_refl _) f1 f3), hdb.below (hf.toBelow h.bel (Nat.le_refl _) f1 f3)⟩,
    rjs_of h.s1.each h.s1.le, hop, heg, hcomm, hoa, hob, by omega, by omega, by have := h.s1.le; omega, hca, hcb⟩

theorem RowsAt.fr2 {jb mb rb n1 : Nat} {rows : List (Nat × List (Nat × Nat))} {cs cs' cs2 : Array Value} (h : RowsAt W rb 0 n1 rows) (hf : Fr2 jb mb W W') (hj : W.heap[jb]? = some (.cells cs 72 (0, 0))) (hm : W.heap[mb]? = some (.cells cs' 21 (0, 0))) (hr : W.heap[rb]? = some (.cells cs2 57 (0, 0))) : RowsAt W' rb 0 n1 rows ∧ W'.heap[rb]? = some (.cells cs2 57 (0, 0)) := by
  have hr' := (hf.block _ (lt_of_block hr) (ne_cc hr hj (by decide)) (ne_cc hr hm (by decide))).trans hr
  exact ⟨h.km (KM.fr2 hf hj hm) hr hr', hr'⟩

/-- The relation, its exceptions aside. -/
def CP.rel (c : CP) (rb : Nat) (rows : List (Nat × List (Nat × Nat))) : Rel := ⟨c.mv0, c.frR.length, c.mv1, c.fr.length, rb, 0, c.frR.length, .map none, c.jr, c.js, fun _ _ => none, rows, 0, 8⟩

theorem CJ.relOn {rb : Nat} {rows : List (Nat × List (Nat × Nat))} {cur : Array Value} (h : CJ w W c made marks (.slice (some ⟨rb, 0, none⟩) c.frR.length c.frR.length) Ra Rb) (hr : W.heap[rb]? = some (.cells cur 57 (0, 0))) (hs : cur.size = c.frR.length * 2) (hrows : RowsAt W rb 0 c.fr.length rows) (hl : rows.length = c.frR.length) : RelOn W c.cb (c.rel rb rows) := by
  have hc : ∀ j, W.cell? ⟨c.cb, j, none⟩ = (c.rel rb rows).cells[j]? := fun j => by
    simp only [World.cell?, h.cbk]
    rfl
  have hle := h.s0.le
  have hle1 := h.s1.le
  exact ⟨⟨hc 0, hc 1, hc 2, hc 3, hc 4, hc 5, h.s0.cls, h.s1.cls, .inl ⟨rfl, fun _ _ => rfl⟩, hl, ⟨by show c.frR.length ≤ 16; omega, by show c.fr.length ≤ 16; omega⟩, hrows⟩, h.cbk, rfl, ⟨cur, hr, hs⟩⟩
end

/-! ### what the rows say -/
def opB (both : Bool) (u v : Nat) : Nat := if both then u &&& v else u ||| v

theorem opB_ok (both : Bool) : OpOk (if both then 22 else 23) (opB both) := fun u v W hu hv => by
  cases both
  · exact ⟨by
      have := Nat.or_lt_two_pow (n := 2) hu hv
      exact this, or23 hu hv W⟩
  · exact ⟨Nat.lt_of_le_of_lt Nat.and_le_left hu, and22 hu hv W⟩
theorem opB_comm (both : Bool) (u v : Nat) : opB both u v = opB both v u := by
  cases both
  · exact Nat.or_comm u v
  · exact Nat.and_comm u v

theorem bit_all : ((List.range 4).all fun u => (List.range 4).all fun v => [false, true].all fun both => [false, true].all fun s => bitOf (opB both u v) s == bop both (bitOf u s) (bitOf v s)) = true := by kernel_rfl
theorem bit_op {both s : Bool} {u v : Nat} (hu : u < 4) (hv : v < 4) : bitOf (opB both u v) s = bop both (bitOf u s) (bitOf v s) := by
  have h := bit_all
  rw [List.all_eq_true] at h
  have h1 := h u (List.mem_range.2 hu)
  rw [List.all_eq_true] at h1
  have h2 := h1 v (List.mem_range.2 hv)
  rw [List.all_eq_true] at h2
  have h3 := h2 both (by cases both <;> simp)
  rw [List.all_eq_true] at h3
  have h4 := h3 s (by cases s <;> simp)
  simpa using h4

/-- What the first k rows say. -/
def Said (Ra Rb : Rel) (both : Bool) (frR fr : List (Nat × Nat)) (rows : List (Nat × List (Nat × Nat))) (k : Nat) : Prop := ∀ (i : Nat) (p : Nat × Nat) (r ra rb : Nat × List (Nat × Nat)), i < k → frR[i]? = some p → rows[i]? = some r → Ra.rows[p.1]? = some ra → Rb.rows[p.2]? = some rb → ∀ x, x < fr.length → atL r.1 r.2 x = cellJ (opB both) fr ra.1 rb.1 ra.2 rb.2 x

theorem Said.snoc {Ra Rb : Rel} {both : Bool} {frR fr : List (Nat × Nat)} {rows : List (Nat × List (Nat × Nat))} {k : Nat} (h : Said Ra Rb both frR fr rows k) {p : Nat × Nat} {ra rb r' : Nat × List (Nat × Nat)} (hp : frR[k]? = some p) (ha : Ra.rows[p.1]? = some ra) (hb : Rb.rows[p.2]? = some rb) (hr : ∀ x, x < fr.length → atL r'.1 r'.2 x = cellJ (opB both) fr ra.1 rb.1 ra.2 rb.2 x) : Said Ra Rb both frR fr (rows.set k r') (k + 1) := by
  intro i p' r ra' rb' hi hp' hr' ha' hb' x hx
  by_cases e : i = k
  · subst e
    rw [hp] at hp'
    cases hp'
    rw [ha] at ha'
    cases ha'
    rw [hb] at hb'
    cases hb'
    have hl := (List.getElem?_eq_some_iff.1 hr').1
    rw [List.length_set] at hl
    rw [List.getElem?_set_self hl] at hr'
    cases hr'
    exact hr x hx
  · rw [List.getElem?_set_ne (fun e' => e e'.symm)] at hr'
    exact h i p' r ra' rb' (by omega) hp' hr' ha' hb' x hx

theorem said_byC {w W : World} {c : CP} {made rb pa pb : Nat} {marks : List Nat} {v4 : Value} {Ra Rb : Rel} {both : Bool} {rows : List (Nat × List (Nat × Nat))} (h : CJ w W c made marks v4 Ra Rb) (ha : RelAt w pa Ra) (hb : RelAt w pb Rb) (hl : rows.length = c.frR.length) (hs : Said Ra Rb both c.frR c.fr rows c.frR.length) (x y : ByteArray) : (c.rel rb rows).byC x y = bop both (Ra.byC x y) (Rb.byC x y) := by
  have h1 := h.s0.at_ x
  have h2 := h.s1.at_ y
  have hi := h.s0.cls.lt x
  have hj := h.s1.cls.lt y
  obtain ⟨ra, hra⟩ : ∃ ra, Ra.rows[Ra.of0 x]? = some ra := ⟨Ra.rows[Ra.of0 x]'(by have := ha.s0.lt x; have := ha.len; omega), by simp⟩
  obtain ⟨rb', hrb⟩ : ∃ rb, Rb.rows[Rb.of0 x]? = some rb := ⟨Rb.rows[Rb.of0 x]'(by have := hb.s0.lt x; have := hb.len; omega), by simp⟩
  obtain ⟨r, hr⟩ : ∃ r, rows[c.jr x]? = some r := ⟨rows[c.jr x]'(by omega), by simp⟩
  have e := hs (c.jr x) (Ra.of0 x, Rb.of0 x) r ra rb' hi h1 hr hra hrb (c.js y) hj
  obtain ⟨oka, _⟩ := ha.rows _ _ hra
  obtain ⟨okb, _⟩ := hb.rows _ _ hrb
  unfold Rel.byC
  have e1 : (c.rel rb rows).cellAt x y = atL r.1 r.2 (c.js y) := by unfold Rel.cellAt; show (match rows[c.jr x]? with | some r => _ | none => _) = _; rw [hr]; rfl
  have e2 : Ra.cellAt x y = atL ra.1 ra.2 (Ra.of1 y) := by unfold Rel.cellAt; rw [hra]
  have e3 : Rb.cellAt x y = atL rb'.1 rb'.2 (Rb.of1 y) := by unfold Rel.cellAt; rw [hrb]
  have e4 : cellJ (opB both) c.fr ra.1 rb'.1 ra.2 rb'.2 (c.js y) = opB both (atL ra.1 ra.2 (Ra.of1 y)) (atL rb'.1 rb'.2 (Rb.of1 y)) := by
    unfold cellJ
    rw [(getD_iff.1 h2).2]
  rw [e1, e2, e3, e, e4]
  exact bit_op (atL_lt oka _) (atL_lt okb _)
end Go.Proofs.Ybulkatiq
