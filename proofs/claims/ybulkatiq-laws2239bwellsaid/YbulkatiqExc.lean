/-
  combine: the exceptions.
-/
import Derived.Test.YbulkatiqComb1
set_option linter.unusedVariables false
set_option linter.unusedSimpArgs false
namespace Go.Proofs.Ybulkatiq
open Go.ChangeShapes Go.WideShapes Go.ChangeAt Go.RowKit Go.Maps Go.WideMaps


theorem key1 {d : Nat} {v : Value} {ls : List Lit} (h : Yba.prog.keyLits d 9 [v] = some ls) : ∃ x : ByteArray, v = .string x ∧ ls = [.string x.data.toList] ∧ x.size ≤ maxLen := by
  cases d with
  | zero => simp [Program.keyLits] at h
  | succ d =>
    unfold Program.keyLits at h
    cases v <;> simp [Yba.underlying9] at h
    exact ⟨_, rfl, h.2.symm, h.1⟩

set_option maxRecDepth 100000 in
theorem keyOf60_inv {key : Value} {kl : Lit} (h : keyOf Yba.prog 60 key = some kl) : ∃ x y : ByteArray, key = .agg #[.string x, .string y] ∧ kl = pk x y ∧ x.size ≤ maxLen ∧ y.size ≤ maxLen := by
  unfold keyOf at h
  simp only [Yba.underlying60] at h
  split at h
  · rename_i hc
    simp only [Bool.and_eq_true] at hc
    obtain ⟨_, hf⟩ := hc
    cases key <;> simp [Value.formed, Yba.underlying60] at hf
    rename_i cs
    rw [arr60.size] at hf
    obtain ⟨l⟩ := cs
    match l, hf with
    | [a, b], _ =>
      unfold Program.keyLits at h
      simp only [Yba.underlying60, Value.cells] at h
      rw [if_pos (by rw [arr60.size]; rfl), show List.range 2 = [0, 1] from rfl, List.mapM_cons, List.mapM_cons, List.mapM_nil] at h
      simp only [arr60.one, bind, Option.bind_eq_some_iff, pure, Option.map_eq_some_iff, Option.some.injEq] at h
      obtain ⟨ls, ⟨ys, ⟨l0, h0, l1, ⟨l2, h2, l3, rfl, rfl⟩, rfl⟩, rfl⟩, rfl⟩ := h
      obtain ⟨x, e1, rfl, hx⟩ := key1 (v := a) (by simpa using h0)
      obtain ⟨y, e2, rfl, hy⟩ := key1 (v := b) (by simpa using h2)
      subst e1 e2
      exact ⟨x, y, rfl, rfl, hx, hy⟩
  · cases h

theorem pk_inj {x y x' y' : ByteArray} (hx : x.size ≤ maxLen) (hy : y.size ≤ maxLen) (hx' : x'.size ≤ maxLen) (hy' : y'.size ≤ maxLen) (h : pk x y = pk x' y') : x = x' ∧ y = y' := by
  have h1 := key60 hx hy
  rw [h] at h1
  have := plaw.inj h1 (key60 hx' hy')
  simpa using this

theorem next_eb {w : World} {ops : Array Oper} {rest : List Oper} {o : Oper} {a : Act} {Q : Exit → Act → World → Prop} (hg : o.guard = none) (it : Operand) (hop : o.op = Op.next it false)
    (b r n : Nat) (D : DataW Unit) (left : Lit → Bool) (cnt : Nat) (hit : a.eval it = .pointer (some ⟨r, 0, none⟩)) (h : w.ranges Yba.prog 60 (plainElem (H := Unit) Yba.prog 4) b r n D left cnt)
    (hDone : cnt = 0 → (∀ kl, left kl = false) → wpList Yba.prog ops Q rest (a.put o.dst (.tuple #[.bool false])) w)
    (hMore : ∀ (x y : ByteArray) (c : Bool) (w' : World) (cnt' : Nat), x.size ≤ maxLen → y.size ≤ maxLen → left (pk x y) = true → Maps.has D (pk x y) = true → w'.ranges Yba.prog 60 (plainElem (H := Unit) Yba.prog 4) b r n D (fun z => left z && !z.sameKey (pk x y)) cnt' → cnt' < cnt →
      w.grownBy w' (some r) → w'.heap.size = w.heap.size → (Instr.entry (.pointer (some ⟨r, 0, none⟩))).run Yba.prog w' = .ok (.tuple #[.agg #[.string x, .string y], .bool c]) w' → wpList Yba.prog ops Q rest (a.put o.dst (.tuple #[.bool true, .agg #[.string x, .string y], .bool c])) w') :
    wpList Yba.prog ops Q (o :: rest) a w :=
  wpList_next_ranges w hg it hop 60 plaw (plainElem (H := Unit) Yba.prog 4) (fun p : ByteArray × ByteArray => Value.agg #[.string p.1, .string p.2]) Value.bool (fun key kl hkey => by obtain ⟨x, y, rfl, _⟩ := keyOf60_inv hkey; exact ⟨(x, y), rfl⟩) (fun v y hv => by obtain ⟨c, rfl, _⟩ := plainElem_bool_inv Yba.underlying4 hv; exact ⟨c, rfl⟩)
    b r n D left cnt hit h hDone (fun p c kl y w' cnt' hkey hlk hv hat hrg hlt hgr hsz hen => by
      obtain ⟨x', y', ex, rfl, hx, hy⟩ := keyOf60_inv hkey
      simp only [Value.agg.injEq, Array.mk.injEq, List.cons.injEq, Value.string.injEq, and_true] at ex
      obtain ⟨p1, p2⟩ := p
      obtain ⟨rfl, rfl⟩ := ex
      exact hMore p1 p2 c w' cnt' hx hy hlk (has_true_of_atKey hat) hrg hlt hgr hsz hen)

theorem ranges_kept {w w' : World} {b r N : Nat} {D : DataW Unit} {left : Lit → Bool} {cnt : Nat} {g : Option Nat} (h : w.ranges Yba.prog 60 (plainElem (H := Unit) Yba.prog 4) b r N D left cnt) (hg : w.grownBy w' g) (hb : some b ≠ g) (hr : some r ≠ g) : w'.ranges Yba.prog 60 (plainElem (H := Unit) Yba.prog 4) b r N D left cnt := by
  obtain ⟨es, clock, since, seen, c0, h1, h2, h3, h4, h5, h6⟩ := h
  exact ⟨es, clock, since, seen, c0, (hg.block b (lt_of_block h1) hb).trans h1, h2, h3, h4, (hg.block r (lt_of_block h5) hr).trans h5, h6⟩

/-! ### the relation while its exceptions are laid down -/
def Rel.ext (R : Rel) (xb N : Nat) (D : DataW Unit) : Rel := { R with ex := .map (some xb), exc := excOf D, eb := N }

theorem RelOn.apart' {w : World} {p : Nat} {R : Rel} (h : RelOn w p R) : R.rb ≠ p := fun e => by
  obtain ⟨cur, h1, _⟩ := h.row
  rw [e, h.blk] at h1
  simp at h1

theorem RowsAt.kept2 {W W' : World} {rb n1 q : Nat} {rows : List (Nat × List (Nat × Nat))} {cs : Array Value} {t : TypeId} {f : Nat × Nat} (h : RowsAt W rb 0 n1 rows) (hg : W.grownBy W' (some q)) (hq : W.heap[q]? = some (.cells cs t f)) (h1 : t ≠ 75) (h2 : t ≠ 55) (hne : rb ≠ q) : RowsAt W' rb 0 n1 rows := fun k r hr => by
  obtain ⟨e1, e2, v, e3, e4⟩ := h k r hr
  exact ⟨e1, cell_kept hg e2 hne, v, cell_kept hg e3 hne, e4.km (KM.grown hg hq h1 h2)⟩

theorem RelOn.exc0 {W : World} {p : Nat} {R : Rel} (h : RelOn W p R) : RelOn ((W.alloc (.map #[] 0)).setCell ⟨p, 5, none⟩ (.map (some W.heap.size))) p (R.ext W.heap.size 0 (.map [])) := by
  have hb : Below W.heap.size W (W.alloc (.map #[] 0)) := below_al (Below.refl _ _) _
  have h1 := h.below hb
  have hm := World.ownsMap_made W Yba.prog 60 (plainElem (H := Unit) Yba.prog 4)
  have hpl := lt_of_block h.blk
  generalize W.alloc (.map #[] 0) = W1 at *
  have hg : W1.grownBy (W1.setCell ⟨p, 5, none⟩ (.map (some W.heap.size))) (some p) := grown_setCell (World.grownBy.refl _ _)
  have k2 := heap_setCell_same W1 p 5 _ 50 (.map (some W.heap.size)) h1.blk
  have hk : KM W1 (W1.setCell ⟨p, 5, none⟩ (.map (some W.heap.size))) := KM.grown hg h1.blk (by decide) (by decide)
  have hm2 := hm.kept hg (fun e => by have := Option.some.inj e; omega)
  obtain ⟨cur, r1, r2⟩ := h1.row
  have hr2 := (hg.block _ (lt_of_block r1) (fun e => h1.apart' (Option.some.inj e))).trans r1
  have hblk : (W1.setCell ⟨p, 5, none⟩ (.map (some W.heap.size))).heap[p]? = some (.cells (R.ext W.heap.size 0 (.map [])).cells 50 (0, 0)) := k2
  have hrw := h1.at_.rows
  rw [h1.ro] at hrw
  have hc : ∀ j, (W1.setCell ⟨p, 5, none⟩ (.map (some W.heap.size))).cell? ⟨p, j, none⟩ = (R.ext W.heap.size 0 (.map [])).cells[j]? := fun j => by simp [World.cell?, hblk]
  exact ⟨⟨hc 0, hc 1, hc 2, hc 3, hc 4, hc 5, h1.at_.s0.km hk, h1.at_.s1.km hk, .inr ⟨_, 0, _, rfl, hm2, Nat.le_refl _, fun _ _ => rfl⟩, h1.at_.len, h1.at_.small, by
    show RowsAt _ R.rb R.ro R.n1 R.rows
    rw [h1.ro]
    exact hrw.kept2 hg h1.blk (by decide) (by decide) h1.apart'⟩, hblk, h1.ro, ⟨cur, hr2, r2⟩⟩

/-- What the exceptions' loops keep. -/
structure CX (w wr : World) (p xb : Nat) (R : Rel) (N : Nat) (D : DataW Unit) : Prop where
  bel : Below w.heap.size w wr
  on : RelOn wr p (R.ext xb N D)
  own : wr.ownsMap Yba.prog 60 (plainElem (H := Unit) Yba.prog 4) xb N D
  n0 : ∀ b, R.m0 = .map (some b) → b ≠ xb
  n1 : ∀ b, R.m1 = .map (some b) → b ≠ xb
  far : w.heap.size ≤ xb

theorem CX.below {w wr wx : World} {p xb N : Nat} {R : Rel} {D : DataW Unit} (h : CX w wr p xb R N D) (hb : Below wr.heap.size wr wx) : CX w wx p xb R N D :=
  ⟨h.bel.trans (hb.mono h.bel.size), h.on.below hb, h.own.kept (Below.grownBy hb none) (by simp), h.n0, h.n1, h.far⟩

theorem CX.start {w W : World} {p : Nat} {R : Rel} (h : RelOn W p R) (hb : Below w.heap.size w W) (hp : w.heap.size ≤ p) : CX w ((W.alloc (.map #[] 0)).setCell ⟨p, 5, none⟩ (.map (some W.heap.size))) p W.heap.size R 0 (.map []) := by
  have hg : (W.alloc (.map #[] 0)).grownBy ((W.alloc (.map #[] 0)).setCell ⟨p, 5, none⟩ (.map (some W.heap.size))) (some p) := grown_setCell (World.grownBy.refl _ _)
  have hpl := lt_of_block h.blk
  have hb1 : Below w.heap.size w (W.alloc (.map #[] 0)) := below_al hb _
  refine ⟨hb1.grown hg hb1.size (fun b e => by have := Option.some.inj e; omega), h.exc0, (World.ownsMap_made W Yba.prog 60 (plainElem (H := Unit) Yba.prog 4)).kept hg (fun e => by have := Option.some.inj e; omega), fun b e e2 => ?_, fun b e e2 => ?_, hb.size⟩
  · rcases h.at_.s0.shape with ⟨e1, _⟩ | ⟨b', N, D, e1, ho, _⟩
    · rw [e1] at e; cases e
    · rw [e1] at e
      cases e
      have := ho.lt
      omega
  · rcases h.at_.s1.shape with ⟨e1, _⟩ | ⟨b', N, D, e1, ho, _⟩
    · rw [e1] at e; cases e
    · rw [e1] at e
      cases e
      have := ho.lt
      omega

theorem CX.put {w wr w' : World} {p xb N N' : Nat} {R : Rel} {D D' : DataW Unit} (h : CX w wr p xb R N D) (hg : wr.grownBy w' (some xb)) (hown : w'.ownsMap Yba.prog 60 (plainElem (H := Unit) Yba.prog 4) xb N' D') : CX w w' p xb R N' D' := by
  obtain ⟨es, ck, hm, _⟩ := h.own
  have hpx : p ≠ xb := fun e => by have := h.on.blk; rw [e, hm] at this; cases this
  have hrx : R.rb ≠ xb := fun e => by
    obtain ⟨cur, r1, _⟩ := h.on.row
    rw [show (R.ext xb N D).rb = R.rb from rfl, e, hm] at r1
    cases r1
  have hblk := (hg.block _ (lt_of_block h.on.blk) (fun e => hpx (Option.some.inj e))).trans h.on.blk
  obtain ⟨cur, r1, r2⟩ := h.on.row
  have r1' := (hg.block _ (lt_of_block r1) (fun e => hrx (Option.some.inj e))).trans r1
  have hc : ∀ j, w'.cell? ⟨p, j, none⟩ = (R.ext xb N' D').cells[j]? := fun j => by
    simp only [World.cell?, hblk]
    rfl
  exact ⟨h.bel.grown hg h.bel.size (fun b e => by have := Option.some.inj e; have := h.far; omega), ⟨⟨hc 0, hc 1, hc 2, hc 3, hc 4, hc 5, h.on.at_.s0.keptM hg h.n0, h.on.at_.s1.keptM hg h.n1, .inr ⟨xb, N', D', rfl, hown, Nat.le_refl _, fun _ _ => rfl⟩, h.on.at_.len, h.on.at_.small, h.on.at_.rows.kept hg hm⟩, hblk, h.on.ro, ⟨cur, r1', r2⟩⟩, hown, h.n0, h.n1, h.far⟩

/-! ### what they say -/
def bop (both a b : Bool) : Bool := if both then a && b else a || b

structure EI (R Ra Rb : Rel) (both : Bool) (fin : ByteArray → ByteArray → Bool) (D : DataW Unit) : Prop where
  vis : ∀ x y, x.size ≤ maxLen → y.size ≤ maxLen → fin x y = true → (excOf D x y).getD (R.byC x y) = bop both (Ra.holds x y) (Rb.holds x y)
  no : ∀ x y, x.size ≤ maxLen → y.size ≤ maxLen → fin x y = false → excOf D x y = none

theorem excOf_put_same {D : DataW Unit} (hm : IsMap D) (x y : ByteArray) (b : Bool) : excOf (D.put (pk x y) (.lit (.bool b))) x y = some b := by
  unfold excOf
  rw [has_put_same hm (by simp [pk, WideAt.IsKeyLit]), atKey_put_same hm (by simp [pk, WideAt.IsKeyLit])]
  rfl
theorem excOf_put_other {D : DataW Unit} {x y x' y' : ByteArray} (b : Bool) (hne : pk x' y' ≠ pk x y) : excOf (D.put (pk x y) (.lit (.bool b))) x' y' = excOf D x' y' := by
  unfold excOf
  rw [has_put_other hne, atKey_put_other hne]

theorem EI.put {R Ra Rb : Rel} {both : Bool} {fin fin' : ByteArray → ByteArray → Bool} {D : DataW Unit} (h : EI R Ra Rb both fin D) (hm : IsMap D) {x y : ByteArray} (hx : x.size ≤ maxLen) (hy : y.size ≤ maxLen) (hf : fin' x y = true) (ho : ∀ x' y', pk x' y' ≠ pk x y → fin' x' y' = fin x' y') :
    EI R Ra Rb both fin' (D.put (pk x y) (.lit (.bool (bop both (Ra.holds x y) (Rb.holds x y))))) := by
  refine ⟨fun x' y' hx' hy' hv => ?_, fun x' y' hx' hy' hv => ?_⟩
  · by_cases e : pk x' y' = pk x y
    · obtain ⟨rfl, rfl⟩ := pk_inj hx' hy' hx hy e
      rw [excOf_put_same hm]
      rfl
    · rw [excOf_put_other _ e]
      exact h.vis x' y' hx' hy' (by rw [← ho x' y' e]; exact hv)
  · by_cases e : pk x' y' = pk x y
    · obtain ⟨rfl, rfl⟩ := pk_inj hx' hy' hx hy e
      rw [hf] at hv
      cases hv
    · rw [excOf_put_other _ e]
      exact h.no x' y' hx' hy' (by rw [← ho x' y' e]; exact hv)

theorem EI.skip {R Ra Rb : Rel} {both : Bool} {fin fin' : ByteArray → ByteArray → Bool} {D : DataW Unit} (h : EI R Ra Rb both fin D) {x y : ByteArray} (hx : x.size ≤ maxLen) (hy : y.size ≤ maxLen) (hf : fin' x y = true) (ho : ∀ x' y', pk x' y' ≠ pk x y → fin' x' y' = fin x' y') (he : bop both (Ra.holds x y) (Rb.holds x y) = R.byC x y) : EI R Ra Rb both fin' D := by
  refine ⟨fun x' y' hx' hy' hv => ?_, fun x' y' hx' hy' hv => ?_⟩
  · by_cases e : pk x' y' = pk x y
    · obtain ⟨rfl, rfl⟩ := pk_inj hx' hy' hx hy e
      cases hfx : fin x' y'
      · rw [h.no x' y' hx' hy' hfx, he]
        rfl
      · exact h.vis x' y' hx' hy' hfx
    · exact h.vis x' y' hx' hy' (by rw [← ho x' y' e]; exact hv)
  · by_cases e : pk x' y' = pk x y
    · obtain ⟨rfl, rfl⟩ := pk_inj hx' hy' hx hy e
      rw [hf] at hv
      cases hv
    · exact h.no x' y' hx' hy' (by rw [← ho x' y' e]; exact hv)

theorem EI.same {R Ra Rb : Rel} {both : Bool} {fin fin' : ByteArray → ByteArray → Bool} {D : DataW Unit} (h : EI R Ra Rb both fin D) (ho : ∀ x' y', fin' x' y' = fin x' y') : EI R Ra Rb both fin' D := by
  have : fin' = fin := by funext x y; exact ho x y
  rw [this]
  exact h

theorem EI.start (R Ra Rb : Rel) (both : Bool) : EI R Ra Rb both (fun _ _ => false) (.map []) := ⟨fun _ _ _ _ h => (by cases h), fun x y _ _ _ => (by simp [excOf, Maps.has])⟩

theorem size_le {w : World} {b N : Nat} {D : DataW Unit} (h : w.ownsMap Yba.prog 60 (plainElem (H := Unit) Yba.prog 4) b N D) : Maps.size D ≤ N := by
  obtain ⟨es, clock, _, _, hs, rfl⟩ := h
  unfold Maps.size
  simp [length_sorted]
  exact hs

theorem KM.iter {W W' : World} {r : Nat} {a b c : Nat} {d : List Value} {o : Obj} (hg : W.grownBy W' (some r)) (hit : W.heap[r]? = some o) (h1 : ∀ cs t f, o ≠ .cells cs t f) (h2 : ∀ es ck, o ≠ .map es ck) : KM W W' :=
  ⟨fun b _ _ h _ => (hg.block b (lt_of_block h) (fun e => by rw [Option.some.inj e, hit] at h; exact h1 _ _ _ (Option.some.inj h))).trans h, fun b _ _ h => (hg.block b (lt_of_block h) (fun e => by rw [Option.some.inj e, hit] at h; exact h2 _ _ (Option.some.inj h))).trans h⟩

theorem RowsAt.km {W W' : World} {rb n1 : Nat} {rows : List (Nat × List (Nat × Nat))} {x : Obj} (h : RowsAt W rb 0 n1 rows) (k : KM W W') (hr : W.heap[rb]? = some x) (hr' : W'.heap[rb]? = some x) : RowsAt W' rb 0 n1 rows := fun i r hi => by
  obtain ⟨e1, e2, v, e3, e4⟩ := h i r hi
  exact ⟨e1, cell_block hr hr' e2, v, cell_block hr hr' e3, e4.km k⟩

/-- The range's own block is turned. -/
theorem CX.iter {w wr w' : World} {p xb N r : Nat} {R : Rel} {D : DataW Unit} {o : Obj} (h : CX w wr p xb R N D) (hg : wr.grownBy w' (some r)) (hit : wr.heap[r]? = some o) (h1 : ∀ cs t f, o ≠ .cells cs t f) (h2 : ∀ es ck, o ≠ .map es ck) (hr : w.heap.size ≤ r) : CX w w' p xb R N D := by
  have k : KM wr w' := KM.iter (a := 0) (b := 0) (c := 0) (d := []) hg hit h1 h2
  have hne : ∀ (b : Nat) (cs : Array Value) (t : TypeId) (f : Nat × Nat), wr.heap[b]? = some (.cells cs t f) → w'.heap[b]? = some (.cells cs t f) := fun b cs t f hb => (hg.block b (lt_of_block hb) (fun e => by rw [Option.some.inj e, hit] at hb; exact h1 _ _ _ (Option.some.inj hb))).trans hb
  have hblk := hne _ _ _ _ h.on.blk
  obtain ⟨cur, r1, r2⟩ := h.on.row
  have r1' := hne _ _ _ _ r1
  obtain ⟨es, ck, hm, hrest⟩ := h.own
  have hown : w'.ownsMap Yba.prog 60 (plainElem (H := Unit) Yba.prog 4) xb N D := ⟨es, ck, k.maps _ _ _ hm, hrest⟩
  have hc : ∀ j, w'.cell? ⟨p, j, none⟩ = (R.ext xb N D).cells[j]? := fun j => by
    simp only [World.cell?, hblk]
    rfl
  have hrw := h.on.at_.rows
  rw [h.on.ro] at hrw
  exact ⟨h.bel.grown hg h.bel.size (fun b e => by have := Option.some.inj e; omega), ⟨⟨hc 0, hc 1, hc 2, hc 3, hc 4, hc 5, h.on.at_.s0.km k, h.on.at_.s1.km k, .inr ⟨xb, N, D, rfl, hown, Nat.le_refl _, fun _ _ => rfl⟩, h.on.at_.len, h.on.at_.small, by
    rw [h.on.ro]
    exact hrw.km k r1 r1'⟩, hblk, h.on.ro, ⟨cur, r1', r2⟩⟩, hown, h.n0, h.n1, h.far⟩

/-- Which pairs have been looked at when i sides are done. -/
def finS (DA DB : DataW Unit) (i : Nat) (x y : ByteArray) : Bool := (decide (0 < i) && Maps.has DA (pk x y)) || (decide (1 < i) && Maps.has DB (pk x y))

/-- The end: every pair is told rightly. -/
theorem EI.done {R Ra Rb : Rel} {both : Bool} {DA DB D : DataW Unit} {xb N : Nat} (h : EI R Ra Rb both (finS DA DB 2) D) (ha : ∀ x y, Ra.exc x y = excOf DA x y) (hb : ∀ x y, Rb.exc x y = excOf DB x y) (hby : ∀ x y, x.size ≤ maxLen → y.size ≤ maxLen → R.byC x y = bop both (Ra.byC x y) (Rb.byC x y)) (x y : ByteArray) (hx : x.size ≤ maxLen) (hy : y.size ≤ maxLen) : (R.ext xb N D).holds x y = bop both (Ra.holds x y) (Rb.holds x y) := by
  show (excOf D x y).getD (R.byC x y) = _
  cases hf : finS DA DB 2 x y
  · rw [h.no x y hx hy hf, Option.getD_none, hby x y hx hy]
    simp only [finS, Nat.lt_irrefl, decide_true, show (0 < 2) = True by simp, show (1 < 2) = True by simp, Bool.true_and, Bool.or_eq_false_iff] at hf
    unfold Rel.holds
    rw [ha, hb]
    unfold excOf
    rw [hf.1, hf.2]
    rfl
  · exact h.vis x y hx hy hf
end Go.Proofs.Ybulkatiq
