/-
  What the comparisons stand on, behind a call of Settle.
-/
import Derived.Test.YbulkatmkFmtStageC
namespace Go.Proofs.YbulkatmkFmt
open Go.ChangeShapes Go.WideShapes Go.ChangeAt Go.RowKit Go.Extern.Stop Go.Stop

/-- The package's variables, as the law's call meets them. -/
structure VarsAt (F : Interp) (P : Places) (w : World) : Prop where
  hF : F.answers w.tape
  set0 : w.cell? ⟨1, 0, none⟩ = some (.slice (some ⟨P.sb, P.so, none⟩) 2 P.sc)
  set1 : 2 ≤ P.sc
  set2 : w.cell? ⟨P.sb, P.so, none⟩ = some (.string sFailed)
  set3 : w.cell? ⟨P.sb, P.so + 1, none⟩ = some (.string sManual)
  dues : DuesAt w P.b P.o P.c P.s
  err0 : w.cell? ⟨0, 0, none⟩ = some (.iface 104 (.pointer (some P.ea)))
  err1 : w.cell? P.ea = some (.string P.et)
  err2 : w.heap[P.ea.block]? = some (.cells P.ec P.ety (0, 0))

def Places.at_ (P : Places) (B : Nat) (ao : Option Addr) (cv R : Nat) (q : Nat → Nat) (xs : List Iss) : Places := { P with L := B, a := ao, cap := cv, R := R, q := q, xs := xs }

theorem VarsAt.env {F : Interp} {P : Places} {w w' : World} (h : VarsAt F P w) (hb : Below w.heap.size w w') {B : Nat} {ao : Option Addr} {cv R : Nat} {q : Nat → Nat} {xs : List Iss} (hl : Led w' B ao cv R q xs)
    (hi : ∀ i k, i < xs.length → k < xs.length → q i = q k → i = k) : Env F (P.at_ B ao cv R q xs) w' :=
  ⟨by rw [hb.tape]; exact h.hF, hl, hi, by rw [hb.cell (block_lt_of_cell h.set0)]; exact h.set0, h.set1, (hb.cell (block_lt_of_cell h.set2)).trans h.set2,
    (hb.cell (block_lt_of_cell h.set3)).trans h.set3, h.dues.below hb, by rw [hb.cell (block_lt_of_cell h.err0)]; exact h.err0, (hb.cell (block_lt_of_cell h.err1)).trans h.err1,
    (hb.block _ (lt_of_block h.err2)).trans h.err2⟩

theorem ptrs_get {q : Nat → Nat} {k j : Nat} (h : j < k) : (ptrs q k)[j]? = some (.pointer (some ⟨q j, 0, none⟩)) := by
  unfold ptrs
  simp [h]

structure Base (w : World) (B k : Nat) (ao : Option Addr) (cv R : Nat) (q : Nat → Nat) (xs : List Iss) : Prop where
  led : Led w B ao cv R q xs
  cmp : Cmp w B k ao cv R q xs xs
  far : ∀ j, j < k → R ≠ q j
  qB : ∀ j, j < k → B + 2 ≤ q j
  inj : ∀ i j, i < k → j < k → q i = q j → i = j

theorem Built.base {B k : Nat} {w : World} {v : Value} {q : Nat → Nat} {xs : List Iss} {bs : List Value} (h : Built B k k w v q xs bs) (hk : k ≤ 1024) : ∃ ao cv R, Base w B k ao cv R q xs := by
  have hlen := h.len
  have hbl := h.bslen
  have cB : ∀ j x, xs[j]? = some x → j < k := fun j x hx => by have := (List.getElem?_eq_some_iff.1 hx).1; omega
  have hc : w.cell? ⟨B, 0, none⟩ = some v := by simp [World.cell?, h.led]
  have mk : ∀ (ao : Option Addr) (cv R : Nat), v = .slice ao k cv → (0 < k → ao = some ⟨R, 0, none⟩) → (∀ i, i < k → w.cell? ⟨R, i, none⟩ = some (.pointer (some ⟨q i, 0, none⟩))) → (∀ j, j < k → R ≠ q j) → ∃ ao cv R, Base w B k ao cv R q xs := by
    intro ao cv R hv ha hp hf
    subst hv
    refine ⟨ao, cv, R, ⟨⟨by rw [hc, hlen], by rw [hlen]; exact ha, by omega, by rw [hlen]; exact hp, h.iss⟩, ⟨hlen, hk, hlen, hc, ha, hp, h.iss, ?_, ?_, ?_, ?_, ?_⟩, hf, h.qB, h.inj⟩⟩
    · intro j x hx; have := cB j x hx; exact (h.bef.cellAt (j * 5) (by omega)).trans (h.befs j x hx).b0
    · intro j x hx; have := cB j x hx; exact (h.bef.cellAt (j * 5 + 1) (by omega)).trans (h.befs j x hx).b1
    · intro j x hx; have := cB j x hx; exact (h.bef.cellAt (j * 5 + 2) (by omega)).trans (h.befs j x hx).b2
    · intro j x hx; have := cB j x hx; exact (h.bef.cellAt (j * 5 + 3) (by omega)).trans (h.befs j x hx).b3
    · intro j x hx; have := cB j x hx; exact (h.bef.cellAt (j * 5 + 4) (by omega)).trans (h.befs j x hx).b4
  rcases Nat.eq_zero_or_pos k with h0 | h0
  · obtain ⟨ao, cv, hv⟩ := owns_shape h.row
    exact mk ao cv 0 hv (fun h => by omega) (fun i hi => by omega) (fun j hj => by omega)
  · have hrow := h.row
    obtain ⟨g, cv, hv, _, _⟩ := hrow.form h0
    subst hv
    refine mk _ cv g rfl (fun _ => rfl) (fun i hi => (hrow.cellAt i (by omega)).trans (ptrs_get hi)) (fun j hj e => ?_)
    have hx : xs[j]? = some (xs[j]'(by omega)) := by simp [show j < xs.length by omega]
    exact row_ne hrow (h.iss j _ hx) (by decide) (by rw [← e]; rfl)

theorem cell_other {w w' : World} {p b o : Nat} {v : Value} (hg : w.grownBy w' (some p)) (h : w.cell? ⟨b, o, none⟩ = some v) (hne : b ≠ p) : w'.cell? ⟨b, o, none⟩ = some v :=
  (cell_grown hg hne (block_lt_of_cell h)).trans h

theorem Base.moved {w w' : World} {B k : Nat} {ao : Option Addr} {cv R : Nat} {q : Nat → Nat} {xs : List Iss} (h : Base w B k ao cv R q xs) {i : Nat} {y : Iss} (hi : i < k) (hg : w.grownBy w' (some (q i))) (hy : IssAt w' (q i) y) :
    Cmp w' B k ao cv R q xs (xs.set i y) := by
  have c := h.cmp
  have hb := h.qB i hi
  have hlen := c.len
  refine ⟨c.len, c.small, by rw [List.length_set]; exact c.leny, cell_other hg c.led (by omega), c.addr, fun j hj => cell_other hg (c.ptr j hj) (h.far i hi), ?_,
    fun j x hx => cell_other hg (c.b0 j x hx) (by omega), fun j x hx => cell_other hg (c.b1 j x hx) (by omega), fun j x hx => cell_other hg (c.b2 j x hx) (by omega),
    fun j x hx => cell_other hg (c.b3 j x hx) (by omega), fun j x hx => cell_other hg (c.b4 j x hx) (by omega)⟩
  intro j z hz
  by_cases e : j = i
  · subst e
    rw [List.getElem?_set, if_pos rfl] at hz
    split at hz
    · simp only [Option.some.injEq] at hz
      subst hz
      exact hy
    · cases hz
  · rw [List.getElem?_set_ne (fun h => e h.symm)] at hz
    have hj : j < k := by have := (List.getElem?_eq_some_iff.1 hz).1; omega
    exact (hg.block _ (c.iss j z hz).lt (fun h2 => by simp only [Option.some.injEq] at h2; exact e (h.inj j i hj hi h2))).trans (c.iss j z hz)

section
variable {F : Interp} {P : Places} {w0 w w' : World} {k : Nat} {ao : Option Addr} {cv R : Nat} {q : Nat → Nat} {xs : List Iss} {v : Ver}

theorem got_below (w' : World) (y : Iss) : Below w'.heap.size w' (w'.alloc (.cells y.cells 32)) := (Below.refl _ _).alloc (Nat.le_refl _) _

theorem got_at (w' : World) (y : Iss) : IssAt (w'.alloc (.cells y.cells 32)) w'.heap.size y := by
  show (w'.heap.push _)[w'.heap.size]? = _
  simp

theorem ready_moved (hV : VarsAt F P w0) (hL : Below w0.heap.size w0 w) (h : Base w w0.heap.size k ao cv R q xs) (hok : v.ok = true) (hi : v.i < k) (hg : w.grownBy w' (some (q v.i))) (hy : IssAt w' (q v.i) v.want) :
    ReadyFor w0 (w'.alloc (.cells v.want.cells 32)) w0.heap.size k w'.heap.size .nilIface v xs := by
  have hb : Below w0.heap.size w0 w' := hL.grown hg hL.size (fun j hj => by simp only [Option.some.injEq] at hj; have := h.qB v.i hi; omega)
  have hz := got_below w' v.want
  have e0 := (hb.cell (block_lt_of_cell hV.err0)).trans hV.err0
  exact ⟨ao, cv, R, q, _, P.ea, hb.trans (below_le hz hb.size), (h.moved hi hg hy).below hz, (hz.cell (block_lt_of_cell e0)).trans e0, .inl ⟨hok, rfl, got_at w' v.want, rfl, hi⟩⟩

theorem ready_nopr (hV : VarsAt F P w0) (hL : Below w0.heap.size w0 w) (h : Base w w0.heap.size k ao cv R q xs) (hok : v.ok = false) (hnp : v.noPR = true) {g : Nat} (hg : w'.cell? ⟨g, 0 + 1, none⟩ = some (.iface 104 (.pointer (some P.ea)))) (hb1 : Below w.heap.size w w') :
    ReadyFor w0 (w'.alloc (.cells zeroIss.cells 32)) w0.heap.size k w'.heap.size (.iface 82 (.pointer (some ⟨g, 0, none⟩))) v xs := by
  have hb : Below w0.heap.size w0 w' := hL.trans (below_le hb1 hL.size)
  have hz := got_below w' zeroIss
  have e0 := (hb.cell (block_lt_of_cell hV.err0)).trans hV.err0
  refine ⟨ao, cv, R, q, xs, P.ea, hb.trans (below_le hz hb.size), (h.cmp.below hb1).below hz, (hz.cell (block_lt_of_cell e0)).trans e0, .inr ⟨hok, rfl, got_at w' zeroIss, 82, some ⟨g, 0, none⟩, rfl, ?_⟩⟩
  intro W' hW
  have hg2 := (hz.cell (block_lt_of_cell hg)).trans hg
  have hg3 := (hW.cell (block_lt_of_cell hg2)).trans hg2
  rw [hnp]
  exact is_wrap_same g 0 P.ea W' hg3

theorem ready_bad (hV : VarsAt F P w0) (hL : Below w0.heap.size w0 w) (h : Base w w0.heap.size k ao cv R q xs) (hok : v.ok = false) (hnp : v.noPR = false) {er : Value} (hn : IsNew w er w') :
    ReadyFor w0 (w'.alloc (.cells zeroIss.cells 32)) w0.heap.size k w'.heap.size er v xs := by
  obtain ⟨g, s, hge, rfl, hgb, hb1⟩ := hn
  have hb : Below w0.heap.size w0 w' := hL.trans (below_le hb1 hL.size)
  have hz := got_below w' zeroIss
  have e0 := (hb.cell (block_lt_of_cell hV.err0)).trans hV.err0
  refine ⟨ao, cv, R, q, xs, P.ea, hb.trans (below_le hz hb.size), (h.cmp.below hb1).below hz, (hz.cell (block_lt_of_cell e0)).trans e0, .inr ⟨hok, rfl, got_at w' zeroIss, 104, some ⟨g, 0, none⟩, rfl, ?_⟩⟩
  intro W' hW
  have hg2 := (hz.block _ (lt_of_block hgb)).trans hgb
  have hg3 := (hW.block _ (lt_of_block hg2)).trans hg2
  have hlt := lt_of_block hV.err2
  have ha := (hb.block _ hlt).trans hV.err2
  have ha2 := (hz.block _ (lt_of_block ha)).trans ha
  have ha3 := (hW.block _ (lt_of_block ha2)).trans ha2
  have hs := hL.size
  rw [hnp]
  exact is_other ⟨g, 0, none⟩ P.ea _ _ _ _ W' (fun e => by rw [← e] at hlt; simp at hlt; omega) hg3 ha3
end
end Go.Proofs.YbulkatmkFmt
