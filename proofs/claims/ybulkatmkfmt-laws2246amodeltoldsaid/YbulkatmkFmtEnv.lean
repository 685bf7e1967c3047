/-
  What a call of Settle stands on.
-/
import Derived.Test.YbulkatmkFmtTargets
namespace Go.Proofs.YbulkatmkFmt
open Go.ChangeShapes Go.WideShapes Go.ChangeAt Go.RowKit Go.Extern.Stop Go.Stop

def sFailed : ByteArray := ⟨#[102, 97, 105, 108, 101, 100]⟩
def sManual : ByteArray := ⟨#[110, 101, 101, 100, 115, 45, 109, 97, 110, 117, 97, 108, 45, 114, 101, 118, 105, 101, 119]⟩

structure Places where
  L : Nat
  a : Option Addr
  cap : Nat
  R : Nat
  q : Nat → Nat
  xs : List Iss
  sb : Nat
  so : Nat
  sc : Nat
  b : Nat
  o : Nat
  c : Nat
  s : Nat → ByteArray
  ea : Addr
  et : ByteArray
  ec : Array Value
  ety : TypeId

structure Env (F : Interp) (P : Places) (w : World) : Prop where
  hF : F.answers w.tape
  led : Led w P.L P.a P.cap P.R P.q P.xs
  inj : ∀ i k, i < P.xs.length → k < P.xs.length → P.q i = P.q k → i = k
  set0 : w.cell? ⟨1, 0, none⟩ = some (.slice (some ⟨P.sb, P.so, none⟩) 2 P.sc)
  set1 : 2 ≤ P.sc
  set2 : w.cell? ⟨P.sb, P.so, none⟩ = some (.string sFailed)
  set3 : w.cell? ⟨P.sb, P.so + 1, none⟩ = some (.string sManual)
  dues : DuesAt w P.b P.o P.c P.s
  err0 : w.cell? ⟨0, 0, none⟩ = some (.iface 104 (.pointer (some P.ea)))
  err1 : w.cell? P.ea = some (.string P.et)
  err2 : w.heap[P.ea.block]? = some (.cells P.ec P.ety (0, 0))

theorem Led.below {w w' : World} {L : Nat} {a : Option Addr} {cap R : Nat} {q : Nat → Nat} {xs : List Iss} (h : Led w L a cap R q xs) (hb : Below w.heap.size w w') : Led w' L a cap R q xs :=
  ⟨by rw [hb.cell (block_lt_of_cell h.head)]; exact h.head, h.addr, h.small, fun i hi => by rw [hb.cell (block_lt_of_cell (h.ptr i hi))]; exact h.ptr i hi,
    fun i x hx => (hb.block _ (h.here i x hx).lt).trans (h.here i x hx)⟩

theorem DuesAt.below {w w' : World} {b o c : Nat} {s : Nat → ByteArray} (h : DuesAt w b o c s) (hb : Below w.heap.size w w') : DuesAt w' b o c s :=
  ⟨by rw [hb.cell (block_lt_of_cell h.var)]; exact h.var, fun j hj => by rw [hb.cell (block_lt_of_cell (h.cell j hj))]; exact h.cell j hj, h.s0, h.s3, h.s6⟩

theorem Env.below {F : Interp} {P : Places} {w w' : World} (h : Env F P w) (hb : Below w.heap.size w w') : Env F P w' :=
  ⟨by rw [hb.tape]; exact h.hF, h.led.below hb, h.inj, by rw [hb.cell (block_lt_of_cell h.set0)]; exact h.set0, h.set1, by rw [hb.cell (block_lt_of_cell h.set2)]; exact h.set2,
    by rw [hb.cell (block_lt_of_cell h.set3)]; exact h.set3, h.dues.below hb, by rw [hb.cell (block_lt_of_cell h.err0)]; exact h.err0, by rw [hb.cell (block_lt_of_cell h.err1)]; exact h.err1,
    (hb.block _ (lt_of_block h.err2)).trans h.err2⟩

def zeroIss : Iss := ⟨0, ⟨#[]⟩, 0, 0, ⟨#[]⟩⟩

/-- What a refused Settle leaves: the zero issue, a new error. -/
def Refused (w : World) (e : Ending) (w' : World) : Prop := ∃ v, e = .returned (.tuple #[.agg zeroIss.cells, v]) ∧ IsNew w v w'

theorem zero_alloc (w : World) : IssAt (w.alloc (.cells #[.int .i64 0, .string ⟨#[]⟩, .int .i64 0, .int .i64 0, .string ⟨#[]⟩] 32)) w.heap.size zeroIss := by
  show (w.heap.push _)[w.heap.size]? = _
  simp [zeroIss, Iss.cells]

theorem IssAt.below {w w' : World} {p : Nat} {x : Iss} (h : IssAt w p x) (hb : Below w.heap.size w w') : IssAt w' p x := (hb.block _ h.lt).trans h

/-- A whole issue laid over block p. -/
def put5 (w : World) (p : Nat) (y : Iss) : World :=
  ((((w.setCell ⟨p, 0, none⟩ (.int .i64 y.issue)).setCell ⟨p, 1, none⟩ (.string y.state)).setCell ⟨p, 2, none⟩ (.int .i64 y.fixes)).setCell ⟨p, 3, none⟩ (.int .i64 y.pr)).setCell ⟨p, 4, none⟩ (.string y.branch)

theorem put5_at {w : World} {p : Nat} {x : Iss} (h : IssAt w p x) (y : Iss) : IssAt (put5 w p y) p y :=
  ((((h.set (y := ⟨y.issue, x.state, x.fixes, x.pr, x.branch⟩) rfl).set (y := ⟨y.issue, y.state, x.fixes, x.pr, x.branch⟩) rfl).set (y := ⟨y.issue, y.state, y.fixes, x.pr, x.branch⟩) rfl).set (y := ⟨y.issue, y.state, y.fixes, y.pr, x.branch⟩) rfl).set rfl

theorem grown_setCell {w w' : World} {p o : Nat} {v : Value} (h : w.grownBy w' (some p)) : w.grownBy (w'.setCell ⟨p, o, none⟩ v) (some p) :=
  ⟨h.os, h.tape, h.output, by have := h.size; simpa using this, fun k hk hne => (Below.heap_setCell w' ⟨p, o, none⟩ v k (fun e => hne (by rw [e]))).trans (h.block k hk hne)⟩

theorem put5_grown (w : World) (p : Nat) (y : Iss) : w.grownBy (put5 w p y) (some p) :=
  grown_setCell (grown_setCell (grown_setCell (grown_setCell (grown_setCell (World.grownBy.refl w _)))))

theorem ret_cell {Q : Ending → World → Prop} {tmps : Array Value} {w : World} {p : Nat} {y : Iss} {v : Value} (h8 : tmps.getD 8 undef = .pointer (some ⟨p, 0, none⟩)) (h9 : tmps.getD 9 undef = v) (h : IssAt w p y)
    (hq : Q (.returned (.tuple #[.agg y.cells, v])) w) : bodyPost Ybaf.prog Ybaf.f7 Q Exit.ret ⟨tmps, []⟩ w := by
  have q0 := h.c0
  have q1 := h.c1
  have q2 := h.c2
  have q3 := h.c3
  have q4 := h.c4
  subst h9
  rw [Array.getD_eq_getD_getElem?] at h8
  refine bodyPost_ret (v := .tuple #[.agg y.cells, tmps.getD 9 undef]) ?_ rfl hq
  simp [results, Ybaf.results7, go_sem, q0, q1, q2, q3, q4, h8, Iss.cells]

/-- The end of a refusal: the zero issue is laid over the result's own block. -/
theorem refuse_end {w w0 w1 : World} {v : Value} {p : Nat} (hp : w.heap.size ≤ p) (h0 : Below w.heap.size w w0) (hz : IssAt w0 p zeroIss) (hnew : IsNew w0 v w1) : IssAt (put5 w1 p zeroIss) p zeroIss ∧ IsNew w v (put5 w1 p zeroIss) := by
  obtain ⟨g, s, hg, rfl, hgb, hbel⟩ := hnew
  have hz1 := hz.below hbel
  refine ⟨put5_at hz1 _, g, s, Nat.le_trans h0.size hg, rfl, ?_, ?_⟩
  · rw [(put5_grown w1 p zeroIss).block g (lt_of_block hgb) (fun e => by simp only [Option.some.injEq] at e; have := hz.lt; omega)]
    exact hgb
  · have h1 : Below w.heap.size w w1 := h0.trans ⟨hbel.os, hbel.tape, hbel.output, hbel.size, fun k hk => hbel.block k (Nat.lt_of_lt_of_le hk h0.size)⟩
    exact h1.grown (put5_grown w1 p zeroIss) h1.size (fun k hk => by simp only [Option.some.injEq] at hk; subst hk; exact hp)

abbrev w8 (w : World) : World := w.alloc (.cells #[.int .i64 0, .string ⟨#[]⟩, .int .i64 0, .int .i64 0, .string ⟨#[]⟩] 32)
theorem w8_below (w : World) : Below w.heap.size w (w8 w) := (Below.refl _ _).alloc (Nat.le_refl _) _

set_option maxRecDepth 100000 in
set_option maxHeartbeats 800000 in
theorem settle_miss {F : Interp} {P : Places} {w : World} (h : Env F P w) (n pr : Int) (to : ByteArray) (hi : noIdx n P.xs = none) :
    Calls Ybaf.prog 7 #[.pointer (some ⟨P.L, 0, none⟩), .int .i64 n, .string to, .int .i64 pr] w (Refused w) := by
  have HE := hid (h.below (w8_below w))
  have HZ := hid (zero_alloc w)
  clear h
  go_enter Ybaf.func7, Ybaf.ntmps7
  go_wp2_with fail
  refine (issue_miss F HE.out.hF HE.out.led n hi).mono ?_
  rintro e w1 ⟨v, rfl, hnew⟩
  have HN := hid hnew
  obtain ⟨g, s, hg, rfl, hgb, hbel⟩ := hnew
  have z := HZ.out.below hbel
  have z0 := z.c0
  have z1 := z.c1
  have z2 := z.c2
  have z3 := z.c3
  have z4 := z.c4
  have zf := z.fz
  clear hgb hbel z hg
  go_wp2_with fail
  obtain ⟨e1, e2⟩ := refuse_end (Nat.le_refl _) (w8_below w) HZ.out HN.out
  exact ret_cell rfl rfl e1 ⟨_, rfl, e2⟩
end Go.Proofs.YbulkatmkFmt
