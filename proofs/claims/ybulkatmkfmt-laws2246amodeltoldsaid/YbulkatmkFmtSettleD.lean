/-
  The walks of Settle: a pull request that is another issue's, and the moves.
-/
import Derived.Test.YbulkatmkFmtSettleC
namespace Go.Proofs.YbulkatmkFmt
open Go.ChangeShapes Go.WideShapes Go.ChangeAt Go.RowKit Go.Extern.Stop Go.Stop

theorem beq_of {a b : Int} (h : a = b) : (a == b) = true := by simp [h]

/-- What a Settle that moves issue k leaves. -/
def Moved (k : Nat) (y : Iss) (w : World) (e : Ending) (w' : World) : Prop :=
  e = .returned (.tuple #[.agg y.cells, .nilIface]) ∧ IssAt w' k y ∧ w.grownBy w' (some k)

theorem ok_end {w w3 wS : World} {k : Nat} {y : Iss} (hB : Below w.heap.size w w3) (hz : IssAt w3 w.heap.size zeroIss) (hk : k < w.heap.size) (hS : IssAt wS k y) (hg : w3.grownBy wS (some k)) :
    IssAt (put5 wS w.heap.size y) w.heap.size y ∧ IssAt (put5 wS w.heap.size y) k y ∧ w.grownBy (put5 wS w.heap.size y) (some k) := by
  have hz' : IssAt wS w.heap.size zeroIss := (hg.block _ hz.lt (fun e => by simp only [Option.some.injEq] at e; omega)).trans hz
  have gr := put5_grown wS w.heap.size y
  refine ⟨put5_at hz' y, (gr.block k hS.lt (fun e => by simp only [Option.some.injEq] at e; omega)).trans hS, ?_⟩
  refine ⟨gr.os.trans (hg.os.trans hB.os), gr.tape.trans (hg.tape.trans hB.tape), gr.output.trans (hg.output.trans hB.output), Nat.le_trans hB.size (Nat.le_trans hg.size gr.size), fun j hj hne => ?_⟩
  have h3 := hB.size
  have hgs := hg.size
  rw [gr.block j (by omega) (fun e => by simp only [Option.some.injEq] at e; omega), hg.block j (by omega) hne, hB.block j hj]

section
variable {F : Interp} {P : Places} {w : World}

set_option maxRecDepth 100000 in
set_option maxHeartbeats 1600000 in
theorem settle_taken (h : Env F P w) (n pr : Int) (tt : ByteArray) (i : Nat) (x : Iss) (hi : noIdx n P.xs = some i) (hx : P.xs[i]? = some x) (hs : settledS x.state = true) (ht : targetS tt = true) (hpr : ¬ pr < 0) (hz : ¬ pr = 0) (hr : (tt.toList == [114, 101, 97, 100, 121]) = false) (hor : x.pr = 0 ∨ pr = x.pr) (j : Nat) (y : Iss) (hj : prIdx pr P.xs = some j) (hy : P.xs[j]? = some y) (hji : j ≠ i) :
    Calls Ybaf.prog 7 #[.pointer (some ⟨P.L, 0, none⟩), .int .i64 n, .string tt, .int .i64 pr] w (Refused w) := by
  have hE := h.below (w8_below w)
  have hg1 := hE.set0
  have hst := (hE.led.here i x hx).c1
  have HE := hid hE
  have HZ := hid (zero_alloc w)
  have HX := hid hx
  clear h hE hx
  go_enter Ybaf.func7, Ybaf.ntmps7
  go_wp2_with fail
  refine (issue_hit HE.out.led n i hi).mono ?_
  rintro e w1 ⟨rfl, rfl⟩
  go_wp2_with fail
  go_quiet ((go_at_call 13; exact quiet_settled HE.out x.state _))
  go_wp2_with fail
  have hEq := HE.out.drewN nq
  have hzq : IssAt ((w8 w).drewN nq) w.heap.size zeroIss := HZ.out
  have hbq : Below w.heap.size w ((w8 w).drewN nq) := below_drewN (w8_below w) nq
  have HE2 := hid hEq
  have HZ2 := hid hzq
  have HB2 := hid hbq
  clear hEq hzq hbq hg1 hst HE HZ
  generalize (w8 w).drewN nq = wq at *
  refine (targets_any HE2.out.dues).mono ?_
  rintro e w3 ⟨v, rfl, hown, hb3⟩
  obtain ⟨gt, ct, rfl, _, _⟩ := hown.form (by omega)
  have HO3 := hid hown
  have HE3 := hid (HE2.out.below hb3)
  have HZ3 := hid (HZ2.out.below hb3)
  have HB3 := hid (HB2.out.trans (below_le hb3 HB2.out.size))
  clear hown hb3 HE2 HZ2 HB2
  go_wp2_with fail
  refine (contains_targets HO3.out tt).mono ?_
  rintro e w' ⟨rfl, rfl⟩
  have q3 := (HE3.out.led.here i x HX.out).c3
  have f1 := ne_of hz
  have hqi : P.q j ≠ P.q i := fun e => hji (HE3.out.inj j i (List.getElem?_eq_some_iff.1 hy).1 (List.getElem?_eq_some_iff.1 HX.out).1 e)
  have hck := checkPR_other F HE3.out.hF HE3.out.led pr j i y x hj hy HX.out hqi
  clear hqi hy hj
  rcases hor with hx0 | hxp
  · have f2 := eq_of hx0
    have f3 := beq_of hx0
    clear hx0
    go_wp2_with fail
    refine hck.mono ?_
    rintro e w5 ⟨v, rfl, hnew⟩
    clear hck
    have HN := hid hnew
    obtain ⟨g, s, hg, rfl, hgb, hbel⟩ := hnew
    have z := HZ3.out.below hbel
    have z0 := z.c0
    have z1 := z.c1
    have z2 := z.c2
    have z3 := z.c3
    have z4 := z.c4
    have zf := z.fz
    clear hgb hbel z hg
    go_wp2_with fail
    obtain ⟨e1, e2⟩ := refuse_end (Nat.le_refl _) HB3.out HZ3.out HN.out
    exact ret_cell rfl rfl e1 ⟨_, rfl, e2⟩
  · have f2 : ¬ x.pr = 0 := by omega
    have f3 := ne_of f2
    have f4 := eq_of hxp
    clear hxp
    go_wp2_with fail
    refine hck.mono ?_
    rintro e w5 ⟨v, rfl, hnew⟩
    clear hck
    have HN := hid hnew
    obtain ⟨g, s, hg, rfl, hgb, hbel⟩ := hnew
    have z := HZ3.out.below hbel
    have z0 := z.c0
    have z1 := z.c1
    have z2 := z.c2
    have z3 := z.c3
    have z4 := z.c4
    have zf := z.fz
    clear hgb hbel z hg
    go_wp2_with fail
    obtain ⟨e1, e2⟩ := refuse_end (Nat.le_refl _) HB3.out HZ3.out HN.out
    exact ret_cell rfl rfl e1 ⟨_, rfl, e2⟩

end
end Go.Proofs.YbulkatmkFmt
