/-
  The walks of Settle: a pull request that is another issue's, and the moves.
-/
import Derived.Test.YbulkatmkFmtSettleD
namespace Go.Proofs.YbulkatmkFmt
open Go.ChangeShapes Go.WideShapes Go.ChangeAt Go.RowKit Go.Extern.Stop Go.Stop

section
variable {F : Interp} {P : Places} {w : World}

set_option maxRecDepth 100000 in
set_option maxHeartbeats 1600000 in
theorem move_other0 (h : Env F P w) (n : Int) (tt : ByteArray) (i : Nat) (x : Iss) (hi : noIdx n P.xs = some i) (hx : P.xs[i]? = some x) (hs : settledS x.state = true) (ht : targetS tt = true) (hr : (tt.toList == [114, 101, 97, 100, 121]) = false) (hd : (tt.toList == [100, 111, 110, 101]) = false) (hx0 : ¬ x.pr = 0) (hj : prIdx 0 P.xs = none) :
    Calls Ybaf.prog 7 #[.pointer (some ⟨P.L, 0, none⟩), .int .i64 n, .string tt, .int .i64 0] w (Moved (P.q i) ⟨x.issue, tt, 0, x.pr, x.branch⟩ w) := by
  have HK := hid (h.led.here i x hx).lt
  have hE := h.below (w8_below w)
  have hg1 := hE.set0
  have hst := (hE.led.here i x hx).c1
  have HE := hid hE
  have HZ := hid (zero_alloc w)
  have HX := hid hx
  clear h hE hx
  go_enter Ybaf.func7, Ybaf.ntmps7
  go_wp2_with fail
  refine (issue_hit HE.out.led n i hi).mono ?_
  rintro e w1 ⟨rfl, rfl⟩
  go_wp2_with fail
  go_quiet ((go_at_call 13; exact quiet_settled HE.out x.state _))
  go_wp2_with fail
  have hEq := HE.out.drewN nq
  have hzq : IssAt ((w8 w).drewN nq) w.heap.size zeroIss := HZ.out
  have hbq : Below w.heap.size w ((w8 w).drewN nq) := below_drewN (w8_below w) nq
  have HE2 := hid hEq
  have HZ2 := hid hzq
  have HB2 := hid hbq
  clear hEq hzq hbq hg1 hst HE HZ
  generalize (w8 w).drewN nq = wq at *
  refine (targets_any HE2.out.dues).mono ?_
  rintro e w3 ⟨v, rfl, hown, hb3⟩
  obtain ⟨gt, ct, rfl, _, _⟩ := hown.form (by omega)
  have HO3 := hid hown
  have HE3 := hid (HE2.out.below hb3)
  have HZ3 := hid (HZ2.out.below hb3)
  have HB3 := hid (HB2.out.trans (below_le hb3 HB2.out.size))
  clear hown hb3 HE2 HZ2 HB2
  go_wp2_with fail
  refine (contains_targets HO3.out tt).mono ?_
  rintro e w' ⟨rfl, rfl⟩
  have q3 := (HE3.out.led.here i x HX.out).c3
  have hix := HE3.out.led.here i x HX.out
  have q0 := hix.c0
  have q1 := hix.c1
  have q2 := hix.c2
  have q4 := hix.c4
  have qf := hix.fz
  have HI := hid hix
  have hk : P.q i < w.heap.size := HK.out
  have hk1 : ¬ P.q i = w.heap.size := by omega
  have hk2 : ¬ w.heap.size = P.q i := by omega
  have z := HZ3.out
  have z0 := z.c0
  have z1 := z.c1
  have z2 := z.c2
  have z3 := z.c3
  have z4 := z.c4
  have zf := z.fz
  clear z hix
  have f2 := ne_of hx0
  go_wp2_with fail
  refine (checkPR_none HE3.out.led 0 ⟨P.q i, 0, none⟩ hj).mono ?_
  rintro e w5 ⟨rfl, rfl⟩
  go_wp2_with fail
  obtain ⟨e1, e2, e3⟩ := ok_end HB3.out HZ3.out HK.out ((HI.out.set (o := 1) (v := .string tt) (y := ⟨x.issue, tt, x.fixes, x.pr, x.branch⟩) rfl).set (o := 2) (v := .int .i64 0) (y := ⟨x.issue, tt, 0, x.pr, x.branch⟩) rfl) (grown_setCell (grown_setCell (World.grownBy.refl w3 _)))
  exact ret_cell rfl rfl e1 ⟨rfl, e2, e3⟩

set_option maxRecDepth 100000 in
set_option maxHeartbeats 1600000 in
theorem move_done0 (h : Env F P w) (n : Int) (tt : ByteArray) (i : Nat) (x : Iss) (hi : noIdx n P.xs = some i) (hx : P.xs[i]? = some x) (hs : settledS x.state = true) (ht : targetS tt = true) (hr : (tt.toList == [114, 101, 97, 100, 121]) = false) (hd : (tt.toList == [100, 111, 110, 101]) = true) (hx0 : ¬ x.pr = 0) (hj : prIdx 0 P.xs = none) :
    Calls Ybaf.prog 7 #[.pointer (some ⟨P.L, 0, none⟩), .int .i64 n, .string tt, .int .i64 0] w (Moved (P.q i) ⟨x.issue, sDone, x.fixes, x.pr, x.branch⟩ w) := by
  have HK := hid (h.led.here i x hx).lt
  have hE := h.below (w8_below w)
  have hg1 := hE.set0
  have hst := (hE.led.here i x hx).c1
  have HE := hid hE
  have HZ := hid (zero_alloc w)
  have HX := hid hx
  clear h hE hx
  go_enter Ybaf.func7, Ybaf.ntmps7
  go_wp2_with fail
  refine (issue_hit HE.out.led n i hi).mono ?_
  rintro e w1 ⟨rfl, rfl⟩
  go_wp2_with fail
  go_quiet ((go_at_call 13; exact quiet_settled HE.out x.state _))
  go_wp2_with fail
  have hEq := HE.out.drewN nq
  have hzq : IssAt ((w8 w).drewN nq) w.heap.size zeroIss := HZ.out
  have hbq : Below w.heap.size w ((w8 w).drewN nq) := below_drewN (w8_below w) nq
  have HE2 := hid hEq
  have HZ2 := hid hzq
  have HB2 := hid hbq
  clear hEq hzq hbq hg1 hst HE HZ
  generalize (w8 w).drewN nq = wq at *
  refine (targets_any HE2.out.dues).mono ?_
  rintro e w3 ⟨v, rfl, hown, hb3⟩
  obtain ⟨gt, ct, rfl, _, _⟩ := hown.form (by omega)
  have HO3 := hid hown
  have HE3 := hid (HE2.out.below hb3)
  have HZ3 := hid (HZ2.out.below hb3)
  have HB3 := hid (HB2.out.trans (below_le hb3 HB2.out.size))
  clear hown hb3 HE2 HZ2 HB2
  go_wp2_with fail
  refine (contains_targets HO3.out tt).mono ?_
  rintro e w' ⟨rfl, rfl⟩
  have q3 := (HE3.out.led.here i x HX.out).c3
  have hix := HE3.out.led.here i x HX.out
  have q0 := hix.c0
  have q1 := hix.c1
  have q2 := hix.c2
  have q4 := hix.c4
  have qf := hix.fz
  have HI := hid hix
  have hk : P.q i < w.heap.size := HK.out
  have hk1 : ¬ P.q i = w.heap.size := by omega
  have hk2 : ¬ w.heap.size = P.q i := by omega
  have z := HZ3.out
  have z0 := z.c0
  have z1 := z.c1
  have z2 := z.c2
  have z3 := z.c3
  have z4 := z.c4
  have zf := z.fz
  clear z hix
  have f2 := ne_of hx0
  go_wp2_with fail
  refine (checkPR_none HE3.out.led 0 ⟨P.q i, 0, none⟩ hj).mono ?_
  rintro e w5 ⟨rfl, rfl⟩
  go_wp2_with fail
  obtain ⟨e1, e2, e3⟩ := ok_end HB3.out HZ3.out HK.out (HI.out.set (o := 1) (v := .string sDone) (y := ⟨x.issue, sDone, x.fixes, x.pr, x.branch⟩) rfl) (grown_setCell (World.grownBy.refl w3 _))
  exact ret_cell rfl rfl e1 ⟨rfl, e2, e3⟩

set_option maxRecDepth 100000 in
set_option maxHeartbeats 1600000 in
theorem move_ready (h : Env F P w) (n : Int) (tt : ByteArray) (i : Nat) (x : Iss) (hi : noIdx n P.xs = some i) (hx : P.xs[i]? = some x) (hs : settledS x.state = true) (ht : targetS tt = true) (hr : (tt.toList == [114, 101, 97, 100, 121]) = true) (hj : prIdx 0 P.xs = none) :
    Calls Ybaf.prog 7 #[.pointer (some ⟨P.L, 0, none⟩), .int .i64 n, .string tt, .int .i64 0] w (Moved (P.q i) ⟨n, sReady, 0, 0, ⟨#[]⟩⟩ w) := by
  have HK := hid (h.led.here i x hx).lt
  have hE := h.below (w8_below w)
  have hg1 := hE.set0
  have hst := (hE.led.here i x hx).c1
  have HE := hid hE
  have HZ := hid (zero_alloc w)
  have HX := hid hx
  clear h hE hx
  go_enter Ybaf.func7, Ybaf.ntmps7
  go_wp2_with fail
  refine (issue_hit HE.out.led n i hi).mono ?_
  rintro e w1 ⟨rfl, rfl⟩
  go_wp2_with fail
  go_quiet ((go_at_call 13; exact quiet_settled HE.out x.state _))
  go_wp2_with fail
  have hEq := HE.out.drewN nq
  have hzq : IssAt ((w8 w).drewN nq) w.heap.size zeroIss := HZ.out
  have hbq : Below w.heap.size w ((w8 w).drewN nq) := below_drewN (w8_below w) nq
  have HE2 := hid hEq
  have HZ2 := hid hzq
  have HB2 := hid hbq
  clear hEq hzq hbq hg1 hst HE HZ
  generalize (w8 w).drewN nq = wq at *
  refine (targets_any HE2.out.dues).mono ?_
  rintro e w3 ⟨v, rfl, hown, hb3⟩
  obtain ⟨gt, ct, rfl, _, _⟩ := hown.form (by omega)
  have HO3 := hid hown
  have HE3 := hid (HE2.out.below hb3)
  have HZ3 := hid (HZ2.out.below hb3)
  have HB3 := hid (HB2.out.trans (below_le hb3 HB2.out.size))
  clear hown hb3 HE2 HZ2 HB2
  go_wp2_with fail
  refine (contains_targets HO3.out tt).mono ?_
  rintro e w' ⟨rfl, rfl⟩
  have q3 := (HE3.out.led.here i x HX.out).c3
  have hix := HE3.out.led.here i x HX.out
  have q0 := hix.c0
  have q1 := hix.c1
  have q2 := hix.c2
  have q4 := hix.c4
  have qf := hix.fz
  have HI := hid hix
  have hk : P.q i < w.heap.size := HK.out
  have hk1 : ¬ P.q i = w.heap.size := by omega
  have hk2 : ¬ w.heap.size = P.q i := by omega
  have z := HZ3.out
  have z0 := z.c0
  have z1 := z.c1
  have z2 := z.c2
  have z3 := z.c3
  have z4 := z.c4
  have zf := z.fz
  clear z hix
  by_cases hx0 : x.pr = 0
  · have f2 := eq_of hx0
    have f3 := beq_of hx0
    clear hx0
    go_wp2_with fail
    refine (checkPR_none HE3.out.led 0 ⟨P.q i, 0, none⟩ hj).mono ?_
    rintro e w5 ⟨rfl, rfl⟩
    go_wp2_with fail
    obtain ⟨e1, e2, e3⟩ := ok_end HB3.out HZ3.out HK.out (put5_at HI.out ⟨n, sReady, 0, 0, ⟨#[]⟩⟩) (put5_grown w3 _ _)
    exact ret_cell rfl rfl e1 ⟨rfl, e2, e3⟩
  · have f2 := ne_of hx0
    go_wp2_with fail
    refine (checkPR_none HE3.out.led 0 ⟨P.q i, 0, none⟩ hj).mono ?_
    rintro e w5 ⟨rfl, rfl⟩
    go_wp2_with fail
    obtain ⟨e1, e2, e3⟩ := ok_end HB3.out HZ3.out HK.out (put5_at HI.out ⟨n, sReady, 0, 0, ⟨#[]⟩⟩) (put5_grown w3 _ _)
    exact ret_cell rfl rfl e1 ⟨rfl, e2, e3⟩

end
end Go.Proofs.YbulkatmkFmt
