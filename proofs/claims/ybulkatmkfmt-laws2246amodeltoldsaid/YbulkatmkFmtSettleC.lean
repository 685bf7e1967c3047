/-
  The walks of Settle that refuse: the pull request.
-/
import Derived.Test.YbulkatmkFmtSettleB
namespace Go.Proofs.YbulkatmkFmt
open Go.ChangeShapes Go.WideShapes Go.ChangeAt Go.RowKit Go.Extern.Stop Go.Stop

theorem ne_of {a b : Int} (h : ¬ a = b) : (a != b) = true := by simp [h]
theorem eq_of {a b : Int} (h : a = b) : (a != b) = false := by simp [h]

theorem cell_grown {w w' : World} {p g o : Nat} (gr : w.grownBy w' (some p)) (hne : g ≠ p) (hlt : g < w.heap.size) : w'.cell? ⟨g, o, none⟩ = w.cell? ⟨g, o, none⟩ := by
  have := gr.block g hlt (fun e => hne (Option.some.inj e))
  unfold World.cell?
  rw [this]

/-- What a Settle that lacks a pull request leaves: the zero issue, a new error that wraps x. -/
def RefusedNoPR (x : Value) (w : World) (e : Ending) (w' : World) : Prop :=
  ∃ g, w.heap.size ≤ g ∧ e = .returned (.tuple #[.agg zeroIss.cells, .iface 82 (.pointer (some ⟨g, 0, none⟩))]) ∧ w'.cell? ⟨g, 0 + 1, none⟩ = some x ∧ Below w.heap.size w w'

section
variable {F : Interp} {P : Places} {w : World}

set_option maxRecDepth 100000 in
set_option maxHeartbeats 1600000 in
theorem settle_neg (h : Env F P w) (n pr : Int) (tt : ByteArray) (i : Nat) (x : Iss) (hi : noIdx n P.xs = some i) (hx : P.xs[i]? = some x) (hs : settledS x.state = true) (ht : targetS tt = true) (hpr : pr < 0) :
    Calls Ybaf.prog 7 #[.pointer (some ⟨P.L, 0, none⟩), .int .i64 n, .string tt, .int .i64 pr] w (Refused w) := by
  have hE := h.below (w8_below w)
  have hg1 := hE.set0
  have hst := (hE.led.here i x hx).c1
  have HE := hid hE
  have HZ := hid (zero_alloc w)
  have HX := hid hx
  clear h hE hx
  go_enter Ybaf.func7, Ybaf.ntmps7
  go_wp2_with fail
  refine (issue_hit HE.out.led n i hi).mono ?_
  rintro e w1 ⟨rfl, rfl⟩
  go_wp2_with fail
  go_quiet ((go_at_call 13; exact quiet_settled HE.out x.state _))
  go_wp2_with fail
  have hEq := HE.out.drewN nq
  have hzq : IssAt ((w8 w).drewN nq) w.heap.size zeroIss := HZ.out
  have hbq : Below w.heap.size w ((w8 w).drewN nq) := below_drewN (w8_below w) nq
  have HE2 := hid hEq
  have HZ2 := hid hzq
  have HB2 := hid hbq
  clear hEq hzq hbq hg1 hst HE HZ
  generalize (w8 w).drewN nq = wq at *
  refine (targets_any HE2.out.dues).mono ?_
  rintro e w3 ⟨v, rfl, hown, hb3⟩
  obtain ⟨gt, ct, rfl, _, _⟩ := hown.form (by omega)
  have HO3 := hid hown
  have HE3 := hid (HE2.out.below hb3)
  have HZ3 := hid (HZ2.out.below hb3)
  have HB3 := hid (HB2.out.trans (below_le hb3 HB2.out.size))
  clear hown hb3 HE2 HZ2 HB2
  go_wp2_with fail
  refine (contains_targets HO3.out tt).mono ?_
  rintro e w' ⟨rfl, rfl⟩
  go_wp2_with fail
  refine (errorf3 F pr w3.heap.size _ ?_ ?_).mono ?_
  · exact HE3.out.hF
  · go_simp
  intro e w5 hx
  obtain ⟨v, rfl, hnew⟩ := hx.is ((Below.refl _ _).alloc (Nat.le_refl _) _)
  have HN := hid hnew
  obtain ⟨g, s, hg, rfl, hgb, hbel⟩ := hnew
  have z := HZ3.out.below hbel
  have z0 := z.c0
  have z1 := z.c1
  have z2 := z.c2
  have z3 := z.c3
  have z4 := z.c4
  have zf := z.fz
  clear hgb hbel z hg
  go_wp2_with fail
  obtain ⟨e1, e2⟩ := refuse_end (Nat.le_refl _) HB3.out HZ3.out HN.out
  exact ret_cell rfl rfl e1 ⟨_, rfl, e2⟩

set_option maxRecDepth 100000 in
set_option maxHeartbeats 1600000 in
theorem settle_ready (h : Env F P w) (n pr : Int) (tt : ByteArray) (i : Nat) (x : Iss) (hi : noIdx n P.xs = some i) (hx : P.xs[i]? = some x) (hs : settledS x.state = true) (ht : targetS tt = true) (hpr : ¬ pr < 0) (hz : ¬ pr = 0) (hr : (tt.toList == [114, 101, 97, 100, 121]) = true) :
    Calls Ybaf.prog 7 #[.pointer (some ⟨P.L, 0, none⟩), .int .i64 n, .string tt, .int .i64 pr] w (Refused w) := by
  have hE := h.below (w8_below w)
  have hg1 := hE.set0
  have hst := (hE.led.here i x hx).c1
  have HE := hid hE
  have HZ := hid (zero_alloc w)
  have HX := hid hx
  clear h hE hx
  go_enter Ybaf.func7, Ybaf.ntmps7
  go_wp2_with fail
  refine (issue_hit HE.out.led n i hi).mono ?_
  rintro e w1 ⟨rfl, rfl⟩
  go_wp2_with fail
  go_quiet ((go_at_call 13; exact quiet_settled HE.out x.state _))
  go_wp2_with fail
  have hEq := HE.out.drewN nq
  have hzq : IssAt ((w8 w).drewN nq) w.heap.size zeroIss := HZ.out
  have hbq : Below w.heap.size w ((w8 w).drewN nq) := below_drewN (w8_below w) nq
  have HE2 := hid hEq
  have HZ2 := hid hzq
  have HB2 := hid hbq
  clear hEq hzq hbq hg1 hst HE HZ
  generalize (w8 w).drewN nq = wq at *
  refine (targets_any HE2.out.dues).mono ?_
  rintro e w3 ⟨v, rfl, hown, hb3⟩
  obtain ⟨gt, ct, rfl, _, _⟩ := hown.form (by omega)
  have HO3 := hid hown
  have HE3 := hid (HE2.out.below hb3)
  have HZ3 := hid (HZ2.out.below hb3)
  have HB3 := hid (HB2.out.trans (below_le hb3 HB2.out.size))
  clear hown hb3 HE2 HZ2 HB2
  go_wp2_with fail
  refine (contains_targets HO3.out tt).mono ?_
  rintro e w' ⟨rfl, rfl⟩
  have f1 := ne_of hz
  go_wp2_with fail
  refine (errorf4 F n w3.heap.size _ ?_ ?_).mono ?_
  · exact HE3.out.hF
  · go_simp
  intro e w5 hx
  obtain ⟨v, rfl, hnew⟩ := hx.is ((Below.refl _ _).alloc (Nat.le_refl _) _)
  have HN := hid hnew
  obtain ⟨g, s, hg, rfl, hgb, hbel⟩ := hnew
  have z := HZ3.out.below hbel
  have z0 := z.c0
  have z1 := z.c1
  have z2 := z.c2
  have z3 := z.c3
  have z4 := z.c4
  have zf := z.fz
  clear hgb hbel z hg
  go_wp2_with fail
  obtain ⟨e1, e2⟩ := refuse_end (Nat.le_refl _) HB3.out HZ3.out HN.out
  exact ret_cell rfl rfl e1 ⟨_, rfl, e2⟩

set_option maxRecDepth 100000 in
set_option maxHeartbeats 1600000 in
theorem settle_has (h : Env F P w) (n pr : Int) (tt : ByteArray) (i : Nat) (x : Iss) (hi : noIdx n P.xs = some i) (hx : P.xs[i]? = some x) (hs : settledS x.state = true) (ht : targetS tt = true) (hpr : ¬ pr < 0) (hz : ¬ pr = 0) (hr : (tt.toList == [114, 101, 97, 100, 121]) = false) (hx0 : ¬ x.pr = 0) (hxp : ¬ pr = x.pr) :
    Calls Ybaf.prog 7 #[.pointer (some ⟨P.L, 0, none⟩), .int .i64 n, .string tt, .int .i64 pr] w (Refused w) := by
  have hE := h.below (w8_below w)
  have hg1 := hE.set0
  have hst := (hE.led.here i x hx).c1
  have HE := hid hE
  have HZ := hid (zero_alloc w)
  have HX := hid hx
  clear h hE hx
  go_enter Ybaf.func7, Ybaf.ntmps7
  go_wp2_with fail
  refine (issue_hit HE.out.led n i hi).mono ?_
  rintro e w1 ⟨rfl, rfl⟩
  go_wp2_with fail
  go_quiet ((go_at_call 13; exact quiet_settled HE.out x.state _))
  go_wp2_with fail
  have hEq := HE.out.drewN nq
  have hzq : IssAt ((w8 w).drewN nq) w.heap.size zeroIss := HZ.out
  have hbq : Below w.heap.size w ((w8 w).drewN nq) := below_drewN (w8_below w) nq
  have HE2 := hid hEq
  have HZ2 := hid hzq
  have HB2 := hid hbq
  clear hEq hzq hbq hg1 hst HE HZ
  generalize (w8 w).drewN nq = wq at *
  refine (targets_any HE2.out.dues).mono ?_
  rintro e w3 ⟨v, rfl, hown, hb3⟩
  obtain ⟨gt, ct, rfl, _, _⟩ := hown.form (by omega)
  have HO3 := hid hown
  have HE3 := hid (HE2.out.below hb3)
  have HZ3 := hid (HZ2.out.below hb3)
  have HB3 := hid (HB2.out.trans (below_le hb3 HB2.out.size))
  clear hown hb3 HE2 HZ2 HB2
  go_wp2_with fail
  refine (contains_targets HO3.out tt).mono ?_
  rintro e w' ⟨rfl, rfl⟩
  have q3 := (HE3.out.led.here i x HX.out).c3
  have f1 := ne_of hz
  have f2 := ne_of hx0
  have f3 := ne_of hxp
  go_wp2_with fail
  refine (errorf5 F n x.pr w3.heap.size _ ?_ ?_ ?_).mono ?_
  · exact HE3.out.hF
  · go_simp
  · go_simp
  intro e w5 hx
  obtain ⟨v, rfl, hnew⟩ := hx.is ((Below.refl _ _).alloc (Nat.le_refl _) _)
  have HN := hid hnew
  obtain ⟨g, s, hg, rfl, hgb, hbel⟩ := hnew
  have z := HZ3.out.below hbel
  have z0 := z.c0
  have z1 := z.c1
  have z2 := z.c2
  have z3 := z.c3
  have z4 := z.c4
  have zf := z.fz
  clear hgb hbel z hg
  go_wp2_with fail
  obtain ⟨e1, e2⟩ := refuse_end (Nat.le_refl _) HB3.out HZ3.out HN.out
  exact ret_cell rfl rfl e1 ⟨_, rfl, e2⟩

set_option maxRecDepth 100000 in
set_option maxHeartbeats 1600000 in
theorem settle_nopr (h : Env F P w) (n pr : Int) (tt : ByteArray) (i : Nat) (x : Iss) (hi : noIdx n P.xs = some i) (hx : P.xs[i]? = some x) (hs : settledS x.state = true) (ht : targetS tt = true) (hz : pr = 0) (hr : (tt.toList == [114, 101, 97, 100, 121]) = false) (hx0 : x.pr = 0) :
    Calls Ybaf.prog 7 #[.pointer (some ⟨P.L, 0, none⟩), .int .i64 n, .string tt, .int .i64 pr] w (RefusedNoPR (.iface 104 (.pointer (some P.ea))) w) := by
  have hE := h.below (w8_below w)
  have hg1 := hE.set0
  have hst := (hE.led.here i x hx).c1
  have HE := hid hE
  have HZ := hid (zero_alloc w)
  have HX := hid hx
  clear h hE hx
  go_enter Ybaf.func7, Ybaf.ntmps7
  go_wp2_with fail
  refine (issue_hit HE.out.led n i hi).mono ?_
  rintro e w1 ⟨rfl, rfl⟩
  go_wp2_with fail
  go_quiet ((go_at_call 13; exact quiet_settled HE.out x.state _))
  go_wp2_with fail
  have hEq := HE.out.drewN nq
  have hzq : IssAt ((w8 w).drewN nq) w.heap.size zeroIss := HZ.out
  have hbq : Below w.heap.size w ((w8 w).drewN nq) := below_drewN (w8_below w) nq
  have HE2 := hid hEq
  have HZ2 := hid hzq
  have HB2 := hid hbq
  clear hEq hzq hbq hg1 hst HE HZ
  generalize (w8 w).drewN nq = wq at *
  refine (targets_any HE2.out.dues).mono ?_
  rintro e w3 ⟨v, rfl, hown, hb3⟩
  obtain ⟨gt, ct, rfl, _, _⟩ := hown.form (by omega)
  have HO3 := hid hown
  have HE3 := hid (HE2.out.below hb3)
  have HZ3 := hid (HZ2.out.below hb3)
  have HB3 := hid (HB2.out.trans (below_le hb3 HB2.out.size))
  clear hown hb3 HE2 HZ2 HB2
  go_wp2_with fail
  refine (contains_targets HO3.out tt).mono ?_
  rintro e w' ⟨rfl, rfl⟩
  have hpr : ¬ pr < 0 := by omega
  have q3 := (HE3.out.led.here i x HX.out).c3
  have g0 := HE3.out.err0
  have f0 := eq_of hx0
  have f1 := eq_of hz
  go_wp2_with fail
  refine (errorf6 F n P.ea P.et tt w3.heap.size _ ?_ ?_ ?_ ?_ ?_).mono ?_
  · exact HE3.out.hF
  · go_simp
  · go_simp
  · go_simp
  · rw [((Below.refl _ _).alloc (Nat.le_refl _) _ : Below w3.heap.size w3 (w3.alloc _)).cell (block_lt_of_cell HE3.out.err1)]; exact HE3.out.err1
  rintro e w5 ⟨g, hg, rfl, hgc, hbel⟩
  have hb5 : Below w3.heap.size w3 w5 := ((Below.refl _ _).alloc (Nat.le_refl _) _ : Below w3.heap.size w3 (w3.alloc _)).trans (below_le hbel (by simp))
  have hg3 : w3.heap.size ≤ g := Nat.le_trans (by simp) hg
  have HC := hid hgc
  have HB5 := hid hb5
  have z := HZ3.out.below hb5
  have HZ5 := hid z
  have z0 := z.c0
  have z1 := z.c1
  have z2 := z.c2
  have z3 := z.c3
  have z4 := z.c4
  have zf := z.fz
  clear hgc hb5 z hbel g0
  go_wp2_with fail
  have e1 := put5_at HZ5.out zeroIss
  have gr := put5_grown w5 w.heap.size zeroIss
  have hlt := HZ3.out.lt
  have hs3 := HB3.out.size
  refine ret_cell rfl rfl e1 ⟨g, by omega, rfl, ?_, ?_⟩
  · exact (cell_grown (g := g) (o := 0 + 1) gr (by omega) (block_lt_of_cell HC.out)).trans HC.out
  · exact (HB3.out.trans (below_le HB5.out hs3)).grown gr (HB3.out.trans (below_le HB5.out hs3)).size (fun k hk => by simp only [Option.some.injEq] at hk; omega)

end
end Go.Proofs.YbulkatmkFmt
