/-
  The walks of Settle that refuse.
-/
import Derived.Test.YbulkatmkFmtEnv
import Derived.BigQuiet
import Derived.Deep.QuietTactic
import Derived.Deep.RegionWith
import Derived.Deep.DeepCutAuto
import Derived.WalkSmall
namespace Go.Proofs.YbulkatmkFmt
open Go.ChangeShapes Go.WideShapes Go.ChangeAt Go.RowKit Go.Extern.Stop Go.Stop

def settledS (x : ByteArray) : Bool := Lib.containsS [sFailed, sManual] x
def targetS (x : ByteArray) : Bool := Lib.containsS [sReady, sReviewDue, sFixDue, sDone] x

section
variable {F : Interp} {P : Places} {w : World}

theorem contains_settled (h : Env F P w) (x : ByteArray) :
    Calls Ybaf.prog 13 #[.slice (some ⟨P.sb, P.so, none⟩) 2 P.sc, .string x] w fun e w' => e = .returned (.bool (settledS x)) ∧ w = w' :=
  (Ybaf.slices_Contains_string P.sb P.so 2 P.sc [sFailed, sManual] x w (by simp) (by omega) (fun j hj => by
    match j, hj with
    | 0, _ => exact h.set2
    | 1, _ => exact h.set3)).mono fun _ _ ⟨h1, h2⟩ => ⟨h1, h2.symm⟩

theorem join_settled (h : Env F P w) (sep : ByteArray) (hsep : sep.size ≤ 100) :
    Calls Ybaf.prog 15 #[.slice (some ⟨P.sb, P.so, none⟩) 2 P.sc, .string sep] w fun e w' => ∃ t, e = .returned (.string t) ∧ Below w.heap.size w w' :=
  (Ybaf.strings_Join P.sb P.so P.sc [sFailed, sManual] sep w (fun j x hx => by
    match j, hx with
    | 0, hx => simp at hx; subst hx; exact h.set2
    | 1, hx => simp at hx; subst hx; exact h.set3) (block_lt_of_cell h.set2) (show 2 ≤ 140737488355328 by omega) h.set1 (by
      have : sep.data.toList.length = sep.size := (Lib.size_eq sep).symm
      simp [Lib.join, sFailed, sManual]; omega)).mono fun _ _ ⟨h1, h2⟩ => ⟨_, h1, h2⟩

theorem Env.drewN (h : Env F P w) (k : Nat) : Env F P (w.drewN k) := h.below (below_drewN (Below.refl _ _) k)

theorem below_drew_left {w w' : World} (h : Below w.drew.heap.size w.drew w') : Below w.heap.size w w' := ⟨h.os, h.tape, h.output, h.size, h.block⟩

theorem quiet_settled (h : Env F P w) (x : ByteArray) (k : Nat) :
    Calls Ybaf.prog 13 #[.slice (some ⟨P.sb, P.so, none⟩) 2 P.sc, .string x] (w.drewN k) fun e w' => e = .returned (.bool (settledS x)) ∧ ∃ m, w' = w.drewN m :=
  (contains_settled (h.drewN k) x).mono fun _ _ ⟨h1, h2⟩ => ⟨h1, k, h2.symm⟩

set_option maxRecDepth 100000 in
set_option maxHeartbeats 1600000 in
theorem settle_unsettled (h : Env F P w) (n pr : Int) (tt : ByteArray) (i : Nat) (x : Iss) (hi : noIdx n P.xs = some i) (hx : P.xs[i]? = some x) (hs : settledS x.state = false) :
    Calls Ybaf.prog 7 #[.pointer (some ⟨P.L, 0, none⟩), .int .i64 n, .string tt, .int .i64 pr] w (Refused w) := by
  have hE := h.below (w8_below w)
  have hg1 := hE.set0
  have hst := (hE.led.here i x hx).c1
  have HE := hid hE
  have HZ := hid (zero_alloc w)
  have HX := hid hx
  clear h hE hx
  go_enter Ybaf.func7, Ybaf.ntmps7
  go_wp2_with fail
  refine (issue_hit HE.out.led n i hi).mono ?_
  rintro e w1 ⟨rfl, rfl⟩
  go_wp2_with fail
  go_quiet ((go_at_call 13; exact quiet_settled HE.out x.state _))
  go_wp2_with fail
  have hEq := HE.out.drewN nq
  have hzq : IssAt ((w8 w).drewN nq) w.heap.size zeroIss := HZ.out
  have hbq : Below w.heap.size w ((w8 w).drewN nq) := below_drewN (w8_below w) nq
  have hgq := hEq.set0
  have hsq := (hEq.led.here i x HX.out).c1
  have HE2 := hid hEq
  have HZ2 := hid hzq
  have HB2 := hid hbq
  clear hEq hzq hbq hg1 hst HE HZ
  generalize (w8 w).drewN nq = wq at *
  have hj := join_settled (HE2.out.below (Below.refl _ _).drew) ⟨#[32, 111, 114, 32]⟩ (by decide)
  go_region_with (first | (go_at_call 15; refine hj.mono ?_; rintro e w2 ⟨t, rfl, hb2⟩; have hq2 := below_drew_left hb2; have hs2 := ((HE2.out.below hq2).led.here i x HX.out).c1; have hF2 := (HE2.out.below hq2).hF; clear hb2) | (go_at_call 14; refine (errorf1 F n x.state t w2.heap.size _ ?_ ?_ ?_ ?_).mono ?_; exact hF2; go_simp; go_simp; go_simp; intro e w3 hx; obtain ⟨v, rfl, hnew⟩ := hx.is (hq2.alloc hq2.size _); have HN := hid hnew; obtain ⟨g, s, hg, rfl, hgb, hbel⟩ := hnew; have z := HZ2.out.below hbel; have z0 := z.c0; have z1 := z.c1; have z2 := z.c2; have z3 := z.c3; have z4 := z.c4; have zf := z.fz; clear hgb hbel z hg))
  all_goals (try go_wp2_with fail)
  all_goals
    obtain ⟨e1, e2⟩ := refuse_end (Nat.le_refl _) HB2.out HZ2.out HN.out
    exact ret_cell rfl rfl e1 ⟨_, rfl, e2⟩
end
end Go.Proofs.YbulkatmkFmt
