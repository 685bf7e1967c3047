/-
  The walks of Settle that refuse: a state that is no target, and what follows.
-/
import Derived.Test.YbulkatmkFmtSettle
namespace Go.Proofs.YbulkatmkFmt
open Go.ChangeShapes Go.WideShapes Go.ChangeAt Go.RowKit Go.Extern.Stop Go.Stop

section
variable {F : Interp} {P : Places} {w : World}

theorem below_le {w w' : World} {B : Nat} (h : Below w.heap.size w w') (hB : B ≤ w.heap.size) : Below B w w' := ⟨h.os, h.tape, h.output, h.size, fun k hk => h.block k (Nat.lt_of_lt_of_le hk hB)⟩

theorem own_cells {w : World} {B g cap : Nat} {l : List ByteArray} (h : w.ownsRow B 9 1 (.slice (some ⟨g, 0, none⟩) l.length cap) l.length (strs l)) (j : Nat) (hj : j < l.length) : w.cell? ⟨g, j, none⟩ = some (.string l[j]) := by
  rw [h.cellAt j (by omega)]
  simp [strs, hj]

def tgs : List ByteArray := [sReady, sReviewDue, sFixDue, sDone]

theorem own_lt' {w : World} {B g n cap : Nat} {e : TypeId} {l : List Value} (h : w.ownsRow B e 1 (.slice (some ⟨g, 0, none⟩) n cap) n l) : g < w.heap.size := (h.lt g rfl).2
theorem own_cap {w : World} {B g n cap : Nat} {e : TypeId} {l : List Value} (h : w.ownsRow B e 1 (.slice (some ⟨g, 0, none⟩) n cap) n l) : n ≤ cap := by
  rcases h.2 with ⟨h1, _⟩ | ⟨g', cap', cur, h1, _, _, h2, _⟩
  · cases h1
  · simp only [Value.slice.injEq] at h1
    omega

theorem contains_targets {w : World} {B g cap : Nat} (h : w.ownsRow B 9 1 (.slice (some ⟨g, 0, none⟩) 4 cap) 4 (strs [sReady, sReviewDue, sFixDue, sDone])) (x : ByteArray) :
    Calls Ybaf.prog 13 #[.slice (some ⟨g, 0, none⟩) 4 cap, .string x] w fun e w' => e = .returned (.bool (targetS x)) ∧ w = w' :=
  (Ybaf.slices_Contains_string g 0 4 cap [sReady, sReviewDue, sFixDue, sDone] x w (by simp) (by omega) (fun j hj => by
    have hj4 : j < 4 := hj
    rw [Nat.zero_add, own_cells (l := tgs) h j hj4]
    rcases (show j = 0 ∨ j = 1 ∨ j = 2 ∨ j = 3 by omega) with rfl | rfl | rfl | rfl <;> rfl)).mono fun _ _ ⟨h1, h2⟩ => ⟨h1, h2.symm⟩

theorem join_targets {w : World} {B g cap : Nat} (h : w.ownsRow B 9 1 (.slice (some ⟨g, 0, none⟩) 4 cap) 4 (strs [sReady, sReviewDue, sFixDue, sDone])) (sep : ByteArray) (hsep : sep.size ≤ 100) :
    Calls Ybaf.prog 15 #[.slice (some ⟨g, 0, none⟩) 4 cap, .string sep] w fun e w' => ∃ t, e = .returned (.string t) ∧ Below w.heap.size w w' :=
  (Ybaf.strings_Join g 0 cap tgs sep w (fun j x hx => by
    obtain ⟨hj, e⟩ := List.getElem?_eq_some_iff.1 hx
    subst e
    rw [Nat.zero_add, own_cells (l := tgs) h j hj]) (own_lt' h) (show 4 ≤ 140737488355328 by omega) (own_cap h) (by
      have : sep.data.toList.length = sep.size := (Lib.size_eq sep).symm
      simp [Lib.join, tgs, sReady, sReviewDue, sFixDue, sDone]; omega)).mono fun _ _ ⟨h1, h2⟩ => ⟨_, h1, h2⟩

set_option maxRecDepth 100000 in
set_option maxHeartbeats 1600000 in
theorem settle_untarget (h : Env F P w) (n pr : Int) (tt : ByteArray) (i : Nat) (x : Iss) (hi : noIdx n P.xs = some i) (hx : P.xs[i]? = some x) (hs : settledS x.state = true) (ht : targetS tt = false) :
    Calls Ybaf.prog 7 #[.pointer (some ⟨P.L, 0, none⟩), .int .i64 n, .string tt, .int .i64 pr] w (Refused w) := by
  have hE := h.below (w8_below w)
  have hg1 := hE.set0
  have hst := (hE.led.here i x hx).c1
  have HE := hid hE
  have HZ := hid (zero_alloc w)
  have HX := hid hx
  clear h hE hx
  go_enter Ybaf.func7, Ybaf.ntmps7
  go_wp2_with fail
  refine (issue_hit HE.out.led n i hi).mono ?_
  rintro e w1 ⟨rfl, rfl⟩
  go_wp2_with fail
  go_quiet ((go_at_call 13; exact quiet_settled HE.out x.state _))
  go_wp2_with fail
  have hEq := HE.out.drewN nq
  have hzq : IssAt ((w8 w).drewN nq) w.heap.size zeroIss := HZ.out
  have hbq : Below w.heap.size w ((w8 w).drewN nq) := below_drewN (w8_below w) nq
  have HE2 := hid hEq
  have HZ2 := hid hzq
  have HB2 := hid hbq
  clear hEq hzq hbq hg1 hst HE HZ
  generalize (w8 w).drewN nq = wq at *
  refine (targets_any HE2.out.dues).mono ?_
  rintro e w3 ⟨v, rfl, hown, hb3⟩
  obtain ⟨gt, ct, rfl, _, _⟩ := hown.form (by omega)
  have HO3 := hid hown
  have HE3 := hid (HE2.out.below hb3)
  have HZ3 := hid (HZ2.out.below hb3)
  have HB3 := hid (HB2.out.trans (below_le hb3 HB2.out.size))
  clear hown hb3 HE2 HZ2 HB2
  go_wp2_with fail
  refine (contains_targets HO3.out tt).mono ?_
  rintro e w' ⟨rfl, rfl⟩
  go_wp2_with fail
  refine (join_targets HO3.out ⟨#[44, 32]⟩ (by decide)).mono ?_
  rintro e w4 ⟨t, rfl, hb4⟩
  have hF4 := (HE3.out.below hb4).hF
  go_wp2_with fail
  refine (errorf2 F n tt t w4.heap.size _ ?_ ?_ ?_ ?_).mono ?_
  · exact hF4
  · go_simp
  · go_simp
  · go_simp
  intro e w5 hx
  obtain ⟨v, rfl, hnew⟩ := hx.is (hb4.alloc hb4.size _)
  have HN := hid hnew
  obtain ⟨g, s, hg, rfl, hgb, hbel⟩ := hnew
  have z := HZ3.out.below hbel
  have z0 := z.c0
  have z1 := z.c1
  have z2 := z.c2
  have z3 := z.c3
  have z4 := z.c4
  have zf := z.fz
  clear hgb hbel z hg
  clear hF4 hb4
  go_wp2_with fail
  obtain ⟨e1, e2⟩ := refuse_end (Nat.le_refl _) HB3.out HZ3.out HN.out
  exact ret_cell rfl rfl e1 ⟨_, rfl, e2⟩

end
end Go.Proofs.YbulkatmkFmt
