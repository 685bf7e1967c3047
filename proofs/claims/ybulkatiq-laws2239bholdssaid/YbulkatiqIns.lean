/-
  The insertion sort of numbers, by a comparison that is handed in.
-/
import Derived.Test.YbulkatiqInts
namespace Go.Proofs.Ybulkatiq
open Go.ChangeShapes Go.WideShapes Go.ChangeAt Go.RowKit Go.Maps Go.WideMaps

/-- The function g, bound to cb, compares numbers below n: in every world that keeps what lay in w0. -/
def CmpOk (w0 : World) (g : Nat) (cb : Array Value) (n : Nat) (cmp : Nat → Nat → Int) : Prop :=
  ∀ (W : World) (k l : Nat), Below w0.heap.size w0 W → k < n → l < n → Calls Yba.prog g (#[.int .i32 (k : Nat), .int .i32 (l : Nat)] ++ cb) W fun e W' => e = .returned (.int .i64 (cmp k l)) ∧ Below W.heap.size W W'

/-- Place j is let down as long as it compares below its neighbour. -/
def down (cmp : Nat → Nat → Int) (d : List Nat) : Nat → List Nat
  | 0 => d
  | j + 1 => if cmp (d.getD (j + 1) 0) (d.getD j 0) < 0 then down cmp ((d.set (j + 1) (d.getD j 0)).set j (d.getD (j + 1) 0)) j else d

/-- The row in block b holds d. -/
structure RowD (w : World) (b n : Nat) (d : List Nat) : Prop where
  blk : ∃ cur, w.heap[b]? = some (.cells cur 21 (0, 0)) ∧ cur.size = n
  len : d.length = n
  each : ∀ i x, d[i]? = some x → x < n ∧ w.cell? ⟨b, i, none⟩ = some (.int .i32 (x : Nat))

theorem RowD.below {w w' : World} {b n : Nat} {d : List Nat} (h : RowD w b n d) (hb : Below w.heap.size w w') : RowD w' b n d := by
  obtain ⟨cur, h1, h2⟩ := h.blk
  exact ⟨⟨cur, (hb.block b (lt_of_block h1)).trans h1, h2⟩, h.len, fun i x hx => ⟨(h.each i x hx).1, (hb.cell (block_lt_of_cell (h.each i x hx).2)).trans (h.each i x hx).2⟩⟩

def insTo (cmp : Nat → Nat → Int) (d : List Nat) : Nat → List Nat
  | 0 => d
  | i + 1 => down cmp (insTo cmp d i) i

theorem down_stop {cmp : Nat → Nat → Int} {d : List Nat} {j jm x y : Nat} (hj : j = jm + 1) (hx : d[j]? = some x) (hy : d[jm]? = some y) (hc : decide (cmp x y < 0) = false) : down cmp d j = d := by
  subst hj
  rw [down, if_neg]
  simp only [List.getD, hx, hy, Option.getD_some]
  simpa using hc
theorem down_go {cmp : Nat → Nat → Int} {d : List Nat} {j jm x y : Nat} (hj : j = jm + 1) (hx : d[j]? = some x) (hy : d[jm]? = some y) (hc : decide (cmp x y < 0) = true) : down cmp d j = down cmp ((d.set j y).set jm x) jm := by
  subst hj
  rw [down, if_pos]
  · simp only [List.getD, hx, hy, Option.getD_some]
  · simp only [List.getD, hx, hy, Option.getD_some]
    simpa using hc

theorem RowD.swap {w : World} {b n : Nat} {d : List Nat} {j jm x y : Nat} (h : RowD w b n d) (hj : j = jm + 1) (hx : d[j]? = some x) (hy : d[jm]? = some y) : RowD ((w.setCell ⟨b, j, none⟩ (.int .i32 (y : Nat))).setCell ⟨b, jm, none⟩ (.int .i32 (x : Nat))) b n ((d.set j y).set jm x) := by
  obtain ⟨cur, h1, h2⟩ := h.blk
  have hlen := h.len
  have g1 := heap_setCell_same w b j _ 21 (.int .i32 (y : Nat)) h1
  have g2 := heap_setCell_same _ b jm _ 21 (.int .i32 (x : Nat)) g1
  have hjl : j < d.length := (List.getElem?_eq_some_iff.1 hx).1
  have hcell : ∀ i, ((w.setCell ⟨b, j, none⟩ (.int .i32 (y : Nat))).setCell ⟨b, jm, none⟩ (.int .i32 (x : Nat))).cell? ⟨b, i, none⟩ = ((cur.setIfInBounds j (.int .i32 (y : Nat))).setIfInBounds jm (.int .i32 (x : Nat)))[i]? := fun i => by simp [World.cell?, g2]
  have hold : ∀ i, w.cell? ⟨b, i, none⟩ = cur[i]? := fun i => by simp [World.cell?, h1]
  refine ⟨⟨_, g2, by simp [h2]⟩, by simp [hlen], fun i z hz => ?_⟩
  rw [hcell]
  by_cases e1 : i = jm
  · subst e1
    rw [List.getElem?_set_self (by simp; omega)] at hz
    simp only [Option.some.injEq] at hz
    subst hz
    exact ⟨(h.each j _ hx).1, by rw [Array.getElem?_setIfInBounds_self_of_lt (by simp; omega)]⟩
  · rw [List.getElem?_set_ne (fun e => e1 e.symm)] at hz
    rw [Array.getElem?_setIfInBounds_ne (fun e => e1 e.symm)]
    by_cases e2 : i = j
    · subst e2
      rw [List.getElem?_set_self hjl] at hz
      simp only [Option.some.injEq] at hz
      subst hz
      exact ⟨(h.each jm _ hy).1, by rw [Array.getElem?_setIfInBounds_self_of_lt (by omega)]⟩
    · rw [List.getElem?_set_ne (fun e => e2 e.symm)] at hz
      rw [Array.getElem?_setIfInBounds_ne (fun e => e2 e.symm), ← hold]
      exact h.each i z hz

def InsPost (w0 : World) (b n : Nat) (d : List Nat) (e : Ending) (w' : World) : Prop := e = .returned (.tuple #[]) ∧ RowD w' b n d ∧ Below w0.heap.size w0 w'

set_option maxRecDepth 100000 in
set_option maxHeartbeats 1600000 in
theorem ins70 {w0 w : World} {g b n : Nat} {cb : Array Value} {cmp : Nat → Nat → Int} {d : List Nat} (hC : CmpOk w0 g cb n cmp) (heg : ∀ args w, (callFunc g args).run Yba.prog w = .ok (.enter g args) w) (hB : Below w0.heap.size w0 w) (hb : w0.heap.size ≤ b) (h : RowD w b n d) (hn : n ≤ 16) (hpos : 0 < n) :
    Calls Yba.prog 70 #[.slice (some ⟨b, 0, none⟩) n n, .int .i64 0, .int .i64 n, .func (.func g) #[] cb] w (InsPost w0 b n (insTo cmp d n)) := by
  have HD := hid h
  have HB := hid hB
  have HC := hid hC
  clear h hB hC
  go_enter Yba.func70, Yba.ntmps70
  go_wp2_with fail
  go_loopw [8] (fun vi wr => ∃ (i : Nat) (d' : List Nat), 1 ≤ i ∧ i ≤ n ∧ vi = .int .i64 i ∧ RowD wr b n d' ∧ Below w0.heap.size w0 wr ∧ d' = insTo cmp d i) (fun vi _ => n + 1 - (intOf vi).toNat)
  case atStart => exact ⟨1, d, by omega, by omega, rfl, HD.out, HB.out, rfl⟩
  case round =>
    obtain ⟨i, d', hi, hin, rfl, hd, hb2, hdt⟩ := hrel
    have HDT := hid hdt
    clear HD HB hdt
    have HD := hid hd
    have HB := hid hb2
    clear hd hb2
    rcases Nat.lt_or_ge i n with hlt | hge
    · have t1 : (i : Int) < (n : Int) := by omega
      generalize wr = wo at *
      go_wp2_with fail
      go_loopw [9] (fun vj wr => ∃ (j : Nat) (d2 : List Nat), j ≤ i ∧ vj = .int .i64 j ∧ RowD wr b n d2 ∧ Below w0.heap.size w0 wr ∧ down cmp d2 j = down cmp d' i) (fun vj _ => (intOf vj).toNat)
      case atStart => exact ⟨i, d', by omega, rfl, HD.out, HB.out, rfl⟩
      case round =>
        obtain ⟨j, d2, hj, rfl, hd, hb2, hdn⟩ := hrel
        clear HD HB
        have HD := hid hd
        have HB := hid hb2
        have HDN := hid hdn
        clear hd hb2 hdn
        rcases Nat.eq_zero_or_pos j with h0 | h0
        · subst h0
          have HB9 := hid (fun q => below_drewN HB.out q)
          have HD9 := hid (fun q => HD.out.below (below_drewN (Below.refl _ _) q))
          go_wp2_with fail
          go_quiet (fail)
          go_wp2_with fail
          exact ⟨⟨i + 1, d2, by omega, by omega, rfl, HD9.out _, HB9.out _, by rw [insTo, ← HDT.out, ← HDN.out]; rfl⟩, by simp [intOf]; omega⟩
        · obtain ⟨jm, hjm⟩ : ∃ jm, j = jm + 1 := ⟨j - 1, by omega⟩
          have hlen := HD.out.len
          obtain ⟨x, hx⟩ : ∃ x, d2[j]? = some x := ⟨d2[j]'(by omega), by simp [show j < d2.length by omega]⟩
          obtain ⟨y, hy⟩ : ∃ y, d2[jm]? = some y := ⟨d2[jm]'(by omega), by simp [show jm < d2.length by omega]⟩
          obtain ⟨hx1, cx⟩ := HD.out.each _ x hx
          obtain ⟨hy1, cy⟩ := HD.out.each _ y hy
          have t2 : (0 : Int) < (j : Int) := by omega
          have t3 : (j : Int) < (n : Int) := by omega
          have t4 : (jm : Int) < (n : Int) := by omega
          have t5 : (0 : Int) ≤ (j : Int) := by omega
          have t6 : (0 : Int) ≤ (jm : Int) := by omega
          have hw : IntKind.i64.wrap ((j : Int) - 1) = (jm : Int) := by
            simp [IntKind.wrap, IntKind.bits, IntKind.signed]
            omega
          have HX := hid hx
          have HY := hid hy
          have HJM := hid hjm
          clear hx hy hjm
          have kx : wr.drew.cell? ⟨b, j, none⟩ = some (.int .i32 (x : Nat)) := cx
          have ky : wr.drew.cell? ⟨b, jm, none⟩ = some (.int .i32 (y : Nat)) := cy
          have hcall := HC.out wr.drew x y (HB.out.drew) hx1 hy1
          go_upto_region 4 with fail
          go_cut [34] from 18 to 34 (fun v wx => v = .bool (decide (cmp x y < 0)) ∧ Below wr.heap.size wr wx)
          case first =>
            go_region_held3 (fun wx => wx.cell? ⟨b, j, none⟩ = some (.int .i32 (x : Nat)) ∧ wx.cell? ⟨b, jm, none⟩ = some (.int .i32 (y : Nat)))
              (first | exact ⟨by assumption, by assumption⟩ | go_keep)
              ((refine hcall.mono ?_; rintro e w' ⟨rfl, hb3⟩; have hbn : Below wr.heap.size wr w' := (Below.refl wr.heap.size wr).drew.trans (below_le hb3 (Nat.le_refl _)); have k1 := (hbn.cell (block_lt_of_cell cx)).trans cx; have k2 := (hbn.cell (block_lt_of_cell cy)).trans cy))
            go_wp2_with fail
            go_meet
            case rel => exact ⟨rfl, hbn⟩
          case rest =>
            obtain ⟨rfl, hbn⟩ := hcut
            have HD2 := hid (HD.out.below hbn)
            have HB2 := hid (HB.out.trans (below_le hbn HB.out.size))
            have q1 := (hbn.cell (block_lt_of_cell cx)).trans cx
            have q2 := (hbn.cell (block_lt_of_cell cy)).trans cy
            have hfz : ∀ i, wc.frozen? ⟨b, i, none⟩ = false := fun i => by obtain ⟨cur, h1, _⟩ := HD2.out.blk; simp [World.frozen?, h1]
            clear kx ky cx cy hcall hbn
            cases hc : decide (cmp x y < 0)
            · have HST := hid (down_stop HJM.out HX.out HY.out hc)
              go_wp2_with fail
              exact ⟨⟨i + 1, d2, by omega, by omega, rfl, HD2.out, HB2.out, by rw [insTo, ← HDT.out, ← HDN.out, HST.out]⟩, by simp [intOf]; omega⟩
            · have HGO := hid (down_go HJM.out HX.out HY.out hc)
              have hne1 : ¬ j = jm := by have := HJM.out; omega
              have hne2 : ¬ jm = j := by have := HJM.out; omega
              have q3 : (wc.setCell ⟨b, j, none⟩ (.int .i32 (y : Nat))).cell? ⟨b, jm, none⟩ = some (.int .i32 (y : Nat)) := by
                obtain ⟨cur, h1, _⟩ := HD2.out.blk
                have g1 := heap_setCell_same wc b j _ 21 (.int .i32 (y : Nat)) h1
                have q2' := q2
                simp [World.cell?, h1] at q2'
                simp [World.cell?, g1, Array.getElem?_setIfInBounds_ne hne1, q2']
              have q4 : (wc.setCell ⟨b, j, none⟩ (.int .i32 (y : Nat))).frozen? ⟨b, jm, none⟩ = false := by
                obtain ⟨cur, h1, _⟩ := HD2.out.blk
                have g1 := heap_setCell_same wc b j _ 21 (.int .i32 (y : Nat)) h1
                simp [World.frozen?, g1]
              have HSW := hid (HD2.out.swap HJM.out HX.out HY.out)
              have HBS := hid (show Below w0.heap.size w0 ((wc.setCell ⟨b, j, none⟩ (.int .i32 (y : Nat))).setCell ⟨b, jm, none⟩ (.int .i32 (x : Nat))) from HB2.out.grown (grown_setCell (grown_setCell (World.grownBy.refl wc _))) HB2.out.size (fun k hk => by simp only [Option.some.injEq] at hk; omega))
              go_wp2_with fail
              go_region
              go_wp2_with fail
              exact ⟨⟨jm, _, by have := HJM.out; omega, rfl, HSW.out.below ((Below.refl _ _).drew), HBS.out.drew, by rw [← HGO.out, HDN.out]⟩, by have := HJM.out; simp [intOf]; omega⟩
    · have : i = n := by omega
      subst this
      have t1 : ¬ (i : Int) < (i : Int) := by omega
      go_wp2_with fail
      go_end0
      exact ⟨rfl, by rw [← HDT.out]; exact HD.out, HB.out⟩

set_option maxRecDepth 100000 in
set_option maxHeartbeats 1600000 in
theorem stable64 {w0 w : World} {g b n : Nat} {cb : Array Value} {cmp : Nat → Nat → Int} {d : List Nat} (hC : CmpOk w0 g cb n cmp) (heg : ∀ args w, (callFunc g args).run Yba.prog w = .ok (.enter g args) w) (hB : Below w0.heap.size w0 w) (hb : w0.heap.size ≤ b) (h : RowD w b n d) (hn : n ≤ 16) (hpos : 0 < n) :
    Calls Yba.prog 64 #[.slice (some ⟨b, 0, none⟩) n n, .int .i64 n, .func (.func g) #[] cb] w (InsPost w0 b n (insTo cmp d n)) := by
  have HI := hid (ins70 hC heg hB hb h hn hpos)
  clear hC hB h
  have t1 : ¬ (20 : Int) ≤ (n : Int) := by omega
  have t2 : ¬ (20 : Int) < (n : Int) := by omega
  go_enter Yba.func64, Yba.ntmps64
  go_wp2_with fail
  refine wp_loop_rounds 1 ?_
  rw [rounds_succ]
  go_wp2_with fail
  refine HI.out.mono ?_
  rintro e w' ⟨rfl, h1, h2⟩
  go_wp2_with fail
  refine wp_loop_rounds 1 ?_
  rw [rounds_succ]
  go_wp2_with fail
  go_end0
  exact ⟨rfl, h1, h2⟩

set_option maxRecDepth 100000 in
theorem sortStable51 {w0 w : World} {g b n : Nat} {cb : Array Value} {cmp : Nat → Nat → Int} {d : List Nat} (hC : CmpOk w0 g cb n cmp) (heg : ∀ args w, (callFunc g args).run Yba.prog w = .ok (.enter g args) w) (hB : Below w0.heap.size w0 w) (hb : w0.heap.size ≤ b) (h : RowD w b n d) (hn : n ≤ 16) (hpos : 0 < n) :
    Calls Yba.prog 51 #[.slice (some ⟨b, 0, none⟩) n n, .func (.func g) #[] cb] w (InsPost w0 b n (insTo cmp d n)) := by
  have HI := hid (stable64 hC heg hB hb h hn hpos)
  clear hC hB h
  go_enter Yba.func51, Yba.ntmps51
  go_wp2_with fail
  refine HI.out.mono ?_
  rintro e w' ⟨rfl, h1, h2⟩
  go_wp2_with fail
  go_end0
  exact ⟨rfl, h1, h2⟩
end Go.Proofs.Ybulkatiq
