/-
  LawS2239BWell, walked.
-/
import Derived.Test.YbulkatiqCombine
import Derived.Test.YbulkatiqOpenB
import Derived.Test.YbulkatiqWell
set_option linter.unusedVariables false
set_option linter.unusedSimpArgs false
namespace Go.Proofs.Ybulkatiq
open Go.ChangeShapes Go.WideShapes Go.ChangeAt Go.RowKit Go.Maps Go.WideMaps

theorem Dat.size (d : Dat) : d.cells.size = 27 := rfl

theorem loads33 {W : World} {b : Nat} {C : Array Value} (hC : C.size = 27) (h : W.heap[b]? = some (.cells C 33 (0, 0))) : (loadCells ⟨b, 0, none⟩ 27).run Yba.prog W = .ok C W := by
  have e := run_loadCells_list (P := Yba.prog) W ⟨b, 0, none⟩ C.toList (fun j v hj => by
    rw [add_plain]
    simp only [World.cell?, h]
    simpa using hj)
  rw [Array.length_toList, hC, Array.toArray_toList] at e
  exact e

theorem exec_load33 {W : World} {a : Act} {o : Oper} {x : Operand} {b : Nat} {C : Array Value} (ho : o.op = .load 33 x) (hx : a.eval x = .pointer (some ⟨b, 0, none⟩)) (hC : C.size = 27) (h : W.heap[b]? = some (.cells C 33 (0, 0))) : (execOp a.eval o).run Yba.prog W = .ok (.value (.agg C)) W := by
  simp only [execOp, ho, hx, Instr.loadAt, Instr.sureAddr, loadVar, Sem.run_bind, Sem.run_pure, Result.andThen_ok, Yba.isAgg33, if_true, Yba.sizeOf33, loads33 hC h]

/-- combine, behind the second relation's making. -/
theorem comb_after {w : World} {pa xa : Nat} {Ra : Rel} (ha : RelAt w pa Ra) (hxa : Ra.ex = .map (some xa)) (hea : Ra.eb ≤ 4096) (hna : Ra.n1 ≤ 4) (hn1 : 0 < Ra.n1) (hnb : Ra.nb ≤ 4) (hna0 : Ra.n0 ≤ 4) (hn0 : 0 < Ra.n0) (hka : Can Ra.n1 Ra.rows)
    (w' : World) (hb : Below w.heap.size w w') (pb : Nat) (Rb : Rel) (xe : Nat) (both : Bool) (hB : RelAt w' pb Rb) (hxe : Rb.ex = .map (some xe)) (heb : Rb.eb ≤ 4096) (hnb1 : Rb.n1 ≤ 4) (hn1b : 0 < Rb.n1) (hnbb : Rb.nb ≤ 4) (hnb0 : Rb.n0 ≤ 4) (hn0b : 0 < Rb.n0) (hkb : Can Rb.n1 Rb.rows) :
    Calls Yba.prog 14 #[.pointer (some ⟨pa, 0, none⟩), .pointer (some ⟨pb, 0, none⟩), .bool both] w' (CombPost w' both Ra Rb) :=
  combine14 (ha.below hb) hB hxa hxe hea heb hna hnb1 ⟨hn1, hn1b⟩ hnb hnbb hna0 hnb0 ⟨hn0, hn0b⟩ hka hkb

theorem ExAny.inn {w w' : World} {a : Option Addr} {len cap : Nat} (h : ExAny w (.slice a len cap)) (hb : Below w.heap.size w w') (hl : len ≤ 1024) : ExIn w' (.slice a len cap) := by
  obtain ⟨a', len', cap', e, h⟩ := h
  cases e
  refine ⟨a, len, cap, rfl, hl, ?_⟩
  rcases h with h | ⟨b, off, e, hc⟩
  · exact .inl h
  · refine .inr ⟨b, off, e, fun i hi => ?_⟩
    obtain ⟨z, hz, hcell⟩ := hc i hi
    exact ⟨z, hz, (hb.cell (block_lt_of_cell hcell)).trans hcell⟩

set_option maxRecDepth 100000 in
set_option maxHeartbeats 12800000 in
theorem law6 (d1 d2 : Dat) (both : Bool) (w : World) (h1 : DatOk d1) (h2 : DatOk d2) (x1 : ExAny w d1.ex) (x2 : ExAny w d2.ex) : Calls Yba.prog 6 #[.agg d1.cells, .agg d2.cells, .bool both] w fun e w' => e = .returned (.bool true) ∧ Below w.heap.size w w' := by
  have X1 := hid x1
  have X2 := hid x2
  obtain ⟨a1, l1, p1, e1, _⟩ := x1
  obtain ⟨a2, l2, p2, e2, _⟩ := x2
  have g1 : d1.cells[26]? = some (.slice a1 l1 p1) := by rw [← e1]; rfl
  have g2 : d2.cells[26]? = some (.slice a2 l2 p2) := by rw [← e2]; rfl
  have s1 := d1.size
  have s2 := d2.size
  have HB1 := hid (fun (W : World) (hb : Below w.heap.size w W) (hl : l1 ≤ 1024) => build11 d1 h1 W (by rw [e1]; exact (e1 ▸ X1.out).inn hb hl))
  have HB2 := hid (fun (W : World) (hb : Below w.heap.size w W) (hl : l2 ≤ 1024) => build11 d2 h2 W (by rw [e2]; exact (e2 ▸ X2.out).inn hb hl))
  clear X1 X2 e1 e2 h1 h2
  generalize d1.cells = C1 at *
  generalize d2.cells = C2 at *
  obtain ⟨W2, hW2⟩ : ∃ W2, W2 = (w.alloc (.cells C1 33)).alloc (.cells C2 33) := ⟨_, rfl⟩
  have hb2 : Below w.heap.size w W2 := by rw [hW2]; exact below_al (below_al (Below.refl _ _) _) _
  have k1 : W2.heap[w.heap.size]? = some (.cells C1 33 (0, 0)) := by rw [hW2]; exact heap_old (heap_new w _)
  have k2 : W2.heap[w.heap.size + 1]? = some (.cells C2 33 (0, 0)) := by rw [hW2]; exact heap_at (by rw [size_al])
  have y1 : W2.cell? ⟨w.heap.size, 26, none⟩ = some (.slice a1 l1 p1) := by simp [World.cell?, k1, g1]
  have y2 : W2.cell? ⟨w.heap.size + 1, 26, none⟩ = some (.slice a2 l2 p2) := by simp [World.cell?, k2, g2]
  have hW2' := hW2.symm
  have HW := hid hb2
  clear hW2 g1 g2
  have KP := hid (fun (W' : World) (hb : Below W2.heap.size W2 W') => (⟨(hb.block _ (lt_of_block k1)).trans k1, (hb.block _ (lt_of_block k2)).trans k2⟩ : W'.heap[w.heap.size]? = some (.cells C1 33 (0, 0)) ∧ W'.heap[w.heap.size + 1]? = some (.cells C2 33 (0, 0))))
  have E1 := hid (fun (W' : World) (a : Act) (o : Oper) (x : Operand) (ho : o.op = .load 33 x) (hx : a.eval x = .pointer (some ⟨w.heap.size, 0, none⟩)) (hw : W'.heap[w.heap.size]? = some (.cells C1 33 (0, 0)) ∧ W'.heap[w.heap.size + 1]? = some (.cells C2 33 (0, 0))) => exec_load33 ho hx s1 hw.1)
  have E2 := hid (fun (W' : World) (a : Act) (o : Oper) (x : Operand) (ho : o.op = .load 33 x) (hx : a.eval x = .pointer (some ⟨w.heap.size + 1, 0, none⟩)) (hw : W'.heap[w.heap.size]? = some (.cells C1 33 (0, 0)) ∧ W'.heap[w.heap.size + 1]? = some (.cells C2 33 (0, 0))) => exec_load33 ho hx s2 hw.2)
  clear k1 k2 hb2 s1 s2
  by_cases t1 : (1024 : Int) < (l1 : Int)
  · go_enter Yba.func6, Yba.ntmps6
    go_wp2_with fail
    go_ret
    exact ⟨rfl, HW.out⟩
  by_cases t2 : (1024 : Int) < (l2 : Int)
  · go_enter Yba.func6, Yba.ntmps6
    go_wp2_with fail
    go_ret
    exact ⟨rfl, HW.out⟩
  have hb0 : Below W2.heap.size W2 W2.drew := (Below.refl _ _).drew
  have hl1 : l1 ≤ 1024 := by omega
  have hl2 : l2 ≤ 1024 := by omega
  go_enter Yba.func6, Yba.ntmps6
  go_upto_region 3 with fail
  clear y1 y2 t1 t2 hW2'
  refine wp_region_noPanic ?_
  refine wp_region_held_drew (S := fun W' => W'.heap[w.heap.size]? = some (.cells C1 33 (0, 0)) ∧ W'.heap[w.heap.size + 1]? = some (.cells C2 33 (0, 0))) (by kernel_rfl) (KP.out _ hb0) (fun hHeld => ?_)
  refine wpAnyH_take (i := 0) (v := .agg C1) rfl (by kernel_rfl) (by kernel_rfl) (by kernel_rfl) (fun _ _ _ h => h) (Or.inl ⟨by rfl, fun W hSw => E1.out W _ _ _ rfl rfl hSw⟩) hHeld ?_
  simp only [Act.put, List.setIfInBounds_toArray, List.set_cons_zero, List.set_cons_succ]
  refine wpAnyH_take (i := 2) (v := .agg C2) rfl (by kernel_rfl) (by kernel_rfl) (by kernel_rfl) (fun _ _ _ h => h) (Or.inl ⟨by rfl, fun W hSw => E2.out W _ _ _ rfl rfl hSw⟩) hHeld ?_
  simp only [Act.put, List.setIfInBounds_toArray, List.set_cons_zero, List.set_cons_succ]
  refine wpAnyH_take (i := 4) (v := .bool both) rfl (by kernel_rfl) (by kernel_rfl) (by kernel_rfl) (fun _ _ _ h => h) (Or.inl ⟨by rfl, fun W hSw => by go_simp⟩) hHeld ?_
  simp only [Act.put, List.setIfInBounds_toArray, List.set_cons_zero, List.set_cons_succ]
  refine wpAnyH_ready (rs := [1]) (by kernel_rfl) (by simp) ?_
  refine AllReadyH.cons rfl (fun K hK => ?_) AllReadyH.nil
  go_simp
  refine (HB1.out _ (HW.out.trans (below_le hb0 HW.out.size)) hl1).mono ?_
  rintro e w3 ⟨pa, Ra, rfl, ra, n0, n1, n04, n14, eb, nb, can, ⟨xa, hxa⟩, _, hb3⟩
  have hbn3 : Below W2.heap.size W2 w3 := hb0.trans (below_le hb3 hb0.size)
  have HRA := hid ra
  have H3 := hid (comb_after ra hxa eb n14 n1 nb n04 n0 can)
  clear ra n0 n1 n04 n14 eb nb can hxa hb3
  go_wp2_with fail
  refine hK.out _ _ ?_ (fun hHeld2 => ?_)
  · exact KP.out _ hbn3
  clear hK K hHeld
  have hHeld := hHeld2
  clear hHeld2
  try simp only [Act.put, List.setIfInBounds_toArray, List.set_cons_zero, List.set_cons_succ]
  refine wpAnyH_ready (rs := [3]) (by kernel_rfl) (by simp) ?_
  refine AllReadyH.cons rfl (fun K hK => ?_) AllReadyH.nil
  go_simp
  refine (HB2.out _ (HW.out.trans (below_le hbn3 HW.out.size)) hl2).mono ?_
  rintro e w4 ⟨pb, Rb, rfl, rb, n0, n1, n04, n14, eb, nb, can, ⟨xb, hxb⟩, _, hb4⟩
  have hbn4 : Below W2.heap.size W2 w4 := hbn3.trans (below_le hb4 hbn3.size)
  have HRB := hid rb
  have HRA4 := hid (HRA.out.below hb4)
  have H4 := hid (fun (W : World) (hb : Below w4.heap.size w4 W) => H3.out W (hb4.trans (below_le hb hb4.size)) pb Rb xb both (rb.below hb) hxb eb n14 n1 nb n04 n0 can)
  clear rb n0 n1 n04 n14 eb nb can hxb hb4
  go_wp2_with fail
  refine hK.out _ _ ?_ (fun hHeld2 => ?_)
  · exact KP.out _ hbn4
  clear hK K hHeld
  have hHeld := hHeld2
  clear hHeld2
  try simp only [Act.put, List.setIfInBounds_toArray, List.set_cons_zero, List.set_cons_succ]
  refine wpAnyH_ready (rs := [5]) (by kernel_rfl) (by simp) ?_
  refine AllReadyH.cons rfl (fun K hK => ?_) AllReadyH.nil
  go_simp
  refine (H4.out _ (Below.refl _ _)).mono ?_
  rintro e w5 ⟨p, R, Rx, rfl, hR, hb5, h0, h1, _⟩
  have hbn5 : Below W2.heap.size W2 w5 := hbn4.trans (below_le hb5 hbn4.size)
  have H5 := hid (well15 hR h0 h1)
  clear hR hb5 h0 h1
  go_wp2_with fail
  refine hK.out _ _ ?_ (fun hHeld2 => ?_)
  · exact KP.out _ hbn5
  clear hK K hHeld
  have hHeld := hHeld2
  clear hHeld2
  try simp only [Act.put, List.setIfInBounds_toArray, List.set_cons_zero, List.set_cons_succ]
  refine wpAnyH_ready (rs := [6]) (by kernel_rfl) (by simp) ?_
  refine AllReadyH.cons rfl (fun K hK => ?_) AllReadyH.nil
  go_simp
  refine (H5.out).mono ?_
  rintro e w6 ⟨rfl, hb6⟩
  have hbn6 : Below W2.heap.size W2 w6 := hbn5.trans (below_le hb6 hbn5.size)
  go_wp2_with fail
  refine hK.out _ _ ?_ (fun hHeld2 => ?_)
  · exact KP.out _ hbn6
  clear hK K hHeld
  have hHeld := hHeld2
  clear hHeld2
  try simp only [Act.put, List.setIfInBounds_toArray, List.set_cons_zero, List.set_cons_succ]
  refine wpAnyH_ready (rs := [7]) (by kernel_rfl) (by simp) ?_
  refine AllReadyH.cons rfl (fun K hK => ?_) AllReadyH.nil
  go_simp
  refine hK.out _ _ ?_ (fun hHeld2 => ?_)
  · exact KP.out _ hbn6
  clear hK K hHeld hHeld2
  try simp only [Act.put, List.setIfInBounds_toArray, List.set_cons_zero, List.set_cons_succ]
  refine wpAnyH_done (by kernel_rfl) ?_ _
  refine NoPanic.normal ?_
  go_wp2_with fail
  go_ret
  exact ⟨rfl, HW.out.trans (below_le hbn6 HW.out.size)⟩
end Go.Proofs.Ybulkatiq
