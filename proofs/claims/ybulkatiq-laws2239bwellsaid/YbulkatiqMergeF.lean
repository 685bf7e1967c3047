/-
  mergeColumns: the numbering of the columns.
-/
import Derived.Test.YbulkatiqMergeE
set_option linter.unusedVariables false
set_option linter.unusedSimpArgs false
namespace Go.Proofs.Ybulkatiq
open Go.ChangeShapes Go.WideShapes Go.ChangeAt Go.RowKit Go.Maps Go.WideMaps

theorem via {P : Program} {c : Code} {Q : Exit → Act → World → Prop} {K : Act → World → Prop} {a : Act} {w : World} (hk : ∀ a w, Code.wp P c Q a w → K a w) (h : Code.wp P c Q a w) : K a w := hk a w h

theorem RelOn.apart {w : World} {p : Nat} {R : Rel} (h : RelOn w p R) : R.rb ≠ p := fun e => by
  obtain ⟨cur, h1, _⟩ := h.row
  rw [e, h.blk] at h1
  simp at h1

theorem RM.start {w w' : World} {p nb m : Nat} {R : Rel} {num : List Nat} {v : Value} (h : RelOn w p R) (hb : Below w.heap.size w w') (hrow : RowD w' nb R.n1 num) (hc : ClsB R.nb w' v m (fun s => num.getD (R.of1 s) 0)) (hnb : w.heap.size ≤ nb) :
    RM w ((w'.setCell ⟨p, 2, none⟩ v).setCell ⟨p, 3, none⟩ (.int .i32 (m : Nat))) p nb R num m v 0 R.rows := by
  have h' := h.below hb
  have hp := lt_of_block h.blk
  have hg : w'.grownBy ((w'.setCell ⟨p, 2, none⟩ v).setCell ⟨p, 3, none⟩ (.int .i32 (m : Nat))) (some p) := grown_setCell (grown_setCell (World.grownBy.refl w' _))
  have g0 := heap_setCell_same w' p 2 _ 50 v h'.blk
  have g1 := heap_setCell_same _ p 3 _ 50 (.int .i32 (m : Nat)) g0
  have hbk := h'.blk
  generalize ((w'.setCell ⟨p, 2, none⟩ v).setCell ⟨p, 3, none⟩ (.int .i32 (m : Nat))) = W at *
  obtain ⟨cur, k1, k2⟩ := h'.row
  refine ⟨fun B b1 b2 b3 => (hb.mono b3).grown hg (by have := hb.size; omega) (fun j hj => by simp only [Option.some.injEq] at hj; omega), Nat.le_trans hb.size hg.size, ?_, h'.at_.s0.grown hg hbk, hc.grown hg hbk, h'.at_.se.kept hg hbk, ⟨cur, (hg.block _ (lt_of_block k1) (fun e => h.apart (Option.some.inj e))).trans k1, k2⟩, fun k r hr => ?_, hrow.other hg (by omega), h.at_.len, fun i hi => by omega, fun i _ => rfl⟩
  · have := g1
    unfold Rel.cells at this
    rw [h.ro] at this
    exact this
  · obtain ⟨e1, e2, u, e3, e4⟩ := h'.at_.rows k r hr
    rw [h.ro] at e2 e3
    exact ⟨e1, cell_kept hg e2 h.apart, u, cell_kept hg e3 h.apart, e4.kept hg hbk (by decide)⟩

set_option maxRecDepth 100000 in
set_option maxHeartbeats 6400000 in
theorem mcD {w W : World} {p lx sx lb sb tot : Nat} {R : Rel} {d : List Nat} {ls : List (Nat × Nat)} (h : RelOn w p R) (hb : Below w.heap.size w W) (hcol : ColAt W lx sx lb sb R.n1 tot d ls (colE (ents 0 R.rows))) (ht : tot ≤ 1024) (hpos : 0 < R.n1) (hn12 : R.n1 ≤ 12) (hnb : R.nb ≤ 4096)
    {u1 u4 u5 u6 u7 u8 u10 u11 u12 u13 u14 u15 u16 u17 u18 u19 u20 u21 u22 u23 u24 u25 u26 u27 u28 u29 u30 u31 u32 u33 u34 u35 u36 u37 u38 u39 u40 u41 u42 u43 u44 u45 u46 u47 u48 u49 u50 u51 u52 u53 u54 u55 u56 u57 u58 u59 u60 u61 u62 u63 u64 u65 u66 u67 u68 u69 u70 u71 u72 u73 u74 u75 u76 u77 u78 u79 u80 u81 u82 u83 u84 u85 u86 u87 u88 u89 u90 u91 u92 u93 u94 u95 u96 u97 u98 u99 u100 u101 u102 u103 u104 u105 u106 u107 u108 u109 u110 u111 u112 u113 u114 u115 u116 u117 u118 u119 u120 u121 u122 u123 u124 u125 u126 u127 u128 u129 u130 u131 u132 u133 u134 u135 u136 u137 u138 u139 u140 u141 u142 u143 u144 u145 u146 u147 u148 u149 u150 u151 u152 u153 u154 u155 u156 u157 u158 u159 u160 u161 u162 u163 u164 u165 u166 u167 u168 u169 u170 u171 u172 u173 u174 u175 u176 u177 u178 u179 u180 u181 u182 u183 u184 u185 u186 u187 u188 u189 u190 u191 u192 u193 u194 : Value} :
    Code.wp Yba.prog (dropC 6 (codeOf Yba.f27)) (bodyPost Yba.prog Yba.f27 (MCPost w p R)) ⟨#[.pointer (some ⟨p, 0, none⟩), u1, .int .i32 (R.n1 : Nat), .pointer (some ⟨sx, 0, none⟩), u4, u5, u6, u7, u8, .pointer (some ⟨lx, 0, none⟩), u10, u11, u12, u13, u14, u15, u16, u17, u18, u19, u20, u21, u22, u23, u24, u25, u26, u27, u28, u29, u30, u31, u32, u33, u34, u35, u36, u37, u38, u39, u40, u41, u42, u43, u44, u45, u46, u47, u48, u49, u50, u51, u52, u53, u54, u55, u56, u57, u58, u59, u60, u61, u62, u63, u64, u65, u66, u67, u68, u69, u70, u71, u72, u73, u74, u75, u76, u77, u78, u79, u80, u81, u82, u83, u84, u85, u86, u87, u88, u89, u90, u91, u92, u93, u94, u95, u96, u97, u98, u99, u100, u101, u102, u103, u104, u105, u106, u107, u108, u109, u110, u111, u112, u113, u114, u115, u116, u117, u118, u119, u120, u121, u122, u123, u124, u125, u126, u127, u128, u129, u130, u131, u132, u133, u134, u135, u136, u137, u138, u139, u140, u141, u142, u143, u144, u145, u146, u147, u148, u149, u150, u151, u152, u153, u154, u155, u156, u157, u158, u159, u160, u161, u162, u163, u164, u165, u166, u167, u168, u169, u170, u171, u172, u173, u174, u175, u176, u177, u178, u179, u180, u181, u182, u183, u184, u185, u186, u187, u188, u189, u190, u191, u192, u193, u194], []⟩ W := by
  have eg : ∀ args w, (callFunc 41 args).run Yba.prog w = .ok (.enter 41 args) w := enters_of Yba.func41 (by kernel_rfl) rfl
  have hp := lt_of_block h.blk
  have hsm := h.at_.small
  have hro := h.ro
  have hap := h.apart
  have HN := hid (number34 (cmpOk41 hcol (by omega) ht) eg (by omega) hpos)
  have HF := hid (numberOf_facts (fun k l => cmpL (colE (ents 0 R.rows) k) (colE (ents 0 R.rows) l)) hpos)
  have H := hid h
  have HB := hid hb
  clear h hb hcol
  generalize hQ : bodyPost Yba.prog Yba.f27 (MCPost w p R) = Q
  simp only [dropC, codeOf, Yba.f27, Option.getD_some]
  have HQ := hid hQ
  clear hQ
  go_wp2_with fail
  refine HN.out.mono ?_
  rintro e w2 ⟨nb, rfl, hrow, hnb1, hb2⟩
  have hsz := HB.out.size
  have hb02 := HB.out.trans (below_le hb2 hsz)
  have HROW := hid hrow
  have HB2 := hid hb02
  have H2 := hid (H.out.below hb02)
  clear hb2 hrow hb02 HN
  generalize hrn : numberOf (fun k l => cmpL (colE (ents 0 R.rows) k) (colE (ents 0 R.rows) l)) R.n1 = rn at HF HROW ⊢
  have HRN := hid (show R.colNum = rn from hrn)
  clear hrn
  obtain ⟨num, m⟩ := rn
  obtain ⟨hm1, hm2, hml, hm0, hlen⟩ := HF.out
  have HML := hid hml
  have HM0 := hid hm0
  simp only at hm1 hm2 HROW HML HM0 ⊢
  clear HF hml hm0 hlen
  cases g : ((m : Int) == (R.n1 : Int))
  · have c2 := H2.out.at_.c2
    have c3 := H2.out.at_.c3
    have HC := hid (fun W (hb : Below w2.heap.size w2 W) => renum39 (H2.out.at_.s1.below hb) (HROW.out.below hb) (fun k _ => HML.out k) HM0.out hm2 hsm.2 hnb)
    have KQ := hid (fun W (hb : Below w2.heap.size w2 W) => (⟨(H2.out.below hb).at_.c2, (H2.out.below hb).at_.c3, fun j => (H2.out.below hb).fz j⟩ : W.cell? ⟨p, 2, none⟩ = some R.m1 ∧ W.cell? ⟨p, 3, none⟩ = some (.int .i32 (R.n1 : Nat)) ∧ ∀ j, W.frozen? ⟨p, j, none⟩ = false))
    have hb0 : Below w2.heap.size w2 w2.drew := (Below.refl _ _).drew
    obtain ⟨k2, k3, _⟩ := KQ.out _ hb0
    clear c2 c3
    go_upto_region 28 with fail
    rw [← HQ.out]
    refine wp_region_noPanic ?_
    refine wp_region_held_drew (S := fun _ => True) (by kernel_rfl) trivial (fun hHeld => ?_)
    refine wpAnyH_take (i := 0) (v := .pointer (some ⟨p, 0, none⟩)) rfl (by kernel_rfl) (by kernel_rfl) (by kernel_rfl) (fun _ _ _ h => h) (Or.inl ⟨by rfl, fun W hSw => by go_simp⟩) (by assumption) ?_
    simp only [Act.put, List.setIfInBounds_toArray, List.set_cons_zero, List.set_cons_succ]
    refine wpAnyH_take (i := 1) (v := .pointer (some ⟨p, 0, none⟩)) rfl (by kernel_rfl) (by kernel_rfl) (by kernel_rfl) (fun _ _ _ h => h) (Or.inl ⟨by rfl, fun W hSw => by go_simp⟩) (by assumption) ?_
    simp only [Act.put, List.setIfInBounds_toArray, List.set_cons_zero, List.set_cons_succ]
    refine wpAnyH_take (i := 2) (v := .pointer (some ⟨p, 0, none⟩)) rfl (by kernel_rfl) (by kernel_rfl) (by kernel_rfl) (fun _ _ _ h => h) (Or.inl ⟨by rfl, fun W hSw => by go_simp⟩) (by assumption) ?_
    simp only [Act.put, List.setIfInBounds_toArray, List.set_cons_zero, List.set_cons_succ]
    refine wpAnyH_take (i := 3) (v := .pointer (some ⟨p, 0, none⟩)) rfl (by kernel_rfl) (by kernel_rfl) (by kernel_rfl) (fun _ _ _ h => h) (Or.inl ⟨by rfl, fun W hSw => by go_simp⟩) (by assumption) ?_
    simp only [Act.put, List.setIfInBounds_toArray, List.set_cons_zero, List.set_cons_succ]
    refine wpAnyH_take (i := 4) (v := .pointer (some ⟨p, 2, none⟩)) rfl (by kernel_rfl) (by kernel_rfl) (by kernel_rfl) (fun _ _ _ h => h) (Or.inl ⟨by rfl, fun W hSw => by go_simp⟩) (by assumption) ?_
    simp only [Act.put, List.setIfInBounds_toArray, List.set_cons_zero, List.set_cons_succ]
    refine wpAnyH_take (i := 6) (v := .slice (some ⟨nb, 0, none⟩) R.n1 R.n1) rfl (by kernel_rfl) (by kernel_rfl) (by kernel_rfl) (fun _ _ _ h => h) (Or.inl ⟨by rfl, fun W hSw => by go_simp⟩) (by assumption) ?_
    simp only [Act.put, List.setIfInBounds_toArray, List.set_cons_zero, List.set_cons_succ]
    refine wpAnyH_take (i := 7) (v := .int .i32 (m : Nat)) rfl (by kernel_rfl) (by kernel_rfl) (by kernel_rfl) (fun _ _ _ h => h) (Or.inl ⟨by rfl, fun W hSw => by go_simp⟩) (by assumption) ?_
    simp only [Act.put, List.setIfInBounds_toArray, List.set_cons_zero, List.set_cons_succ]
    refine wpAnyH_take (i := 9) (v := .pointer (some ⟨p, 0, none⟩)) rfl (by kernel_rfl) (by kernel_rfl) (by kernel_rfl) (fun _ _ _ h => h) (Or.inl ⟨by rfl, fun W hSw => by go_simp⟩) (by assumption) ?_
    simp only [Act.put, List.setIfInBounds_toArray, List.set_cons_zero, List.set_cons_succ]
    refine wpAnyH_take (i := 10) (v := .pointer (some ⟨p, 0, none⟩)) rfl (by kernel_rfl) (by kernel_rfl) (by kernel_rfl) (fun _ _ _ h => h) (Or.inl ⟨by rfl, fun W hSw => by go_simp⟩) (by assumption) ?_
    simp only [Act.put, List.setIfInBounds_toArray, List.set_cons_zero, List.set_cons_succ]
    refine wpAnyH_ready (rs := [5]) (by kernel_rfl) (by simp) ?_
    refine AllReadyH.cons rfl (fun K hK => ?_) AllReadyH.nil
    go_simp
    refine hK.out _ _ ?_ (fun hHeld => ?_)
    · trivial
    clear hK K
    try simp only [Act.put, List.setIfInBounds_toArray, List.set_cons_zero, List.set_cons_succ]
    refine wpAnyH_ready (rs := [8]) (by kernel_rfl) (by simp) ?_
    refine AllReadyH.cons rfl (fun K hK => ?_) AllReadyH.nil
    go_simp
    refine (HC.out _ hb0).mono ?_
    rintro e w' ⟨v, rfl, hcl, hb⟩
    have hbn : Below w2.heap.size w2 w' := hb0.trans (below_le hb (Nat.le_refl _))
    obtain ⟨o, rfl⟩ := hcl.isMap
    obtain ⟨q2, q3, qf⟩ := KQ.out w' hbn
    go_wp2_with fail
    refine hK.out _ _ ?_ (fun hHeld => ?_)
    · trivial
    clear hK K
    try simp only [Act.put, List.setIfInBounds_toArray, List.set_cons_zero, List.set_cons_succ]
    refine wpAnyH_take (i := 11) (v := .pointer (some ⟨p, 2, none⟩)) rfl (by kernel_rfl) (by kernel_rfl) (by kernel_rfl) (fun _ _ _ h => h) (Or.inl ⟨by rfl, fun W hSw => by go_simp⟩) (by assumption) ?_
    simp only [Act.put, List.setIfInBounds_toArray, List.set_cons_zero, List.set_cons_succ]
    refine wpAnyH_ready (rs := [12]) (by kernel_rfl) (by simp) ?_
    refine AllReadyH.cons rfl (fun K hK => ?_) AllReadyH.nil
    go_simp
    refine hK.out _ _ ?_ (fun hHeld => ?_)
    · trivial
    clear hK K
    try simp only [Act.put, List.setIfInBounds_toArray, List.set_cons_zero, List.set_cons_succ]
    refine wpAnyH_done (by kernel_rfl) ?_ _
    refine NoPanic.normal ?_
    simp only [Exit.then]
    have hb3 : Below w.heap.size w w' := HB2.out.trans (below_le hbn HB2.out.size)
    have hrb : R.rb < w.heap.size := by
      obtain ⟨cur, hc, _⟩ := H.out.row
      exact lt_of_block hc
    refine via (P := Yba.prog) (by assumption) ?_
    rw [← HQ.out]
    exact mcE (RM.start H.out hb3 (HROW.out.below hbn) hcl (by omega)) HRN.out HML.out hm2 hn12 hsm.1 hro (by omega) hap
  · go_wp2_with fail
    rw [← HQ.out]
    exact bodyPost_ret (results_none rfl _ _ _) rfl ⟨rfl, R, .inl rfl, H2.out, fun B h1 h2 h3 => HB2.out.mono h3⟩
end Go.Proofs.Ybulkatiq
