/-
  mergeColumns: the last loop.
-/
import Derived.Test.YbulkatiqMergeD
namespace Go.Proofs.Ybulkatiq
open Go.ChangeShapes Go.WideShapes Go.ChangeAt Go.RowKit Go.Maps Go.WideMaps

/-- What the filling of a new row's list keeps. -/
structure FL (wo wr : World) (fb bx : Nat) (c : Nat) (u : Value) (dl : List (Nat × Nat)) : Prop where
  bel : Below wo.heap.size wo wr
  box : wr.heap[bx]? = some (.cells #[.int .u8 (c : Nat), u] 57 (0, 0))
  row : RowC wr fb 0 dl
  far : wo.heap.size ≤ fb ∧ bx ≠ fb ∧ wo.heap.size ≤ bx

theorem FL.below {wo wr wx : World} {fb bx c : Nat} {u : Value} {dl : List (Nat × Nat)} (h : FL wo wr fb bx c u dl) (hb : Below wr.heap.size wr wx) : FL wo wx fb bx c u dl :=
  ⟨h.bel.trans (below_le hb h.bel.size), (hb.block _ (lt_of_block h.box)).trans h.box, h.row.below hb, h.far⟩

theorem FL.set {wo wr : World} {fb bx c : Nat} {u : Value} {dl : List (Nat × Nat)} (h : FL wo wr fb bx c u dl) {i : Nat} (q : Nat × Nat) (hi : i < dl.length) :
    FL wo ((wr.setCell ⟨fb, i * 2, none⟩ (.int .i32 (q.1 : Nat))).setCell ⟨fb, i * 2 + 1, none⟩ (.int .u8 (q.2 : Nat))) fb bx c u (dl.set i q) := by
  obtain ⟨f1, f2, f3⟩ := h.far
  have hg : wr.grownBy ((wr.setCell ⟨fb, i * 2, none⟩ (.int .i32 (q.1 : Nat))).setCell ⟨fb, i * 2 + 1, none⟩ (.int .u8 (q.2 : Nat))) (some fb) := grown_setCell (grown_setCell (World.grownBy.refl wr _))
  have r1 := h.row.set q hi
  rw [Nat.zero_add] at r1
  exact ⟨h.bel.grown hg h.bel.size (fun k hk => by simp only [Option.some.injEq] at hk; omega), (hg.block _ (lt_of_block h.box) (fun e => f2 (Option.some.inj e))).trans h.box, r1, f1, f2, f3⟩

theorem FL.b0 {wo wr : World} {fb bx c : Nat} {u : Value} {dl : List (Nat × Nat)} (h : FL wo wr fb bx c u dl) : wr.cell? ⟨bx, 0, none⟩ = some (.int .u8 (c : Nat)) := by simp [World.cell?, h.box]
theorem FL.b1 {wo wr : World} {fb bx c : Nat} {u : Value} {dl : List (Nat × Nat)} (h : FL wo wr fb bx c u dl) : wr.cell? ⟨bx, 1, none⟩ = some u := by simp [World.cell?, h.box]

theorem RM.c4 {w wr : World} {p nb : Nat} {R : Rel} {num : List Nat} {m : Nat} {v : Value} {k : Nat} {rows' : List Row} (h : RM w wr p nb R num m v k rows') : wr.cell? ⟨p, 4, none⟩ = some (.slice (some ⟨R.rb, 0, none⟩) R.n0 R.rc) := by
  unfold World.cell?; rw [h.blk]; rfl
theorem RM.slot {w wr : World} {p nb : Nat} {R : Rel} {num : List Nat} {m : Nat} {v : Value} {k : Nat} {rows' : List Row} (h : RM w wr p nb R num m v k rows') {i : Nat} (hi : i < R.n0) :
    (∃ x, wr.cell? ⟨R.rb, i * 2, none⟩ = some x) ∧ (∃ x, wr.cell? ⟨R.rb, i * 2 + 1, none⟩ = some x) ∧ ∀ j, wr.frozen? ⟨R.rb, j, none⟩ = false := by
  obtain ⟨cur, h1, h2⟩ := h.row
  refine ⟨⟨cur[i * 2]'(by omega), ?_⟩, ⟨cur[i * 2 + 1]'(by omega), ?_⟩, fun j => ?_⟩
  · simp [World.cell?, h1, show i * 2 < cur.size by omega]
  · simp [World.cell?, h1, show i * 2 + 1 < cur.size by omega]
  · simp [World.frozen?, h1]

set_option maxRecDepth 100000 in
set_option maxHeartbeats 6400000 in
theorem mcE {w W : World} {p nb m : Nat} {R : Rel} {num : List Nat} {v : Value} (h : RM w W p nb R num m v 0 R.rows) (hnum : R.colNum = (num, m)) (hml : ∀ k, num.getD k 0 < m) (hmn : m ≤ R.n1) (hn12 : R.n1 ≤ 12) (hn0 : R.n0 ≤ 16) (hro : R.ro = 0) (hnp : R.rb ≠ nb) (hpr : R.rb ≠ p)
    {u1 u2 u3 u4 u5 u6 u7 u8 u9 u10 u11 u12 u13 u14 u17 u18 u19 u20 u21 u22 u23 u24 u25 u26 u27 u28 u29 u30 u31 u32 u33 u34 u35 u36 u37 u38 u39 u40 u41 u42 u43 u44 u45 u46 u47 u48 u49 u50 u51 u52 u53 u54 u55 u56 u57 u58 u59 u60 u61 u62 u63 u64 u65 u66 u67 u68 u69 u70 u71 u72 u73 u74 u75 u76 u77 u78 u79 u80 u81 u82 u83 u84 u85 u86 u87 u88 u89 u90 u91 u92 u93 u94 u95 u96 u97 u98 u99 u100 u101 u102 u103 u104 u105 u106 u107 u108 u109 u110 u111 u112 u113 u114 u115 u116 u117 u118 u119 u120 u121 u122 u123 u124 u125 u126 u127 u128 u129 u130 u131 u132 u133 u134 u135 u136 u137 u138 u139 u140 u141 u142 u143 u144 u145 u146 u147 u148 u149 u150 u151 u152 u153 u154 u155 u156 u157 u158 u159 u160 u161 u162 u163 u164 u165 u166 u167 u168 u169 u170 u171 u172 u173 u174 u175 u176 u177 u178 u179 u180 u181 u182 u183 u184 u185 u186 u187 u188 u189 u190 u191 u192 u193 u194 : Value} :
    Code.wp Yba.prog (dropC 9 (codeOf Yba.f27)) (bodyPost Yba.prog Yba.f27 (MCPost w p R)) ⟨#[.pointer (some ⟨p, 0, none⟩), u1, u2, u3, u4, u5, u6, u7, u8, u9, u10, u11, u12, u13, u14, .slice (some ⟨nb, 0, none⟩) R.n1 R.n1, .int .i32 (m : Nat), u17, u18, u19, u20, u21, u22, u23, u24, u25, u26, u27, u28, u29, u30, u31, u32, u33, u34, u35, u36, u37, u38, u39, u40, u41, u42, u43, u44, u45, u46, u47, u48, u49, u50, u51, u52, u53, u54, u55, u56, u57, u58, u59, u60, u61, u62, u63, u64, u65, u66, u67, u68, u69, u70, u71, u72, u73, u74, u75, u76, u77, u78, u79, u80, u81, u82, u83, u84, u85, u86, u87, u88, u89, u90, u91, u92, u93, u94, u95, u96, u97, u98, u99, u100, u101, u102, u103, u104, u105, u106, u107, u108, u109, u110, u111, u112, u113, u114, u115, u116, u117, u118, u119, u120, u121, u122, u123, u124, u125, u126, u127, u128, u129, u130, u131, u132, u133, u134, u135, u136, u137, u138, u139, u140, u141, u142, u143, u144, u145, u146, u147, u148, u149, u150, u151, u152, u153, u154, u155, u156, u157, u158, u159, u160, u161, u162, u163, u164, u165, u166, u167, u168, u169, u170, u171, u172, u173, u174, u175, u176, u177, u178, u179, u180, u181, u182, u183, u184, u185, u186, u187, u188, u189, u190, u191, u192, u193, u194], []⟩ W := by
  generalize hQ : bodyPost Yba.prog Yba.f27 (MCPost w p R) = Q
  simp only [dropC, codeOf, Yba.f27, Option.getD_some]
  have HQ := hid hQ
  clear hQ
  have H := hid h
  have c4 := h.c4
  have HNUM := hid hnum
  have HML := hid hml
  clear h hnum hml
  go_wp2_with fail
  clear c4
  obtain ⟨j0, hj0, hy0, hy1, hy2⟩ := info_parts info55
  go_loopw [150] (fun vk wr => ∃ (k : Nat) (rows' : List Row), k ≤ R.n0 ∧ vk = .int .i64 k ∧ RM w wr p nb R num m v k rows') (fun vk _ => R.n0 - (intOf vk).toNat)
  case atStart => exact ⟨0, R.rows, by omega, rfl, H.out⟩
  case round =>
    obtain ⟨k, rows', hk, rfl, hrm⟩ := hrel
    clear H
    have H := hid hrm
    clear hrm
    generalize wr = wo at H ⊢
    rcases Nat.lt_or_ge k R.n0 with hlt | hge
    · have t1 : (k : Int) < (R.n0 : Int) := by omega
      have hl' := H.out.len
      have hri : rows'[k]? = some (R.rows.getD k (0, [])) := by
        rw [← H.out.rest k (Nat.le_refl _)]
        simp [List.getD, show k < rows'.length by omega]
      obtain ⟨ok1, r0, vr, r1, d1⟩ := H.out.rows k _ hri
      rw [Nat.zero_add] at r0 r1
      obtain ⟨r, hr⟩ : ∃ r, r = R.rows.getD k (0, []) := ⟨_, rfl⟩
      have HR := hid hr
      rw [← hr] at ok1 r0 d1
      obtain ⟨c, l⟩ := r
      simp only at ok1 r0 d1
      have hll := ok1.len
      have HD := hid d1
      have HOK := hid ok1
      obtain ⟨a, cap, rfl⟩ := d1.shape
      clear d1 ok1 hr hri
      go_upto_block 11 with fail
      go_cut [162] from 152 to 193 (fun _ wx => ∃ rows', RM w wx p nb R num m v (k + 1) rows')
      case first =>
        go_wp2_with (at_make; refine wpList_make_full _ rfl _ _ 53 rfl wo.heap.size 55 j0 _ 2 Yba.underlying53 hj0 hy0 hy1 .i64 .i64 (l.length : Int) (l.length : Int) l.length rfl rfl rfl rfl ?b2 ?b3 ?b4 ?_)
        case b2 => rw [hy2]; omega
        case b3 => unfold maxLen; omega
        case b4 => simp
        intro w1 hrow hgr
        have HF := hid (show FL wo w1 (wo.heap.size + 1) wo.heap.size c (.slice a l.length cap) (List.replicate l.length (0, 0)) from by
          have hb : Below wo.heap.size wo (wo.alloc (.cells #[.int .u8 (c : Nat), .slice a l.length cap] 57)) := below_al (Below.refl _ _) _
          have hx := heap_new wo (.cells #[.int .u8 (c : Nat), .slice a l.length cap] 57)
          have hr := made_rowC hrow
          exact ⟨hb.grown hgr (by simp) (fun k hk => by cases hk), (hgr.block _ (lt_of_block hx) (by simp)).trans hx, hr, by omega, by omega, Nat.le_refl _⟩)
        clear hrow hgr
        have b1 := HF.out.b1
        generalize hfb : wo.heap.size + 1 = fb at HF ⊢
        clear hfb
        generalize wo.heap.size = bx at HF b1 ⊢
        go_upto_block 12 with fail
        clear b1
        go_cut [162] from 162 to 178 (fun _ wx => FL wo wx fb bx c (.slice a l.length cap) (l.map (fun d => (num.getD d.1 0, d.2))))
        case first =>
          go_wp2_with fail
          go_loopw [162] (fun vi wr => ∃ i : Nat, i ≤ l.length ∧ vi = .int .i64 i ∧ FL wo wr fb bx c (.slice a l.length cap) (fillTo (fun d => (num.getD d.1 0, d.2)) l i)) (fun vi _ => l.length - (intOf vi).toNat)
          case atStart => exact ⟨0, by omega, rfl, HF.out⟩
          case round =>
            obtain ⟨i, hi, rfl, hfl⟩ := hrel
            clear HF
            have HF := hid hfl
            clear hfl
            rcases Nat.lt_or_ge i l.length with hlt2 | hge2
            · have t4 : (i : Int) < (l.length : Int) := by omega
              have hp : l[i]? = some l[i] := by simp [hlt2]
              obtain ⟨b1, o1, rfl, _, x0, x1⟩ := (HD.out.below HF.out.bel).one hp
              have hq := HOK.out.each i _ hp
              have HST := hid (show fillTo (fun d => (num.getD d.1 0, d.2)) l (i + 1) = (fillTo (fun d => (num.getD d.1 0, d.2)) l i).set i (num.getD (l[i]).1 0, (l[i]).2) from by rw [fillTo]; simp [List.getD, hlt2])
              clear hp
              generalize l[i] = q at *
              obtain ⟨q1, q2⟩ := q
              simp only at hq HST x0 x1
              have t5 : (q1 : Int) < (R.n1 : Int) := by omega
              have hb2 : Below wr.heap.size wr (wr.alloc (.cells #[.int .i32 (q1 : Nat), .int .u8 (q2 : Nat)] 55)) := below_al (Below.refl _ _) _
              have HF1 := hid (HF.out.below hb2)
              have z0 := new2_0' wr (.int .i32 (q1 : Nat)) (.int .u8 (q2 : Nat)) 55
              have z1 := new2_1' wr (.int .i32 (q1 : Nat)) (.int .u8 (q2 : Nat)) 55
              have hDf : wr.heap.size ≠ fb := by have := HF.out.row.lt; omega
              clear hb2
              go_upto_region 36 with fail
              generalize wr.alloc (.cells #[.int .i32 (q1 : Nat), .int .u8 (q2 : Nat)] 55) = W2 at HF1 z0 z1 ⊢
              generalize wr.heap.size = D at z0 z1 hDf ⊢
              obtain ⟨y, hy⟩ : ∃ y, y = num.getD q1 0 := ⟨_, rfl⟩
              have e0 : W2.drew.cell? ⟨D, 0, none⟩ = some (.int .i32 (q1 : Nat)) := z0
              have e1 : W2.drew.cell? ⟨D, 1, none⟩ = some (.int .u8 (q2 : Nat)) := z1
              have e3 : W2.drew.cell? ⟨nb, q1, none⟩ = some (.int .i32 (y : Nat)) := by rw [hy]; exact ((H.out.below HF1.out.bel).nrow.at (i := q1) (by omega)).2
              have hfl := fillTo_len (fun d => (num.getD d.1 0, d.2)) l i
              have e4 := (HF1.out.row.at (i := i) (by omega)).1
              have e5 := (HF1.out.row.at (i := i) (by omega)).2
              rw [Nat.zero_add] at e4 e5
              have HF2 := hid ((HF1.out.set (i := i) (y, q2) (by omega)).below (Below.drew (Below.refl _ _)))
              rw [← hy] at HST
              rw [← HST.out] at HF2
              generalize (fillTo (fun d => (num.getD d.1 0, d.2)) l i).getD i (0, 0) = oz at e4 e5
              have e6 : W2.drew.cell? ⟨fb, i * 2, none⟩ = some (.int .i32 (oz.1 : Nat)) := e4
              have e7 : W2.drew.cell? ⟨fb, i * 2 + 1, none⟩ = some (.int .u8 (oz.2 : Nat)) := e5
              have e8 : ∀ j, W2.drew.frozen? ⟨fb, j, none⟩ = false := fun j => HF1.out.row.fz j
              have e10 : ∀ j, W2.frozen? ⟨fb, j, none⟩ = false := fun j => HF1.out.row.fz j
              clear hy x0 x1
              go_region
              all_goals go_wp2_with fail
              all_goals exact ⟨⟨i + 1, by omega, rfl, HF2.out⟩, by simp [intOf]; omega⟩
            · have : i = l.length := by omega
              have t4 : ¬ (i : Int) < (l.length : Int) := by omega
              have e2 : fillTo (fun d => (num.getD d.1 0, d.2)) l i = l.map (fun d => (num.getD d.1 0, d.2)) := by rw [this, fillTo_all]
              rw [e2] at HF
              clear e2
              go_wp2_with fail
              go_meet
              case rel => exact HF.out
        case rest =>
          clear HF
          have HF := hid hcut
          clear hcut
          obtain ⟨cur, hcur⟩ := HF.out.row.blk
          have hsort := sort32 (off := 0) (cap := l.length) hcur HF.out.row.each (by simp) (by simp; omega)
          simp only [List.length_map] at hsort
          have HSO := hid hsort
          clear hsort hcur
          go_wp2_with fail
          refine HSO.out.mono ?_
          rintro e w2 ⟨rfl, srt, hperm, hord, hdiff, hg2⟩
          have hsl : srt.length = l.length := by rw [hperm.length_eq]; simp
          simp only [List.length_map] at hdiff
          rw [← hsl] at hdiff
          have hcomp := compact42 hdiff (by omega)
          rw [hsl] at hcomp
          have HCO := hid hcomp
          have hfar := HF.out.far
          have HB2 := hid (HF.out.bel.grown hg2 HF.out.bel.size (fun k hk => by simp only [Option.some.injEq] at hk; omega))
          have HX2 := hid ((hg2.block _ (lt_of_block HF.out.box) (fun e => hfar.2.1 (Option.some.inj e))).trans HF.out.box)
          have HPE := hid hperm
          have HOR := hid hord
          clear hcomp hdiff hg2 hperm hord
          go_wp2_with fail
          refine HCO.out.mono ?_
          rintro e w3 ⟨u2, rfl, hd3, hg3⟩
          have HB3 := hid (HB2.out.grown hg3 HB2.out.size (fun k hk => by simp only [Option.some.injEq] at hk; omega))
          have hx3 := (hg3.block _ (lt_of_block HX2.out) (fun e => hfar.2.1 (Option.some.inj e))).trans HX2.out
          have hm16 : m ≤ 1024 := by omega
          have hok3 := cpt_ok HOK.out HML.out HPE.out HOR.out
          obtain ⟨cl, hcl⟩ : ∃ cl, cl = cptTo srt srt.length := ⟨_, rfl⟩
          rw [← hcl] at hd3 hok3
          have HCL := hid hcl
          clear hsl hcl
          have HST := hid (fun W (hb : Below w3.heap.size w3 W) => settled19 (hd3.below hb) hok3 hm16)
          clear hok3
          obtain ⟨a2, cap2, rfl⟩ := hd3.shape
          have hrm := H.out.below HB3.out
          have c4 := hrm.c4
          have cb : w3.cell? ⟨bx, 0, none⟩ = some (.int .u8 (c : Nat)) := by simp [World.cell?, hx3]
          have KP := hid (fun W (hb : Below w3.heap.size w3 W) => (⟨(hb.cell (block_lt_of_cell c4)).trans c4, (hb.cell (block_lt_of_cell cb)).trans cb⟩ : W.cell? ⟨p, 4, none⟩ = some (.slice (some ⟨R.rb, 0, none⟩) R.n0 R.rc) ∧ W.cell? ⟨bx, 0, none⟩ = some (.int .u8 (c : Nat))))
          have KQ := hid (fun W (hb : Below w3.heap.size w3 W) => (hrm.below hb).slot hlt)
          have HRM := hid hrm
          have hbr : R.rb ≠ bx := by
            obtain ⟨cu, hcu, _⟩ := H.out.row
            have := lt_of_block hcu
            omega
          have hb0 : Below w3.heap.size w3 w3.drew := (Below.refl _ _).drew
          clear hd3 hg3 hx3 c4 cb hrm
          go_upto_region 40 with fail
          go_region_held3 (fun W => W.cell? ⟨p, 4, none⟩ = some (.slice (some ⟨R.rb, 0, none⟩) R.n0 R.rc) ∧ W.cell? ⟨bx, 0, none⟩ = some (.int .u8 (c : Nat)))
            (first | exact KP.out _ hb0 | exact KP.out _ (by assumption) | exact ⟨cell_kept (grown_setCell (grown_setCell (World.grownBy.refl _ _))) (And.left (KP.out _ (by assumption))) (fun e => hpr e.symm), cell_kept (grown_setCell (grown_setCell (World.grownBy.refl _ _))) (And.right (KP.out _ (by assumption))) (fun e => hbr e.symm)⟩)
            ((go_at_call 19; refine (HST.out _ hb0).mono ?_; rintro e w4 ⟨c', v', l', rfl, hd4, hok4, hat4, _, hb4⟩; have hbn : Below w3.heap.size w3 w4 := below_chain hb0 hb4; obtain ⟨a4, cap4, hv4⟩ := hd4.shape; subst hv4; obtain ⟨⟨y0, s0⟩, ⟨y1, s1⟩, sf⟩ := KQ.out w4 hbn))
          all_goals go_wp2_with fail
          all_goals go_meet
          have hnr : NewRow num m (R.rows.getD k (0, [])) (c', l') := ⟨hok4, srt, by rw [← HR.out]; exact HPE.out, HOR.out, fun x hx => by rw [← HR.out, ← HCL.out]; exact hat4 x hx⟩
          exact ⟨_, (HRM.out.below hbn).put hlt hmn hnr hd4 hnp hpr⟩
      case rest =>
        obtain ⟨rows2, hrm⟩ := hcut
        have H2 := hid hrm
        clear hrm H HD HOK HR
        go_wp2_with fail
        go_roundw
        case rel => exact ⟨k + 1, rows2, by omega, rfl, H2.out⟩
        case measure => simp [intOf]; omega
    · have : k = R.n0 := by omega
      have t1 : ¬ (k : Int) < (R.n0 : Int) := by omega
      go_wp2_with fail
      rw [← HQ.out]
      go_end0
      have h2 := H.out
      rw [this] at h2
      have e := HNUM.out
      exact RM.post (nb := nb) (by rw [e]; exact h2) hn0 (by rw [e]; show m ≤ 16; omega) hro
end Go.Proofs.Ybulkatiq
