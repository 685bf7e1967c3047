/-
  join: the last stage.
-/
import Derived.Test.YbulkatiqRow1
set_option linter.unusedVariables false
set_option linter.unusedSimpArgs false
namespace Go.Proofs.Ybulkatiq
open Go.ChangeShapes Go.WideShapes Go.ChangeAt Go.RowKit Go.Maps Go.WideMaps

theorem own_ints {w : World} {base : Nat} {v : Value} {l : List Nat} (h : w.ownsRow base 21 1 v l.length (ints l)) : IntsAt w v l := by
  rcases h.2 with ⟨rfl, h1⟩ | ⟨g, cap, cur, rfl, _, hgg, hc, _⟩
  · have : l = [] := List.eq_nil_of_length_eq_zero h1
    subst this
    exact ⟨none, 0, rfl, Nat.le_refl _, .inl rfl⟩
  · refine ⟨_, cap, rfl, hc, .inr ⟨g, 0, cur, rfl, hgg, fun i x hx => ?_⟩⟩
    rw [Nat.zero_add, h.cellAt i (by have := (List.getElem?_eq_some_iff.1 hx).1; omega)]
    simp [ints, hx]

theorem IntsAt.one {w : World} {a : Option Addr} {n cap : Nat} {l : List Nat} (h : IntsAt w (.slice a n cap) l) {i x : Nat} (hx : l[i]? = some x) : ∃ b off, a = some ⟨b, off, none⟩ ∧ w.cell? ⟨b, off + i, none⟩ = some (.int .i32 (x : Nat)) := by
  obtain ⟨a', cap', e, _, h⟩ := h
  simp only [Value.slice.injEq] at e
  obtain ⟨rfl, rfl, rfl⟩ := e
  rcases h with rfl | ⟨b, off, cur, rfl, _, h⟩
  · simp at hx
  · exact ⟨b, off, rfl, h i x hx⟩

theorem nodup_le : ∀ (n : Nat) (l : List Nat), l.Nodup → (∀ x ∈ l, x < n) → l.length ≤ n
  | 0, l, _, h => by
    cases l with
    | nil => simp
    | cons x l => exact absurd (h x (by simp)) (by omega)
  | n + 1, l, hn, h => by
    have h1 := nodup_le n (l.erase n) (hn.erase n) (fun x hx => by
      have h2 := (List.Nodup.mem_erase_iff hn).1 hx
      have := h x h2.2
      have := h2.1
      omega)
    rw [List.length_erase] at h1
    split at h1 <;> omega

/-- The operation that is handed in. -/
def OpOk (g : Nat) (opf : Nat → Nat → Nat) : Prop := ∀ (u v : Nat) (W : World), u < 4 → v < 4 → opf u v < 4 ∧ Calls Yba.prog g #[.int .u8 (u : Nat), .int .u8 (v : Nat)] W fun e W' => e = .returned (.int .u8 (opf u v : Nat)) ∧ W = W'

theorem row_ret {wr : World} {tmps : Array Value} {rs : Nat} {c : Nat} {v : Value} {R : Ending → World → Prop} (h6 : tmps.getD 6 undef = .pointer (some ⟨rs, 0, none⟩)) (hr : wr.heap[rs]? = some (.cells #[.int .u8 0, .slice none 0 0] 57 (0, 0)))
    (hp : R (.returned (.agg #[.int .u8 (c : Nat), v])) ((wr.setCell ⟨rs, 0, none⟩ (.int .u8 (c : Nat))).setCell ⟨rs, 1, none⟩ v)) :
    bodyPost Yba.prog Yba.f25 R Exit.ret ⟨tmps, []⟩ ((wr.setCell ⟨rs, 0, none⟩ (.int .u8 (c : Nat))).setCell ⟨rs, 1, none⟩ v) := by
  have h1 := heap_setCell_same wr rs 0 _ 57 (.int .u8 (c : Nat)) hr
  have h2 := heap_setCell_same _ rs 1 _ 57 v h1
  generalize ((wr.setCell ⟨rs, 0, none⟩ (.int .u8 (c : Nat))).setCell ⟨rs, 1, none⟩ v) = X at *
  have c0 : X.cell? ⟨rs, 0, none⟩ = some (.int .u8 (c : Nat)) := by simp [World.cell?, h2]
  have c1 : X.cell? ⟨rs, 1, none⟩ = some v := by simp [World.cell?, h2]
  rw [Array.getD_eq_getD_getElem?] at h6
  refine bodyPost_ret (v := .agg #[.int .u8 (c : Nat), v]) ?_ rfl hp
  simp [results, Yba.results25, go_sem, c0, c1, h6]

set_option maxRecDepth 100000 in
set_option maxHeartbeats 12800000 in
theorem rowJ5 {w W : World} {base bx jb mb cx ax ay rs n mc made g ca cb cm na nb : Nat} {jc : Array Value} {marks cand : List Nat} {cv fromv atv of0 of1 va vb : Value} {fr : List (Nat × Nat)} {L0 L1 : Nat → List Nat} {U0 U1 : Nat → Value} {la lb : List (Nat × Nat)} {opf : Nat → Nat → Nat}
    (hJ : JC W base bx jb mb cx jc n mc made marks cand cv) (hF : Fr2 jb mb w W) (hax : W.heap[ax]? = some (.cells #[.int .u8 (ca : Nat), va] 57 (0, 0))) (hay : W.heap[ay]? = some (.cells #[.int .u8 (cb : Nat), vb] 57 (0, 0))) (hrs : W.heap[rs]? = some (.cells #[.int .u8 0, .slice none 0 0] 57 (0, 0))) (hrw : w.heap.size ≤ rs)
    (hD : RD W fromv atv of0 of1 va vb fr L0 L1 U0 U1 na nb la lb) (j0 : jc[0]? = some (.func (.func g) #[] #[])) (j1 : jc[1]? = some fromv) (j5 : jc[5]? = some (.int .i32 (n : Nat))) (hop : OpOk g opf) (heg : ∀ args w, (callFunc g args).run Yba.prog w = .ok (.enter g args) w)
    (hfn : fr.length = n) (hoa : RowOk na ca la) (hob : RowOk nb cb lb) (hna : na ≤ 16) (hnb : nb ≤ 16) (hn : n ≤ 12) (hcm : cm < 4) {RR : Ending → World → Prop} (hRR : ∀ e w', JoinPost w jb mb n made jc cand (cellJ opf fr ca cb la lb) cm e w' → RR e w')
    {u0 u1 u2 u9 u10 u11 u12 u13 u14 u15 u16 u17 u18 u19 u20 u21 u22 u23 u24 u25 u26 u27 u28 u29 u30 u31 u32 u33 u34 u35 u36 u37 u38 u39 u40 u41 u42 u43 u44 u45 u46 u47 u48 u49 u50 u51 u52 u53 u54 u55 u56 u57 u58 u59 u60 u61 u62 u63 u64 u65 u66 u67 u68 u69 u70 u71 u72 u73 u74 u75 u76 u77 u78 u79 u80 u81 u82 u83 u84 u85 u86 u87 u88 u89 u90 u91 u92 u93 u94 u95 u96 u97 u98 u99 u100 u101 u102 u103 u104 u105 u106 u107 u108 u109 u110 u111 u112 u113 u114 u115 u116 u117 u118 u119 u120 u121 u122 u123 u124 u125 u126 u127 u128 u129 u130 u131 u132 u133 u134 u135 u136 u137 u138 u139 u140 u141 u142 u143 u144 u145 u146 u147 u148 u149 u150 u151 u152 u153 u154 u155 u156 u157 u158 u159 u160 u161 u162 u163 u164 u165 u166 u167 u168 u169 u170 u171 u172 u173 u174 u175 u176 u177 u178 u179 u180 u181 u182 u183 u184 u185 u186 u187 u188 u189 u190 u191 u192 u193 u194 u195 u196 u197 u198 u199 u200 u201 u202 u203 u204 u205 u206 u207 u208 u209 u210 u211 u212 u213 u214 u215 u216 u217 u218 u219 u220 u221 u222 u223 u224 u225 u226 u227 u228 u229 u230 u231 u232 u233 u234 u235 u236 u237 u238 u239 u240 u241 u242 u243 u244 u245 u246 u247 u248 u249 u250 u251 u252 u253 u254 u255 u256 u257 u258 u259 u260 u261 u262 u263 u264 u265 u266 u267 u268 u269 u270 u271 u272 u273 u274 u275 u276 u277 u278 u279 u280 u281 u282 u283 u284 u285 u286 u287 u288 u289 u290 u291 u292 u293 u294 u295 u296 u297 u298 u299 : Value} :
    Code.wp Yba.prog (dropC 9 (codeOf Yba.f25)) (bodyPost Yba.prog Yba.f25 RR) ⟨#[u0, u1, u2, .pointer (some ⟨bx, 0, none⟩), .pointer (some ⟨ax, 0, none⟩), .pointer (some ⟨ay, 0, none⟩), .pointer (some ⟨rs, 0, none⟩), .int .u8 (cm : Nat), .pointer (some ⟨cx, 0, none⟩), u9, u10, u11, u12, u13, u14, u15, u16, u17, u18, u19, u20, u21, u22, u23, u24, u25, u26, u27, u28, u29, u30, u31, u32, u33, u34, u35, u36, u37, u38, u39, u40, u41, u42, u43, u44, u45, u46, u47, u48, u49, u50, u51, u52, u53, u54, u55, u56, u57, u58, u59, u60, u61, u62, u63, u64, u65, u66, u67, u68, u69, u70, u71, u72, u73, u74, u75, u76, u77, u78, u79, u80, u81, u82, u83, u84, u85, u86, u87, u88, u89, u90, u91, u92, u93, u94, u95, u96, u97, u98, u99, u100, u101, u102, u103, u104, u105, u106, u107, u108, u109, u110, u111, u112, u113, u114, u115, u116, u117, u118, u119, u120, u121, u122, u123, u124, u125, u126, u127, u128, u129, u130, u131, u132, u133, u134, u135, u136, u137, u138, u139, u140, u141, u142, u143, u144, u145, u146, u147, u148, u149, u150, u151, u152, u153, u154, u155, u156, u157, u158, u159, u160, u161, u162, u163, u164, u165, u166, u167, u168, u169, u170, u171, u172, u173, u174, u175, u176, u177, u178, u179, u180, u181, u182, u183, u184, u185, u186, u187, u188, u189, u190, u191, u192, u193, u194, u195, u196, u197, u198, u199, u200, u201, u202, u203, u204, u205, u206, u207, u208, u209, u210, u211, u212, u213, u214, u215, u216, u217, u218, u219, u220, u221, u222, u223, u224, u225, u226, u227, u228, u229, u230, u231, u232, u233, u234, u235, u236, u237, u238, u239, u240, u241, u242, u243, u244, u245, u246, u247, u248, u249, u250, u251, u252, u253, u254, u255, u256, u257, u258, u259, u260, u261, u262, u263, u264, u265, u266, u267, u268, u269, u270, u271, u272, u273, u274, u275, u276, u277, u278, u279, u280, u281, u282, u283, u284, u285, u286, u287, u288, u289, u290, u291, u292, u293, u294, u295, u296, u297, u298, u299], []⟩ W := by
  have HRR := hid hRR
  clear hRR
  generalize hQ : bodyPost Yba.prog Yba.f25 RR = Q
  simp only [dropC, codeOf, Yba.f25, Option.getD_some]
  have HQ := hid hQ
  clear hQ
  have hlt : ∀ x ∈ cand, x < n := fun x hx => ((hJ.ok.iff x).1 hx).1
  have hcl : cand.length ≤ n := nodup_le n cand hJ.ok.nodup hlt
  have HJ := hid hJ
  have HI := hid (own_ints hJ.own)
  obtain ⟨c0, cc, hv⟩ := owns_shape hJ.own
  subst hv
  have x1 : W.cell? ⟨bx, 0, none⟩ = some (.pointer (some ⟨jb, 0, none⟩)) := by simp [World.cell?, hJ.bxk]
  have x2 : W.cell? ⟨jb, 0, none⟩ = some (.func (.func g) #[] #[]) := by simp [World.cell?, hJ.jbk, j0]
  have x3 : W.cell? ⟨jb, 1, none⟩ = some fromv := by simp [World.cell?, hJ.jbk, j1]
  have x4 : W.cell? ⟨jb, 5, none⟩ = some (.int .i32 (n : Nat)) := by simp [World.cell?, hJ.jbk, j5]
  have x5 : W.cell? ⟨ax, 0, none⟩ = some (.int .u8 (ca : Nat)) ∧ W.cell? ⟨ax, 1, none⟩ = some va := ⟨by simp [World.cell?, hax], by simp [World.cell?, hax]⟩
  have x6 : W.cell? ⟨ay, 0, none⟩ = some (.int .u8 (cb : Nat)) ∧ W.cell? ⟨ay, 1, none⟩ = some vb := ⟨by simp [World.cell?, hay], by simp [World.cell?, hay]⟩
  have x7 : W.cell? ⟨cx, 0, none⟩ = some (.slice c0 cand.length cc) := by simp [World.cell?, hJ.cxk]
  obtain ⟨fb, fc, fcur, hfv, hfk, hfe⟩ := hD.prs
  rw [hfn] at hfv
  subst hfv
  have HFE := hid hfe
  have HDD := hid hD
  have HRS := hid hrs
  have HF := hid hF
  have HOP := hid hop
  have HLT := hid hlt
  have HOA := hid hoa
  have HOB := hid hob
  clear hJ hax hay hrs hF hD hop hlt hoa hob j0 j1 j5 hfe hfk
  obtain ⟨i0, hi0, hz0, hz1, hz2⟩ := info_parts info55
  go_wp2_with (at_make; refine wpList_make_own _ rfl _ _ 53 rfl W.heap.size 55 i0 _ 2 Yba.underlying53 hi0 hz0 hz1 .i64 .i64 (cand.length : Int) cand.length rfl rfl rfl ?b2 ?b3 ?b4 ?_)
  case b2 => rw [hz2]; omega
  case b3 => unfold maxLen; omega
  case b4 => exact Nat.le_refl _
  intro w1 hrow hgr
  have HB1 := hid (show Below W.heap.size W w1 from (Below.refl _ _).grown hgr (Nat.le_refl _) (fun k hk => by cases hk))
  have HO1 := hid hrow
  clear hrow hgr
  have y7 := (HB1.out.cell (block_lt_of_cell x7)).trans x7
  go_upto_block 18 with fail
  clear y7
  go_cut [36, 252] from 252 to 290 (fun v36 _ wx => v36.ownBlock ≠ none ∧ Below W.heap.size W wx ∧ wx.ownsRow W.heap.size 55 2 v36 (diffJ (cellJ opf fr ca cb la lb) cm cand).length (cells2 (diffJ (cellJ opf fr ca cb la lb) cm cand)))
  case first =>
    go_wp2_with fail
    go_loopw [36, 252] (fun v36 vi wr => ∃ i : Nat, i ≤ cand.length ∧ vi = .int .i64 i ∧ v36.ownBlock ≠ none ∧ Below W.heap.size W wr ∧ wr.ownsRow W.heap.size 55 2 v36 (diffJ (cellJ opf fr ca cb la lb) cm (cand.take i)).length (cells2 (diffJ (cellJ opf fr ca cb la lb) cm (cand.take i)))) (fun _ vi _ => cand.length - (intOf vi).toNat)
    case atStart => exact ⟨0, by omega, rfl, by simp [Value.ownBlock], HB1.out, HO1.out⟩
    case round =>
      obtain ⟨i, hi, rfl, hnn, hb, ho⟩ := hrel
      clear HB1 HO1
      have HB := hid hb
      have HO := hid ho
      have HNN := hid hnn
      clear hb ho hnn
      rename_i wr _
      generalize wr = wo at HB HO ⊢
      rcases Nat.lt_or_ge i cand.length with hlt | hge
      · have t1 : (i : Int) < (cand.length : Int) := by omega
        have hx : cand[i]? = some cand[i] := by simp [hlt]
        obtain ⟨b1, o1, rfl, x0⟩ := (HI.out.below HB.out).one hx
        have hln := HLT.out _ (List.mem_of_getElem? hx)
        have HTK := hid (show cand.take (i + 1) = cand.take i ++ [cand[i]] from by rw [List.take_add_one, hx]; rfl)
        clear hx
        generalize cand[i] = l at *
        have hfl : fr[l]? = some (fr.getD l (0, 0)) := by simp [List.getD, show l < fr.length by omega]
        obtain ⟨y1, y2⟩ := HFE.out l _ hfl
        have hcj : cellJ opf fr ca cb la lb l = opf (atL ca la (fr.getD l (0, 0)).1) (atL cb lb (fr.getD l (0, 0)).2) := rfl
        have HCJ := hid hcj
        clear hfl hcj
        generalize fr.getD l (0, 0) = pq at *
        obtain ⟨k, m⟩ := pq
        simp only at y1 y2 HCJ
        have t2 : (l : Int) < (n : Int) := by omega
        have hau := atL_lt HOA.out k
        have hbu := atL_lt HOB.out m
        have hla := HOA.out.len
        have hlb := HOB.out.len
        have HA := hid (fun W' (hb : Below W.heap.size W W') => at28 (HDD.out.da.below hb) HOA.out.asc (by omega) ca k)
        have HBB := hid (fun W' (hb : Below W.heap.size W W') => at28 (HDD.out.db.below hb) HOB.out.asc (by omega) cb m)
        generalize hau2 : atL ca la k = au at *
        generalize hbu2 : atL cb lb m = bu at *
        have HO3 := hid (HOP.out au bu)
        have KP := hid (fun W' (hb : Below W.heap.size W W') => (⟨(hb.cell (block_lt_of_cell x1)).trans x1, (hb.cell (block_lt_of_cell x2)).trans x2, (hb.cell (block_lt_of_cell x3)).trans x3, (hb.cell (block_lt_of_cell x5.1)).trans x5.1, (hb.cell (block_lt_of_cell x5.2)).trans x5.2, (hb.cell (block_lt_of_cell x6.1)).trans x6.1, (hb.cell (block_lt_of_cell x6.2)).trans x6.2, (hb.cell (block_lt_of_cell y1)).trans y1, (hb.cell (block_lt_of_cell y2)).trans y2, hb⟩ :
          W'.cell? ⟨bx, 0, none⟩ = some (.pointer (some ⟨jb, 0, none⟩)) ∧ W'.cell? ⟨jb, 0, none⟩ = some (.func (.func g) #[] #[]) ∧ W'.cell? ⟨jb, 1, none⟩ = some (.slice (some ⟨fb, 0, none⟩) n fc) ∧ W'.cell? ⟨ax, 0, none⟩ = some (.int .u8 (ca : Nat)) ∧ W'.cell? ⟨ax, 1, none⟩ = some va ∧ W'.cell? ⟨ay, 0, none⟩ = some (.int .u8 (cb : Nat)) ∧ W'.cell? ⟨ay, 1, none⟩ = some vb ∧ W'.cell? ⟨fb, l * 2, none⟩ = some (.int .i32 (k : Nat)) ∧ W'.cell? ⟨fb, l * 2 + 1, none⟩ = some (.int .i32 (m : Nat)) ∧ Below W.heap.size W W'))
        clear hau2 hbu2 y1 y2
        go_upto_region 63 with fail
        have hb0 : Below W.heap.size W wo.drew := HB.out.drew
        go_cut [39] from 256 to 280 (fun v wx => v = .int .u8 (opf au bu : Nat) ∧ Below wo.heap.size wo wx)
        case first =>
          go_region_held3 (fun W' => W'.cell? ⟨bx, 0, none⟩ = some (.pointer (some ⟨jb, 0, none⟩)) ∧ W'.cell? ⟨jb, 0, none⟩ = some (.func (.func g) #[] #[]) ∧ W'.cell? ⟨jb, 1, none⟩ = some (.slice (some ⟨fb, 0, none⟩) n fc) ∧ W'.cell? ⟨ax, 0, none⟩ = some (.int .u8 (ca : Nat)) ∧ W'.cell? ⟨ax, 1, none⟩ = some va ∧ W'.cell? ⟨ay, 0, none⟩ = some (.int .u8 (cb : Nat)) ∧ W'.cell? ⟨ay, 1, none⟩ = some vb ∧ W'.cell? ⟨fb, l * 2, none⟩ = some (.int .i32 (k : Nat)) ∧ W'.cell? ⟨fb, l * 2 + 1, none⟩ = some (.int .i32 (m : Nat)) ∧ Below W.heap.size W W')
            (first | exact KP.out _ hb0 | exact KP.out _ (by assumption))
            (first
              | (go_at_call 28; have hz := hbn; refine (HBB.out _ hz).mono ?_; rintro e w'' ⟨rfl, hb⟩; have hbn2 : Below W.heap.size W w'' := hz.trans (below_le hb hz.size); have hbo2 : Below wo.heap.size wo w'' := hbo.trans (below_le hb hbo.size))
              | (go_at_call 28; refine (HA.out _ hb0).mono ?_; rintro e w' ⟨rfl, hb⟩; have hbn : Below W.heap.size W w' := hb0.trans (below_le hb hb0.size); have hbo : Below wo.heap.size wo w' := (Below.drew (Below.refl _ _)).trans (below_le hb (Nat.le_refl _)))
              | (refine (HO3.out _ hau hbu).2.mono ?_; rintro e w3 ⟨rfl, rfl⟩))
          all_goals go_wp2_with fail
          all_goals go_meet
          all_goals exact ⟨rfl, hbo2⟩
        case rest =>
          obtain ⟨rfl, hbc⟩ := hcut
          have HB2 := hid (HB.out.trans (below_le hbc HB.out.size))
          have hokc := (HO3.out wo hau hbu).1
          obtain ⟨dv, hdv⟩ : ∃ dv, dv = diffJ (cellJ opf fr ca cb la lb) cm (cand.take i) := ⟨_, rfl⟩
          rw [← hdv] at HO
          have HO2 := hid (HO.out.kept (Below.grownBy hbc none) (.inr HNN.out))
          have hdl : dv.length ≤ n := by
            rw [hdv]
            have := diffJ_len (cellJ opf fr ca cb la lb) cm (cand.take i)
            have := List.length_take_le i cand
            omega
          have HDV := hid hdv
          clear hdv hbc KP HA HBB hb0
          generalize hcu : opf au bu = cu at *
          cases g3 : ((cu : Int) != (cm : Int))
          · have HD2 := hid (show diffJ (cellJ opf fr ca cb la lb) cm (cand.take (i + 1)) = dv from by
              have e : cu = cm := by simp at g3; omega
              rw [HTK.out, diffJ_append, ← HDV.out]
              simp [diffJ, HCJ.out, hcu, e])
            go_wp2_with fail
            go_roundw
            case rel => exact ⟨i + 1, by omega, rfl, HNN.out, HB2.out, by rw [HD2.out]; exact HO2.out⟩
            case measure => simp [intOf]; omega
          · have HD2 := hid (show diffJ (cellJ opf fr ca cb la lb) cm (cand.take (i + 1)) = dv ++ [(l, cu)] from by
              have e : ¬ cu = cm := by simp only [bne_iff_ne] at g3; omega
              rw [HTK.out, diffJ_append, ← HDV.out]
              simp [diffJ, HCJ.out, hcu, e])
            obtain ⟨ao, cv3, hv⟩ := owns_shape HO2.out
            subst hv
            go_wp2_with (at_builtin; refine wpList_append_own_at _ rfl _ _ 53 rfl W.heap.size 55 i0 (.agg #[.int .i32 0, .int .u8 0]) 2 8 Yba.underlying53 hi0 hz0 hz1 hz2 rfl (by decide) (.slice ao dv.length cv3) dv.length (cells2 dv) rfl ?own ⟨wc.heap.size, 0, none⟩ 1 1 [.int .i32 (l : Nat), .int .u8 (cu : Nat)] rfl rfl ?d1 ?d2 ?d3 ?d4 ?d5 ?_)
            case own => exact HO2.out.alloc _
            case d1 => exact two_new wc _ _ 55
            case d2 => intro u hu; simp at hu; rcases hu with rfl | rfl <;> rfl
            case d3 => unfold maxLen; omega
            case d4 => omega
            case d5 => have := HB2.out.size; simp; omega
            intro v' w5 hown5 hgr5 _ hob
            have HB5 := hid (show Below W.heap.size W w5 from (below_al HB2.out _).grown hgr5 (by have := HB2.out.size; simp; omega) (fun k hk => (HO2.out.lt k hk).1))
            have HO5 := hid (show w5.ownsRow W.heap.size 55 2 v' (dv ++ [(l, cu)]).length (cells2 (dv ++ [(l, cu)])) from by
              rw [cells2_append, List.length_append]
              exact hown5)
            have HN5 := hid (show v'.ownBlock ≠ none from by
              rcases hob with e | e
              · rw [e]; exact HNN.out
              · rw [e]; simp)
            clear hown5 hgr5 hob
            go_wp2_with fail
            go_roundw
            case rel => exact ⟨i + 1, by omega, rfl, HN5.out, HB5.out, by rw [HD2.out]; exact HO5.out⟩
            case measure => simp [intOf]; omega
      · have : i = cand.length := by omega
        subst this
        have t1 : ¬ (cand.length : Int) < (cand.length : Int) := by omega
        have ho := HO.out
        rw [List.take_length] at ho
        have HO2 := hid ho
        clear ho
        go_wp2_with fail
        go_meet
        case rel => exact ⟨HNN.out, HB.out, HO2.out⟩
  case rest =>
    obtain ⟨hnn, hb, ho⟩ := hcut
    clear HB1 HO1
    have hcell4 : ∀ x, cellJ opf fr ca cb la lb x < 4 := fun x => (HOP.out _ _ W (atL_lt HOA.out _) (atL_lt HOB.out _)).1
    obtain ⟨dl, hdl⟩ : ∃ dl, dl = diffJ (cellJ opf fr ca cb la lb) cm cand := ⟨_, rfl⟩
    rw [← hdl] at ho
    have hdlen : dl.length ≤ 12 := by
      rw [hdl]
      have := diffJ_len (cellJ opf fr ca cb la lb) cm cand
      omega
    rcases ho.2 with ⟨e, _⟩ | ⟨gg, cap, cur, e, hgb, hgg, hcap, _⟩
    · rw [e] at hnn
      exact absurd rfl hnn
    · subst e
      have hsort := sort32 (off := 0) (cap := cap) (l := dl) hgg (fun i p hp => by
        have hi := (List.getElem?_eq_some_iff.1 hp).1
        obtain ⟨q1, q2⟩ := cells2_get hp
        rw [Nat.zero_add]
        exact ⟨(ho.cellAt (i * 2) (by omega)).trans q1, (ho.cellAt (i * 2 + 1) (by omega)).trans q2⟩) hcap hdlen
      have HSO := hid hsort
      have HB := hid hb
      have HDL := hid hdl
      have HC4 := hid hcell4
      clear hnn hb ho hgg hsort hdl hcell4 hi0 hz0 hz1 hz2
      go_wp2_with fail
      refine HSO.out.mono ?_
      rintro e w2 ⟨rfl, srt, hperm, hord, hdiff, hg2⟩
      have HB2 := hid (HB.out.grown hg2 HB.out.size (fun k hk => by simp only [Option.some.injEq] at hk; omega))
      rw [HDL.out] at hperm
      have hok := joinRow_ok hcm HC4.out HJ.out.ok.nodup HLT.out hperm hord
      have HAT := hid (joinRow_at hok hperm)
      have HST := hid (settled19 hdiff hok (by omega))
      have z1 := (HB2.out.cell (block_lt_of_cell x1)).trans x1
      have z4 := (HB2.out.cell (block_lt_of_cell x4)).trans x4
      clear hperm hord hdiff hg2 hok
      go_wp2_with fail
      refine HST.out.mono ?_
      rintro e w3 ⟨c', v', l', rfl, hd3, hok3, hat3, _, hb3⟩
      have hbw := HB2.out.trans (below_le hb3 HB2.out.size)
      obtain ⟨a3, cap3, hv3⟩ := hd3.shape
      subst hv3
      have hrs3 := (hbw.block _ (lt_of_block HRS.out)).trans HRS.out
      have q0 : w3.cell? ⟨rs, 0, none⟩ = some (.int .u8 0) := by simp [World.cell?, hrs3]
      have q1 : w3.cell? ⟨rs, 1, none⟩ = some (.slice none 0 0) := by simp [World.cell?, hrs3]
      have q2 : ∀ j, w3.frozen? ⟨rs, j, none⟩ = false := fun j => by simp [World.frozen?, hrs3]
      have hg : w3.grownBy ((w3.setCell ⟨rs, 0, none⟩ (.int .u8 (c' : Nat))).setCell ⟨rs, 1, none⟩ (.slice a3 l'.length cap3)) (some rs) := grown_setCell (grown_setCell (World.grownBy.refl w3 _))
      have HEND := hid (show JoinPost w jb mb n made jc cand (cellJ opf fr ca cb la lb) cm (.returned (.agg #[.int .u8 (c' : Nat), .slice a3 l'.length cap3])) ((w3.setCell ⟨rs, 0, none⟩ (.int .u8 (c' : Nat))).setCell ⟨rs, 1, none⟩ (.slice a3 l'.length cap3)) from by
        have hj3 := HJ.out.below hbw
        obtain ⟨mcur, hm1, hm2⟩ := hj3.mrk.blk
        refine ⟨c', _, l', rfl, hd3.kept hg hrs3 (by decide), hok3, fun x hx => ?_, (HF.out.belowS hbw).below ((Below.refl _ _).grown hg (by have := hbw.size; have := HF.out.size; omega) (fun k hk => by simp only [Option.some.injEq] at hk; omega)), (hg.block _ (lt_of_block hj3.jbk) (fun e => ne_cc hj3.jbk hrs3 (by decide) (Option.some.inj e))).trans hj3.jbk, marks, hj3.mrk.other hg (ne_cc hm1 hrs3 (by decide)), hj3.ok.len, hj3.ok.le⟩
        have h1 := HAT.out x
        have h2 := hat3 x hx
        exact ⟨fun hc => h2.trans (h1.1 hc), fun hc => h2.trans (h1.2 hc)⟩)
      have HR3 := hid hrs3
      clear hd3 hok3 hat3 hb3 hbw hrs3 hg
      go_wp2_with fail
      rw [← HQ.out]
      exact row_ret rfl HR3.out (HRR.out _ _ HEND.out)
end Go.Proofs.Ybulkatiq
