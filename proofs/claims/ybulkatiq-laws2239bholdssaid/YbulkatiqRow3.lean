/-
  join: the entries of the two rows.
-/
import Derived.Test.YbulkatiqRow3a
import Derived.Test.YbulkatiqRow5
set_option linter.unusedVariables false
set_option linter.unusedSimpArgs false
namespace Go.Proofs.Ybulkatiq
open Go.ChangeShapes Go.WideShapes Go.ChangeAt Go.RowKit Go.Maps Go.WideMaps

theorem take_keep {W W' : World} {base bx jb mb cx n mc made l : Nat} {jc : Array Value} {marks cand : List Nat} {cv : Value} {e : Ending} (h : JC W base bx jb mb cx jc n mc made marks cand cv) (hp : TakePost W base bx jb mb cx jc n mc made cand cv l e W') {b : Nat} {cs : Array Value} {t : TypeId} (hb : W.heap[b]? = some (.cells cs t (0, 0))) (h21 : t ≠ 21) (h70 : t ≠ 70) : W'.heap[b]? = some (.cells cs t (0, 0)) := by
  obtain ⟨_, _, _, _, _, _, _, ht⟩ := hp
  obtain ⟨mcur, hm1, _⟩ := h.mrk.blk
  exact (ht.block b (lt_of_block hb) (ne_cc hb hm1 h21) (ne_cc hb h.cxk h70) (ownI_ne h.own hb h21)).trans hb

/-- i0 entries of the first row and i1 of the second have been looked at. -/
def JRel (w wr : World) (base bx jb mb cx ax ay rs qx rx : Nat) (jc : Array Value) (n mc made ca cb : Nat) (va vb : Value) (fr : List (Nat × Nat)) (opf : Nat → Nat → Nat) (cm : Nat) (la lb : List (Nat × Nat)) (i0 i1 : Nat) : Prop :=
  ∃ (marks' cand' : List Nat) (cv' q0 q1 : Value), JQ w wr base bx jb mb cx ax ay rs qx jc n mc made ca cb va vb marks' cand' cv' q0 q1 (quietOf (fun c => opf c cb) cm (la.take i0)) (quietOf (fun c => opf c ca) cm (lb.take i1)) ∧ wr.heap[rx]? = some (.cells #[.int .u8 (ca : Nat), va, .int .u8 (cb : Nat), vb] 85 (0, 0)) ∧ (∀ (x m : Nat) (d : Nat × Nat), d ∈ la.take i0 → opf d.2 cb ≠ cm → fr[x]? = some (d.1, m) → x ∈ cand') ∧ (∀ (x m : Nat) (d : Nat × Nat), d ∈ lb.take i1 → opf d.2 ca ≠ cm → fr[x]? = some (m, d.1) → x ∈ cand')

theorem JRel.below {w wr wx : World} {base bx jb mb cx ax ay rs qx rx : Nat} {jc : Array Value} {n mc made ca cb : Nat} {va vb : Value} {fr : List (Nat × Nat)} {opf : Nat → Nat → Nat} {cm : Nat} {la lb : List (Nat × Nat)} {i0 i1 : Nat} (h : JRel w wr base bx jb mb cx ax ay rs qx rx jc n mc made ca cb va vb fr opf cm la lb i0 i1) (hb : Below wr.heap.size wr wx) : JRel w wx base bx jb mb cx ax ay rs qx rx jc n mc made ca cb va vb fr opf cm la lb i0 i1 := by
  obtain ⟨m, c, v, q0, q1, h1, h2, h3, h4⟩ := h
  exact ⟨m, c, v, q0, q1, h1.below hb, (hb.block _ (lt_of_block h2)).trans h2, h3, h4⟩

set_option maxRecDepth 100000 in
set_option maxHeartbeats 12800000 in
theorem rowJ3 {w W : World} {base bx jb mb cx ax ay rs qx rx n mc made g ca cb cm na nb : Nat} {jc : Array Value} {marks : List Nat} {cv fromv atv of0 of1 va vb : Value} {fr : List (Nat × Nat)} {L0 L1 : Nat → List Nat} {U0 U1 : Nat → Value} {la lb : List (Nat × Nat)} {opf : Nat → Nat → Nat}
    (hJ : JQ w W base bx jb mb cx ax ay rs qx jc n mc made ca cb va vb marks [] cv (.slice none 0 0) (.slice none 0 0) [] []) (hrx : W.heap[rx]? = some (.cells #[.int .u8 (ca : Nat), va, .int .u8 (cb : Nat), vb] 85 (0, 0))) (hqb : base ≤ qx)
    (hD : ∀ W', Fr2 jb mb w W' → RD W' fromv atv of0 of1 va vb fr L0 L1 U0 U1 na nb la lb) (hS : RJS fr L0 L1 n na nb) (j0 : jc[0]? = some (.func (.func g) #[] #[])) (j1 : jc[1]? = some fromv) (j2 : jc[2]? = some atv) (j3 : jc[3]? = some of0) (j4 : jc[4]? = some of1) (j5 : jc[5]? = some (.int .i32 (n : Nat))) (hop : OpOk g opf) (heg : ∀ args w, (callFunc g args).run Yba.prog w = .ok (.enter g args) w)
    (hoa : RowOk na ca la) (hob : RowOk nb cb lb) (hna : na ≤ 16) (hnb : nb ≤ 16) (hn : n ≤ 12) (hcm : cm < 4)
    {RR : Ending → World → Prop}
    {u0 u1 u2 u12 u13 u14 u15 u16 u17 u18 u19 u20 u21 u22 u23 u24 u25 u26 u27 u28 u29 u30 u31 u32 u33 u34 u35 u36 u37 u38 u39 u40 u41 u42 u43 u44 u45 u46 u47 u48 u49 u50 u51 u52 u53 u54 u55 u56 u57 u58 u59 u60 u61 u62 u63 u64 u65 u66 u67 u68 u69 u70 u71 u72 u73 u74 u75 u76 u77 u78 u79 u80 u81 u82 u83 u84 u85 u86 u87 u88 u89 u90 u91 u92 u93 u94 u95 u96 u97 u98 u99 u100 u101 u102 u103 u104 u105 u106 u107 u108 u109 u110 u111 u112 u113 u114 u115 u116 u117 u118 u119 u120 u121 u122 u123 u124 u125 u126 u127 u128 u129 u130 u131 u132 u133 u134 u135 u136 u137 u138 u139 u140 u141 u142 u143 u144 u145 u146 u147 u148 u149 u150 u151 u152 u153 u154 u155 u156 u157 u158 u159 u160 u161 u162 u163 u164 u165 u166 u167 u168 u169 u170 u171 u172 u173 u174 u175 u176 u177 u178 u179 u180 u181 u182 u183 u184 u185 u186 u187 u188 u189 u190 u191 u192 u193 u194 u195 u196 u197 u198 u199 u200 u201 u202 u203 u204 u205 u206 u207 u208 u209 u210 u211 u212 u213 u214 u215 u216 u217 u218 u219 u220 u221 u222 u223 u224 u225 u226 u227 u228 u229 u230 u231 u232 u233 u234 u235 u236 u237 u238 u239 u240 u241 u242 u243 u244 u245 u246 u247 u248 u249 u250 u251 u252 u253 u254 u255 u256 u257 u258 u259 u260 u261 u262 u263 u264 u265 u266 u267 u268 u269 u270 u271 u272 u273 u274 u275 u276 u277 u278 u279 u280 u281 u282 u283 u284 u285 u286 u287 u288 u289 u290 u291 u292 u293 u294 u295 u296 u297 u298 u299 : Value}
    (hNext : ∀ (W' : World) (marks' cand' : List Nat) (cv' q0 q1 : Value), JQ w W' base bx jb mb cx ax ay rs qx jc n mc made ca cb va vb marks' cand' cv' q0 q1 (quietOf (fun c => opf c cb) cm la) (quietOf (fun c => opf c ca) cm lb) → (∀ (x m : Nat) (d : Nat × Nat), d ∈ la → opf d.2 cb ≠ cm → fr[x]? = some (d.1, m) → x ∈ cand') → (∀ (x m : Nat) (d : Nat × Nat), d ∈ lb → opf d.2 ca ≠ cm → fr[x]? = some (m, d.1) → x ∈ cand') → ∀ (t0 t1 t2 t3 t4 t5 t6 t7 t8 t9 t10 t11 t12 t13 t14 t15 t16 t17 t18 t19 t20 t21 t22 t23 t24 t25 t26 t27 t28 t29 t30 t31 t32 t33 t34 t35 t36 t37 t38 t39 t40 t41 t42 t43 t44 t45 t46 t47 t48 t49 t50 t51 t52 t53 t54 t55 t56 t57 t58 t59 t60 t61 t62 t63 t64 t65 t66 t67 t68 t69 t70 t71 t72 t73 t74 t75 t76 t77 t78 t79 t80 t81 t82 t83 t84 t85 t86 t87 t88 t89 t90 t91 t92 t93 t94 t95 t96 t97 t98 t99 t100 t101 t102 t103 t104 t105 t106 t107 t108 t109 t110 t111 t112 t113 t114 t115 t116 t117 t118 t119 t120 t121 t122 t123 t124 t125 t126 t127 t128 t129 t130 t131 t132 t133 t134 t135 t136 t137 t138 t139 t140 t141 t142 t143 t144 t145 t146 t147 t148 t149 t150 t151 t152 t153 t154 t155 t156 t157 t158 t159 t160 t161 t162 t163 t164 t165 t166 t167 t168 t169 t170 t171 t172 t173 t174 t175 t176 t177 t178 t179 t180 t181 t182 t183 t184 t185 t186 t187 t188 t189 t190 t191 t192 t193 t194 t195 t196 t197 t198 t199 t200 t201 t202 t203 t204 t205 t206 t207 t208 t209 t210 t211 t212 t213 t214 t215 t216 t217 t218 t219 t220 t221 t222 t223 t224 t225 t226 t227 t228 t229 t230 t231 t232 t233 t234 t235 t236 t237 t238 t239 t240 t241 t242 t243 t244 t245 t246 t247 t248 t249 t250 t251 t252 t253 t254 t255 t256 t257 t258 t259 t260 t261 t262 t263 t264 t265 t266 t267 t268 t269 t270 t271 t272 t273 t274 t275 t276 t277 t278 t279 t280 t281 t282 t283 t284 t285 t286 t287 t288 t289 t290 t291 t292 t293 t294 t295 t296 t297 t298 t299 : Value), t3 = .pointer (some ⟨bx, 0, none⟩) → t4 = .pointer (some ⟨ax, 0, none⟩) → t5 = .pointer (some ⟨ay, 0, none⟩) → t6 = .pointer (some ⟨rs, 0, none⟩) → t7 = .int .u8 (cm : Nat) → t8 = .pointer (some ⟨cx, 0, none⟩) → t9 = .func (.func 30) #[] #[.pointer (some ⟨bx, 0, none⟩), .pointer (some ⟨cx, 0, none⟩)] → t10 = .pointer (some ⟨qx, 0, none⟩) → Code.wp Yba.prog (dropC 8 (codeOf Yba.f25)) (bodyPost Yba.prog Yba.f25 RR) ⟨#[t0, t1, t2, t3, t4, t5, t6, t7, t8, t9, t10, t11, t12, t13, t14, t15, t16, t17, t18, t19, t20, t21, t22, t23, t24, t25, t26, t27, t28, t29, t30, t31, t32, t33, t34, t35, t36, t37, t38, t39, t40, t41, t42, t43, t44, t45, t46, t47, t48, t49, t50, t51, t52, t53, t54, t55, t56, t57, t58, t59, t60, t61, t62, t63, t64, t65, t66, t67, t68, t69, t70, t71, t72, t73, t74, t75, t76, t77, t78, t79, t80, t81, t82, t83, t84, t85, t86, t87, t88, t89, t90, t91, t92, t93, t94, t95, t96, t97, t98, t99, t100, t101, t102, t103, t104, t105, t106, t107, t108, t109, t110, t111, t112, t113, t114, t115, t116, t117, t118, t119, t120, t121, t122, t123, t124, t125, t126, t127, t128, t129, t130, t131, t132, t133, t134, t135, t136, t137, t138, t139, t140, t141, t142, t143, t144, t145, t146, t147, t148, t149, t150, t151, t152, t153, t154, t155, t156, t157, t158, t159, t160, t161, t162, t163, t164, t165, t166, t167, t168, t169, t170, t171, t172, t173, t174, t175, t176, t177, t178, t179, t180, t181, t182, t183, t184, t185, t186, t187, t188, t189, t190, t191, t192, t193, t194, t195, t196, t197, t198, t199, t200, t201, t202, t203, t204, t205, t206, t207, t208, t209, t210, t211, t212, t213, t214, t215, t216, t217, t218, t219, t220, t221, t222, t223, t224, t225, t226, t227, t228, t229, t230, t231, t232, t233, t234, t235, t236, t237, t238, t239, t240, t241, t242, t243, t244, t245, t246, t247, t248, t249, t250, t251, t252, t253, t254, t255, t256, t257, t258, t259, t260, t261, t262, t263, t264, t265, t266, t267, t268, t269, t270, t271, t272, t273, t274, t275, t276, t277, t278, t279, t280, t281, t282, t283, t284, t285, t286, t287, t288, t289, t290, t291, t292, t293, t294, t295, t296, t297, t298, t299], []⟩ W') :
    Code.wp Yba.prog (dropC 7 (codeOf Yba.f25)) (bodyPost Yba.prog Yba.f25 RR) ⟨#[u0, u1, u2, .pointer (some ⟨bx, 0, none⟩), .pointer (some ⟨ax, 0, none⟩), .pointer (some ⟨ay, 0, none⟩), .pointer (some ⟨rs, 0, none⟩), .int .u8 (cm : Nat), .pointer (some ⟨cx, 0, none⟩), .func (.func 30) #[] #[.pointer (some ⟨bx, 0, none⟩), .pointer (some ⟨cx, 0, none⟩)], .pointer (some ⟨qx, 0, none⟩), .pointer (some ⟨rx, 0, none⟩), u12, u13, u14, u15, u16, u17, u18, u19, u20, u21, u22, u23, u24, u25, u26, u27, u28, u29, u30, u31, u32, u33, u34, u35, u36, u37, u38, u39, u40, u41, u42, u43, u44, u45, u46, u47, u48, u49, u50, u51, u52, u53, u54, u55, u56, u57, u58, u59, u60, u61, u62, u63, u64, u65, u66, u67, u68, u69, u70, u71, u72, u73, u74, u75, u76, u77, u78, u79, u80, u81, u82, u83, u84, u85, u86, u87, u88, u89, u90, u91, u92, u93, u94, u95, u96, u97, u98, u99, u100, u101, u102, u103, u104, u105, u106, u107, u108, u109, u110, u111, u112, u113, u114, u115, u116, u117, u118, u119, u120, u121, u122, u123, u124, u125, u126, u127, u128, u129, u130, u131, u132, u133, u134, u135, u136, u137, u138, u139, u140, u141, u142, u143, u144, u145, u146, u147, u148, u149, u150, u151, u152, u153, u154, u155, u156, u157, u158, u159, u160, u161, u162, u163, u164, u165, u166, u167, u168, u169, u170, u171, u172, u173, u174, u175, u176, u177, u178, u179, u180, u181, u182, u183, u184, u185, u186, u187, u188, u189, u190, u191, u192, u193, u194, u195, u196, u197, u198, u199, u200, u201, u202, u203, u204, u205, u206, u207, u208, u209, u210, u211, u212, u213, u214, u215, u216, u217, u218, u219, u220, u221, u222, u223, u224, u225, u226, u227, u228, u229, u230, u231, u232, u233, u234, u235, u236, u237, u238, u239, u240, u241, u242, u243, u244, u245, u246, u247, u248, u249, u250, u251, u252, u253, u254, u255, u256, u257, u258, u259, u260, u261, u262, u263, u264, u265, u266, u267, u268, u269, u270, u271, u272, u273, u274, u275, u276, u277, u278, u279, u280, u281, u282, u283, u284, u285, u286, u287, u288, u289, u290, u291, u292, u293, u294, u295, u296, u297, u298, u299], []⟩ W := by
  have HN := hid hNext
  have HJ := hid hJ
  have HD := hid hD
  have HS := hid hS
  have HOP := hid hop
  have HOA := hid hoa
  have HOB := hid hob
  have HRX := hid hrx
  have r0 : W.cell? ⟨rx, 0, none⟩ = some (.int .u8 (ca : Nat)) := by simp [World.cell?, hrx]
  have r1 : W.cell? ⟨rx, 1, none⟩ = some va := by simp [World.cell?, hrx]
  have r2 : W.cell? ⟨rx, 2, none⟩ = some (.int .u8 (cb : Nat)) := by simp [World.cell?, hrx]
  have r3 : W.cell? ⟨rx, 3, none⟩ = some vb := by simp [World.cell?, hrx]
  obtain ⟨aa, cpa, hva⟩ := (hD W hJ.fr).da.shape
  obtain ⟨ab, cpb, hvb⟩ := (hD W hJ.fr).db.shape
  subst hva
  subst hvb
  clear hNext hJ hD hS hop hoa hob hrx
  generalize hQ : bodyPost Yba.prog Yba.f25 RR = Q
  have HQ := hid hQ
  clear hQ
  simp only [dropC, codeOf, Yba.f25, Option.getD_some]
  refine wp_seq_k (fun K hK => ?_)
  have HK := hid hK
  clear hK
  go_upto_block 0 with fail
  have hix0 := idx85_0
  have hix1 := idx85_1
  have HR0 := hid (show JRel w W base bx jb mb cx ax ay rs qx rx jc n mc made ca cb (.slice aa la.length cpa) (.slice ab lb.length cpb) fr opf cm la lb (0) (0) from ⟨marks, [], cv, _, _, HJ.out, HRX.out, fun x m d hd => by simp at hd, fun x m d hd => by simp at hd⟩)
  clear r0 r1 r2 r3
  go_wp2_with fail
  go_loopw [61] (fun vs wr => ∃ sd : Nat, sd ≤ 2 ∧ vs = .int .i64 sd ∧ ((sd = 0 ∧ JRel w wr base bx jb mb cx ax ay rs qx rx jc n mc made ca cb (.slice aa la.length cpa) (.slice ab lb.length cpb) fr opf cm la lb (0) (0)) ∨ (sd = 1 ∧ JRel w wr base bx jb mb cx ax ay rs qx rx jc n mc made ca cb (.slice aa la.length cpa) (.slice ab lb.length cpb) fr opf cm la lb (la.length) (0)) ∨ (sd = 2 ∧ JRel w wr base bx jb mb cx ax ay rs qx rx jc n mc made ca cb (.slice aa la.length cpa) (.slice ab lb.length cpb) fr opf cm la lb (la.length) (lb.length)))) (fun vs _ => 2 - (intOf vs).toNat)
  case atStart => exact ⟨0, by omega, rfl, .inl ⟨rfl, HR0.out⟩⟩
  case round =>
    obtain ⟨sd, hsd, rfl, hrel⟩ := hrel
    clear HR0
    rcases hrel with ⟨rfl, hrel⟩ | ⟨rfl, hrel⟩ | ⟨rfl, hrel⟩
    · have HRL := hid hrel
      simp only [show ((0 : Nat) : Int) = 0 from rfl]
      go_upto_block 1 with fail
      go_cut [68] from 63 to 114 (fun _ wx => JRel w wx base bx jb mb cx ax ay rs qx rx jc n mc made ca cb (.slice aa la.length cpa) (.slice ab lb.length cpb) fr opf cm la lb (la.length) (0))
      case first =>
        go_wp2_with fail
        have HR1 := hid (hrel.below (below_al (Below.refl _ _) (.cells #[.int .u8 (ca : Nat), .slice aa la.length cpa] 57)))
        clear HRL
        generalize wr.alloc (.cells #[.int .u8 (ca : Nat), .slice aa la.length cpa] 57) = wp at HR1 ⊢
        go_loopw [68] (fun vi wr => ∃ i : Nat, i ≤ la.length ∧ vi = .int .i64 i ∧ JRel w wr base bx jb mb cx ax ay rs qx rx jc n mc made ca cb (.slice aa la.length cpa) (.slice ab lb.length cpb) fr opf cm la lb (i) (0)) (fun vi _ => la.length - (intOf vi).toNat)
        case atStart => exact ⟨0, by omega, rfl, HR1.out⟩
        case round =>
          obtain ⟨i, hi, rfl, hjr⟩ := hrel
          clear HR1
          have HR := hid hjr
          rcases Nat.lt_or_ge i la.length with hlt2 | hge2
          · have t4 : (i : Int) < (la.length : Int) := by omega
            have hfr : Fr2 jb mb w wr := by
              obtain ⟨_, _, _, _, _, h1, _⟩ := hjr
              exact h1.fr
            have hp : la[i]? = some la[i] := by simp [hlt2]
            obtain ⟨b1, o1, rfl, _, x0, x1⟩ := (HD.out _ hfr).da.one hp
            have hq := HOA.out.each i _ hp
            have HTK := hid (show la.take (i + 1) = la.take i ++ [la[i]] from by rw [List.take_add_one, hp]; rfl)
            clear hp hjr hfr
            generalize la[i] = d at *
            obtain ⟨d1, d2⟩ := d
            simp only at hq x0 x1
            have hb2 : Below wr.heap.size wr (wr.alloc (.cells #[.int .i32 (d1 : Nat), .int .u8 (d2 : Nat)] 55)) := below_al (Below.refl _ _) _
            have HR2 := hid (HR.out.below hb2)
            have z0 := new2_0' wr (.int .i32 (d1 : Nat)) (.int .u8 (d2 : Nat)) 55
            have z1 := new2_1' wr (.int .i32 (d1 : Nat)) (.int .u8 (d2 : Nat)) 55
            have ZB := hid (heap_new wr (.cells #[.int .i32 (d1 : Nat), .int .u8 (d2 : Nat)] 55))
            clear hb2
            go_upto_region 13 with fail
            generalize wr.alloc (.cells #[.int .i32 (d1 : Nat), .int .u8 (d2 : Nat)] 55) = W2 at HR2 ZB z0 z1 ⊢
            generalize wr.heap.size = D at ZB z0 z1 ⊢
            obtain ⟨marks', cand', cv', q0, q1, hjq, hrx, hld0, hld1⟩ := HR2.out
            have HJQ := hid hjq
            have HRX2 := hid hrx
            have HL0 := hid hld0
            have HL1 := hid hld1
            have hw10 : IntKind.i64.wrap (1 : Int) = 1 := by decide
            have hw11 : IntKind.i64.wrap (0 : Int) = 0 := by decide
            have x3 : W2.cell? ⟨bx, 0, none⟩ = some (.pointer (some ⟨jb, 0, none⟩)) := by simp [World.cell?, hjq.jc.bxk]
            have x4 : W2.cell? ⟨jb, 0, none⟩ = some (.func (.func g) #[] #[]) := by simp [World.cell?, hjq.jc.jbk, j0]
            have x5 : W2.cell? ⟨rx, 2, none⟩ = some (.int .u8 (cb : Nat)) := by simp [World.cell?, hrx]
            have KP := hid (fun W' (hb : Below W2.heap.size W2 W') => (⟨(hb.cell (block_lt_of_cell x3)).trans x3, (hb.cell (block_lt_of_cell x4)).trans x4, (hb.cell (block_lt_of_cell z1)).trans z1, (hb.cell (block_lt_of_cell x5)).trans x5, hb⟩ : W'.cell? ⟨bx, 0, none⟩ = some (.pointer (some ⟨jb, 0, none⟩)) ∧ W'.cell? ⟨jb, 0, none⟩ = some (.func (.func g) #[] #[]) ∧ W'.cell? ⟨D, 1, none⟩ = some (.int .u8 (d2 : Nat)) ∧ W'.cell? ⟨rx, 2, none⟩ = some (.int .u8 (cb : Nat)) ∧ Below W2.heap.size W2 W'))
            have hco := HOB.out.cell
            have HOC := hid (fun W' => (HOP.out d2 cb W' hq.2.1 hco).2)
            have hcu4 := (HOP.out d2 cb W2 hq.2.1 hco).1
            have hb0 : Below W2.heap.size W2 W2.drew := (Below.refl _ _).drew
            clear hjq hrx hld0 hld1 x3 x4 x5 HR2 HR
            generalize hcu : opf d2 cb = cu at *
            have HCU := hid hcu
            clear hcu
            go_cut [85] from 72 to 85 (fun v wx => v = .bool ((cu : Int) == (cm : Int)) ∧ Below W2.heap.size W2 wx)
            case first =>
              go_region_held3 (fun W' => W'.cell? ⟨bx, 0, none⟩ = some (.pointer (some ⟨jb, 0, none⟩)) ∧ W'.cell? ⟨jb, 0, none⟩ = some (.func (.func g) #[] #[]) ∧ W'.cell? ⟨D, 1, none⟩ = some (.int .u8 (d2 : Nat)) ∧ W'.cell? ⟨rx, 2, none⟩ = some (.int .u8 (cb : Nat)) ∧ Below W2.heap.size W2 W')
                (first | exact KP.out _ hb0 | exact KP.out _ (by assumption))
                ((refine (HOC.out _).mono ?_; rintro e w3 ⟨rfl, rfl⟩; dsimp only))
              all_goals go_wp2_with fail
              all_goals go_meet
              all_goals exact ⟨rfl, hb0⟩
            case rest =>
              obtain ⟨rfl, hbc⟩ := hcut
              have HJ3 := hid (HJQ.out.below hbc)
              have HRX3 := hid ((hbc.block _ (lt_of_block HRX2.out)).trans HRX2.out)
              have z0' := (hbc.cell (block_lt_of_cell z0)).trans z0
              have ZB2 := hid ((hbc.block _ (lt_of_block ZB.out)).trans ZB.out)
              clear hbc KP HOC HJQ HRX2 ZB z0 z1 hb0
              cases g3 : ((cu : Int) == (cm : Int))
              · have hne : cu ≠ cm := by simp only [beq_eq_false_iff_ne] at g3; omega
                have HNE := hid hne
                have hdn : d1 < na := hq.1
                obtain ⟨ob, oc, hov, hoe⟩ := (HD.out _ HJ3.out.fr).o0
                obtain ⟨hu, hiu⟩ := hoe d1 hdn
                obtain ⟨ua, uc, hu2⟩ := hiu.shape
                rw [hu2] at hu
                have HIU := hid (show ∀ W', Fr2 jb mb w W' → IntsAt W' (.slice ua (L0 d1).length uc) (L0 d1) from fun W' hf => by
                  obtain ⟨ob', oc', _, hoe'⟩ := (HD.out _ hf).o0
                  have := (hoe' d1 hdn).2
                  rw [hu2] at this
                  exact this)
                have HLM := hid (fun x => HS.out.l0 d1 x hdn)
                have hls := HS.out.s0 d1 hdn
                have v1 : wc.cell? ⟨bx, 0, none⟩ = some (.pointer (some ⟨jb, 0, none⟩)) := by simp [World.cell?, HJ3.out.jc.bxk]
                have v2 : wc.cell? ⟨jb, 3, none⟩ = some (.slice (some ⟨ob, 0, none⟩) na oc) := by simp [World.cell?, HJ3.out.jc.jbk, j3, hov]
                have t5 : (d1 : Int) < (na : Int) := by omega
                clear hoe hiu hu2 hov hne
                go_wp2_with fail
                go_quiet (fail)
                have hbq : Below wc.heap.size wc (wc.drewN nq) := below_drewN (Below.refl _ _) nq
                have HJ4 := hid (HJ3.out.below hbq)
                have HRX4 := hid ((hbq.block _ (lt_of_block HRX3.out)).trans HRX3.out)
                clear hbq HJ3 HRX3 v1 v2 hu z0'
                generalize wc.drewN nq = wd at HJ4 HRX4 ⊢
                go_wp2_with fail
                go_loopw [106] (fun vi wr => ∃ (i2 : Nat) (marks2 cand2 : List Nat) (cv2 : Value), i2 ≤ (L0 d1).length ∧ vi = .int .i64 i2 ∧ JQ w wr base bx jb mb cx ax ay rs qx jc n mc made ca cb (.slice (some ⟨b1, o1, none⟩) la.length cpa) (.slice ab lb.length cpb) marks2 cand2 cv2 q0 q1 (quietOf (fun c => opf c cb) cm (la.take (i))) (quietOf (fun c => opf c ca) cm (lb.take (0))) ∧ wr.heap[rx]? = some (.cells #[.int .u8 (ca : Nat), .slice (some ⟨b1, o1, none⟩) la.length cpa, .int .u8 (cb : Nat), .slice ab lb.length cpb] 85 (0, 0)) ∧ (∀ x, x ∈ cand' → x ∈ cand2) ∧ ∀ x, x ∈ (L0 d1).take i2 → x ∈ cand2) (fun vi _ => (L0 d1).length - (intOf vi).toNat)
                case atStart => exact ⟨0, marks', cand', cv', by omega, rfl, HJ4.out, HRX4.out, fun x h => h, fun x hx => by simp at hx⟩
                case round =>
                  obtain ⟨i2, marks2, cand2, cv2, hi2, rfl, hjq, hrx, hsub, hin⟩ := hrel
                  clear HJ4 HRX4
                  have HJ4 := hid hjq
                  have HRX4 := hid hrx
                  have HSB := hid hsub
                  have HIN := hid hin
                  clear hjq hrx hsub hin
                  rcases Nat.lt_or_ge i2 (L0 d1).length with hlt3 | hge3
                  · have t9 : (i2 : Int) < ((L0 d1).length : Int) := by omega
                    have hx : (L0 d1)[i2]? = some (L0 d1)[i2] := by simp [hlt3]
                    obtain ⟨b2, o2, rfl, y0⟩ := (HIU.out _ HJ4.out.fr).one hx
                    obtain ⟨mm, hfl⟩ := (HLM.out _).1 (List.mem_of_getElem? hx)
                    have HTK2 := hid (show (L0 d1).take (i2 + 1) = (L0 d1).take i2 ++ [(L0 d1)[i2]] from by rw [List.take_add_one, hx]; rfl)
                    clear hx
                    generalize (L0 d1)[i2] = x at *
                    have hxn : x < n := by have := (List.getElem?_eq_some_iff.1 hfl).1; have := HS.out.len; omega
                    have hcl : cand2.length ≤ n := nodup_le n cand2 HJ4.out.jc.ok.nodup (fun x hx => ((HJ4.out.jc.ok.iff x).1 hx).1)
                    have HTAKE := hid (take30 HJ4.out.jc hxn (by omega) (by omega))
                    clear hfl
                    go_wp2_with fail
                    refine HTAKE.out.mono ?_
                    rintro e wt hp
                    have hrx5 := take_keep HJ4.out.jc hp HRX4.out (by decide) (by decide)
                    obtain ⟨rfl, marks3, cand3, cv3, hjq3, hin3, hsub3⟩ := HJ4.out.take hp
                    have HJ5 := hid hjq3
                    have HRX5 := hid hrx5
                    have HI3 := hid hin3
                    have HS3 := hid hsub3
                    clear hp hjq3 hin3 hsub3 hrx5
                    go_wp2_with fail
                    go_roundw
                    case rel =>
                      refine ⟨i2 + 1, marks3, cand3, cv3, by omega, rfl, HJ5.out, HRX5.out, fun x hx => HS3.out x (HSB.out x hx), fun x hx => ?_⟩
                      rw [HTK2.out] at hx
                      rcases List.mem_append.1 hx with h1 | h1
                      · exact HS3.out x (HIN.out x h1)
                      · simp only [List.mem_singleton] at h1
                        subst h1
                        exact HI3.out
                    case measure => simp [intOf]; omega
                  · have hie : i2 = (L0 d1).length := by omega
                    have t9 : ¬ (i2 : Int) < ((L0 d1).length : Int) := by omega
                    have hll := HOA.out.len
                    have HFIN := hid (show JRel w wr base bx jb mb cx ax ay rs qx rx jc n mc made ca cb (.slice (some ⟨b1, o1, none⟩) la.length cpa) (.slice ab lb.length cpb) fr opf cm la lb (i + 1) (0) from ⟨marks2, cand2, cv2, q0, q1, by
                      have e : quietOf (fun c => opf c cb) cm (la.take (i + 1)) = quietOf (fun c => opf c cb) cm (la.take i) := by
                        rw [HTK.out, quietOf_append]
                        simp [quietOf, HCU.out, HNE.out]
                      rw [e]
                      exact HJ4.out, HRX4.out, (fun x m d hd hne hfx => by
                      rw [HTK.out] at hd
                      rcases List.mem_append.1 hd with h1 | h1
                      · exact HSB.out x (HL0.out x m d h1 hne hfx)
                      · simp only [List.mem_singleton] at h1
                        subst h1
                        exact HIN.out x (by rw [hie, List.take_length]; exact (HLM.out x).2 ⟨m, hfx⟩)), (fun x m d hd hne hfx => HSB.out x (HL1.out x m d hd hne hfx))⟩)
                    go_wp2_with fail
                    go_roundw
                    case rel => exact ⟨i + 1, by omega, by simp, HFIN.out⟩
                    case measure => simp [intOf]; omega
              · have hqe : cu = cm := by simp only [beq_iff_eq] at g3; omega
                have HQE := hid hqe
                have hll := HOA.out.len
                have hql := quietOf_len (fun c => opf c cb) cm (la.take i)
                rw [List.length_take] at hql
                obtain ⟨a5, L5, c5, w5, hrun, hjq5, hrx5, hqx5, hD5, hD6⟩ := HJ3.out.step0 (k := d1) hqb (by omega) HRX3.out ZB2.out
                have HFIN := hid (show JRel w (w5.setCell ⟨qx, 0, none⟩ (.slice a5 L5 c5)) base bx jb mb cx ax ay rs qx rx jc n mc made ca cb (.slice (some ⟨b1, o1, none⟩) la.length cpa) (.slice ab lb.length cpb) fr opf cm la lb (i + 1) (0) from ⟨marks', cand', cv', _, _, by
                  have e : quietOf (fun c => opf c cb) cm (la.take (i + 1)) = quietOf (fun c => opf c cb) cm (la.take i) ++ [d1] := by
                    rw [HTK.out, quietOf_append]
                    simp [quietOf, HCU.out, HQE.out]
                  rw [e]
                  exact hjq5, hrx5, (fun x m d hd hne hfx => by
                  rw [HTK.out] at hd
                  rcases List.mem_append.1 hd with h1 | h1
                  · exact HL0.out x m d h1 hne hfx
                  · simp only [List.mem_singleton] at h1
                    subst h1
                    exact absurd (HCU.out.trans HQE.out) hne), (fun x m d hd hne hfx => HL1.out x m d hd hne hfx)⟩)
                have p1 : wc.drew.cell? ⟨qx, 0, none⟩ = some q0 := by show wc.cell? _ = _; simp [World.cell?, HJ3.out.hqx]
                have hb1 : Below wc.heap.size wc (wc.alloc (.cells #[.int .i32 (d1 : Nat)] 21)).drew := Below.drew (below_al (Below.refl _ _) _)
                have r1 : (wc.alloc (.cells #[.int .i32 (d1 : Nat)] 21)).drew.cell? ⟨qx, 0, none⟩ = some q0 := (hb1.cell (lt_of_block HJ3.out.hqx)).trans p1
                have y2 : (wc.alloc (.cells #[.int .i32 (d1 : Nat)] 21)).drew.cell? ⟨D, 0, none⟩ = some (.int .i32 (d1 : Nat)) := (hb1.cell (block_lt_of_cell z0')).trans z0'
                have y5 : w5.cell? ⟨D, 0, none⟩ = some (.int .i32 (d1 : Nat)) := by simp [World.cell?, hD5]
                have y6 : (w5.setCell ⟨qx, 0, none⟩ (.slice a5 L5 c5)).cell? ⟨D, 0, none⟩ = some (.int .i32 (d1 : Nat)) := by simp only [World.cell?, hD6]; rfl
                have s1 : w5.cell? ⟨qx, 0, none⟩ = some q0 := by simp [World.cell?, hqx5]
                have sf : ∀ j, w5.frozen? ⟨qx, j, none⟩ = false := fun j => by simp [World.frozen?, hqx5]
                clear hql hqe hjq5 hrx5 hqx5 hD5 hD6 hb1 HJ3 HRX3 ZB2
                go_wp2_with fail
                refine wp_region_noPanic ?_
                refine wp_region_held_drew (S := fun W => W.cell? ⟨D, 0, none⟩ = some (.int .i32 (d1 : Nat))) (by kernel_rfl) z0' (fun hHeld => ?_)
                refine wpAnyH_take (i := 0) (v := .int .i64 0) rfl (by kernel_rfl) (by kernel_rfl) (by kernel_rfl) (fun _ _ _ h => h) (Or.inl ⟨by rfl, fun W hSw => by go_simp⟩) hHeld ?_
                simp only [Act.put, List.setIfInBounds_toArray, List.set_cons_zero, List.set_cons_succ]
                refine wpAnyH_take (i := 1) (v := .int .i64 0) rfl (by kernel_rfl) (by kernel_rfl) (by kernel_rfl) (fun _ _ _ h => h) (Or.inl ⟨by rfl, fun W hSw => by go_simp⟩) hHeld ?_
                simp only [Act.put, List.setIfInBounds_toArray, List.set_cons_zero, List.set_cons_succ]
                refine wpAnyH_take (i := 2) (v := .pointer (some ⟨qx, 0, none⟩)) rfl (by kernel_rfl) (by kernel_rfl) (by kernel_rfl) (fun _ _ _ h => h) (Or.inl ⟨by rfl, fun W hSw => by go_simp⟩) hHeld ?_
                simp only [Act.put, List.setIfInBounds_toArray, List.set_cons_zero, List.set_cons_succ]
                refine wpAnyH_take (i := 4) (v := .pointer (some ⟨D, 0, none⟩)) rfl (by kernel_rfl) (by kernel_rfl) (by kernel_rfl) (fun _ _ _ h => h) (Or.inl ⟨by rfl, fun W hSw => by go_simp⟩) hHeld ?_
                simp only [Act.put, List.setIfInBounds_toArray, List.set_cons_zero, List.set_cons_succ]
                refine wpAnyH_take (i := 5) (v := .int .i32 (d1 : Nat)) rfl (by kernel_rfl) (by kernel_rfl) (by kernel_rfl) (fun _ _ _ h => h) (Or.inl ⟨by rfl, fun W hSw => by go_simp⟩) hHeld ?_
                simp only [Act.put, List.setIfInBounds_toArray, List.set_cons_zero, List.set_cons_succ]
                refine wpAnyH_ready (rs := [3, 6]) (by kernel_rfl) (by simp) ?_
                refine AllReadyH.cons rfl (fun K hK => ?_) (AllReadyH.cons rfl (fun K hK => ?_) AllReadyH.nil)
                · go_simp
                  refine hK.out _ _ ?_ (fun hHeld2 => ?_)
                  · exact z0'
                  clear hK K hHeld
                  have hHeld := hHeld2
                  clear hHeld2
                  try simp only [Act.put, List.setIfInBounds_toArray, List.set_cons_zero, List.set_cons_succ]
                  refine wpAnyH_ready (rs := [6]) (by kernel_rfl) (by simp) ?_
                  refine AllReadyH.cons rfl (fun K hK => ?_) AllReadyH.nil
                  go_simp
                  refine hK.out _ _ ?_ (fun hHeld2 => ?_)
                  · exact y2
                  clear hK K hHeld
                  have hHeld := hHeld2
                  clear hHeld2
                  try simp only [Act.put, List.setIfInBounds_toArray, List.set_cons_zero, List.set_cons_succ]
                  refine wpAnyH_ready (rs := [7]) (by kernel_rfl) (by simp) ?_
                  refine AllReadyH.cons rfl (fun K hK => ?_) AllReadyH.nil
                  rw [if_pos (by rfl)]
                  refine wp_append _ _ 70 rfl _ _ _ _ rfl rfl hrun ?_
                  refine hK.out _ _ ?_ (fun hHeld2 => ?_)
                  · exact y5
                  clear hK K hHeld
                  have hHeld := hHeld2
                  clear hHeld2
                  try simp only [Act.put, List.setIfInBounds_toArray, List.set_cons_zero, List.set_cons_succ]
                  refine wpAnyH_take (i := 8) (v := .pointer (some ⟨qx, 0, none⟩)) rfl (by kernel_rfl) (by kernel_rfl) (by kernel_rfl) (fun _ _ _ h => h) (Or.inl ⟨by rfl, fun W hSw => by go_simp⟩) hHeld ?_
                  simp only [Act.put, List.setIfInBounds_toArray, List.set_cons_zero, List.set_cons_succ]
                  refine wpAnyH_ready (rs := [9]) (by kernel_rfl) (by simp) ?_
                  refine AllReadyH.cons rfl (fun K hK => ?_) AllReadyH.nil
                  go_simp
                  refine hK.out _ _ ?_ (fun hHeld2 => ?_)
                  · exact y6
                  clear hK K hHeld
                  have hHeld := hHeld2
                  clear hHeld2
                  try simp only [Act.put, List.setIfInBounds_toArray, List.set_cons_zero, List.set_cons_succ]
                  refine wpAnyH_done (by kernel_rfl) ?_ _
                  refine NoPanic.normal ?_
                  go_wp2_with fail
                  go_roundw
                  case rel => exact ⟨i + 1, by omega, by simp, HFIN.out⟩
                  case measure => simp [intOf]; omega
                · go_simp
                  refine hK.out _ _ ?_ (fun hHeld2 => ?_)
                  · exact y2
                  clear hK K hHeld
                  have hHeld := hHeld2
                  clear hHeld2
                  try simp only [Act.put, List.setIfInBounds_toArray, List.set_cons_zero, List.set_cons_succ]
                  refine wpAnyH_ready (rs := [3]) (by kernel_rfl) (by simp) ?_
                  refine AllReadyH.cons rfl (fun K hK => ?_) AllReadyH.nil
                  go_simp
                  refine hK.out _ _ ?_ (fun hHeld2 => ?_)
                  · exact y2
                  clear hK K hHeld
                  have hHeld := hHeld2
                  clear hHeld2
                  try simp only [Act.put, List.setIfInBounds_toArray, List.set_cons_zero, List.set_cons_succ]
                  refine wpAnyH_ready (rs := [7]) (by kernel_rfl) (by simp) ?_
                  refine AllReadyH.cons rfl (fun K hK => ?_) AllReadyH.nil
                  rw [if_pos (by rfl)]
                  refine wp_append _ _ 70 rfl _ _ _ _ rfl rfl hrun ?_
                  refine hK.out _ _ ?_ (fun hHeld2 => ?_)
                  · exact y5
                  clear hK K hHeld
                  have hHeld := hHeld2
                  clear hHeld2
                  try simp only [Act.put, List.setIfInBounds_toArray, List.set_cons_zero, List.set_cons_succ]
                  refine wpAnyH_take (i := 8) (v := .pointer (some ⟨qx, 0, none⟩)) rfl (by kernel_rfl) (by kernel_rfl) (by kernel_rfl) (fun _ _ _ h => h) (Or.inl ⟨by rfl, fun W hSw => by go_simp⟩) hHeld ?_
                  simp only [Act.put, List.setIfInBounds_toArray, List.set_cons_zero, List.set_cons_succ]
                  refine wpAnyH_ready (rs := [9]) (by kernel_rfl) (by simp) ?_
                  refine AllReadyH.cons rfl (fun K hK => ?_) AllReadyH.nil
                  go_simp
                  refine hK.out _ _ ?_ (fun hHeld2 => ?_)
                  · exact y6
                  clear hK K hHeld
                  have hHeld := hHeld2
                  clear hHeld2
                  try simp only [Act.put, List.setIfInBounds_toArray, List.set_cons_zero, List.set_cons_succ]
                  refine wpAnyH_done (by kernel_rfl) ?_ _
                  refine NoPanic.normal ?_
                  go_wp2_with fail
                  go_roundw
                  case rel => exact ⟨i + 1, by omega, by simp, HFIN.out⟩
                  case measure => simp [intOf]; omega
          · have : i = la.length := by omega
            subst this
            have t4 : ¬ (la.length : Int) < (la.length : Int) := by omega
            go_wp2_with fail
            go_meet
            case rel => exact HR.out
      case rest =>
        have HR := hid hcut
        clear hcut
        go_wp2_with fail
        go_roundw
        case rel => exact ⟨0+1, by omega, rfl, .inr (.inl ⟨rfl, HR.out⟩)⟩
        case measure => simp [intOf]
    · have HRL := hid hrel
      simp only [show ((1 : Nat) : Int) = 1 from rfl]
      go_upto_block 1 with fail
      go_cut [68] from 63 to 114 (fun _ wx => JRel w wx base bx jb mb cx ax ay rs qx rx jc n mc made ca cb (.slice aa la.length cpa) (.slice ab lb.length cpb) fr opf cm la lb (la.length) (lb.length))
      case first =>
        go_wp2_with fail
        have HR1 := hid (hrel.below (below_al (Below.refl _ _) (.cells #[.int .u8 (cb : Nat), .slice ab lb.length cpb] 57)))
        clear HRL
        generalize wr.alloc (.cells #[.int .u8 (cb : Nat), .slice ab lb.length cpb] 57) = wp at HR1 ⊢
        go_loopw [68] (fun vi wr => ∃ i : Nat, i ≤ lb.length ∧ vi = .int .i64 i ∧ JRel w wr base bx jb mb cx ax ay rs qx rx jc n mc made ca cb (.slice aa la.length cpa) (.slice ab lb.length cpb) fr opf cm la lb (la.length) (i)) (fun vi _ => lb.length - (intOf vi).toNat)
        case atStart => exact ⟨0, by omega, rfl, HR1.out⟩
        case round =>
          obtain ⟨i, hi, rfl, hjr⟩ := hrel
          clear HR1
          have HR := hid hjr
          rcases Nat.lt_or_ge i lb.length with hlt2 | hge2
          · have t4 : (i : Int) < (lb.length : Int) := by omega
            have hfr : Fr2 jb mb w wr := by
              obtain ⟨_, _, _, _, _, h1, _⟩ := hjr
              exact h1.fr
            have hp : lb[i]? = some lb[i] := by simp [hlt2]
            obtain ⟨b1, o1, rfl, _, x0, x1⟩ := (HD.out _ hfr).db.one hp
            have hq := HOB.out.each i _ hp
            have HTK := hid (show lb.take (i + 1) = lb.take i ++ [lb[i]] from by rw [List.take_add_one, hp]; rfl)
            clear hp hjr hfr
            generalize lb[i] = d at *
            obtain ⟨d1, d2⟩ := d
            simp only at hq x0 x1
            have hb2 : Below wr.heap.size wr (wr.alloc (.cells #[.int .i32 (d1 : Nat), .int .u8 (d2 : Nat)] 55)) := below_al (Below.refl _ _) _
            have HR2 := hid (HR.out.below hb2)
            have z0 := new2_0' wr (.int .i32 (d1 : Nat)) (.int .u8 (d2 : Nat)) 55
            have z1 := new2_1' wr (.int .i32 (d1 : Nat)) (.int .u8 (d2 : Nat)) 55
            have ZB := hid (heap_new wr (.cells #[.int .i32 (d1 : Nat), .int .u8 (d2 : Nat)] 55))
            clear hb2
            go_upto_region 13 with fail
            generalize wr.alloc (.cells #[.int .i32 (d1 : Nat), .int .u8 (d2 : Nat)] 55) = W2 at HR2 ZB z0 z1 ⊢
            generalize wr.heap.size = D at ZB z0 z1 ⊢
            obtain ⟨marks', cand', cv', q0, q1, hjq, hrx, hld0, hld1⟩ := HR2.out
            have HJQ := hid hjq
            have HRX2 := hid hrx
            have HL0 := hid hld0
            have HL1 := hid hld1
            have hw10 : IntKind.i64.wrap (1 : Int) = 1 := by decide
            have hw11 : IntKind.i64.wrap (0 : Int) = 0 := by decide
            have x3 : W2.cell? ⟨bx, 0, none⟩ = some (.pointer (some ⟨jb, 0, none⟩)) := by simp [World.cell?, hjq.jc.bxk]
            have x4 : W2.cell? ⟨jb, 0, none⟩ = some (.func (.func g) #[] #[]) := by simp [World.cell?, hjq.jc.jbk, j0]
            have x5 : W2.cell? ⟨rx, 0, none⟩ = some (.int .u8 (ca : Nat)) := by simp [World.cell?, hrx]
            have KP := hid (fun W' (hb : Below W2.heap.size W2 W') => (⟨(hb.cell (block_lt_of_cell x3)).trans x3, (hb.cell (block_lt_of_cell x4)).trans x4, (hb.cell (block_lt_of_cell z1)).trans z1, (hb.cell (block_lt_of_cell x5)).trans x5, hb⟩ : W'.cell? ⟨bx, 0, none⟩ = some (.pointer (some ⟨jb, 0, none⟩)) ∧ W'.cell? ⟨jb, 0, none⟩ = some (.func (.func g) #[] #[]) ∧ W'.cell? ⟨D, 1, none⟩ = some (.int .u8 (d2 : Nat)) ∧ W'.cell? ⟨rx, 0, none⟩ = some (.int .u8 (ca : Nat)) ∧ Below W2.heap.size W2 W'))
            have hco := HOA.out.cell
            have HOC := hid (fun W' => (HOP.out d2 ca W' hq.2.1 hco).2)
            have hcu4 := (HOP.out d2 ca W2 hq.2.1 hco).1
            have hb0 : Below W2.heap.size W2 W2.drew := (Below.refl _ _).drew
            clear hjq hrx hld0 hld1 x3 x4 x5 HR2 HR
            generalize hcu : opf d2 ca = cu at *
            have HCU := hid hcu
            clear hcu
            go_cut [85] from 72 to 85 (fun v wx => v = .bool ((cu : Int) == (cm : Int)) ∧ Below W2.heap.size W2 wx)
            case first =>
              go_region_held3 (fun W' => W'.cell? ⟨bx, 0, none⟩ = some (.pointer (some ⟨jb, 0, none⟩)) ∧ W'.cell? ⟨jb, 0, none⟩ = some (.func (.func g) #[] #[]) ∧ W'.cell? ⟨D, 1, none⟩ = some (.int .u8 (d2 : Nat)) ∧ W'.cell? ⟨rx, 0, none⟩ = some (.int .u8 (ca : Nat)) ∧ Below W2.heap.size W2 W')
                (first | exact KP.out _ hb0 | exact KP.out _ (by assumption))
                ((refine (HOC.out _).mono ?_; rintro e w3 ⟨rfl, rfl⟩; dsimp only))
              all_goals go_wp2_with fail
              all_goals go_meet
              all_goals exact ⟨rfl, hb0⟩
            case rest =>
              obtain ⟨rfl, hbc⟩ := hcut
              have HJ3 := hid (HJQ.out.below hbc)
              have HRX3 := hid ((hbc.block _ (lt_of_block HRX2.out)).trans HRX2.out)
              have z0' := (hbc.cell (block_lt_of_cell z0)).trans z0
              have ZB2 := hid ((hbc.block _ (lt_of_block ZB.out)).trans ZB.out)
              clear hbc KP HOC HJQ HRX2 ZB z0 z1 hb0
              cases g3 : ((cu : Int) == (cm : Int))
              · have hne : cu ≠ cm := by simp only [beq_eq_false_iff_ne] at g3; omega
                have HNE := hid hne
                have hdn : d1 < nb := hq.1
                obtain ⟨ob, oc, hov, hoe⟩ := (HD.out _ HJ3.out.fr).o1
                obtain ⟨hu, hiu⟩ := hoe d1 hdn
                obtain ⟨ua, uc, hu2⟩ := hiu.shape
                rw [hu2] at hu
                have HIU := hid (show ∀ W', Fr2 jb mb w W' → IntsAt W' (.slice ua (L1 d1).length uc) (L1 d1) from fun W' hf => by
                  obtain ⟨ob', oc', _, hoe'⟩ := (HD.out _ hf).o1
                  have := (hoe' d1 hdn).2
                  rw [hu2] at this
                  exact this)
                have HLM := hid (fun x => HS.out.l1 d1 x hdn)
                have hls := HS.out.s1 d1 hdn
                have v1 : wc.cell? ⟨bx, 0, none⟩ = some (.pointer (some ⟨jb, 0, none⟩)) := by simp [World.cell?, HJ3.out.jc.bxk]
                have v2 : wc.cell? ⟨jb, 4, none⟩ = some (.slice (some ⟨ob, 0, none⟩) nb oc) := by simp [World.cell?, HJ3.out.jc.jbk, j4, hov]
                have t5 : (d1 : Int) < (nb : Int) := by omega
                clear hoe hiu hu2 hov hne
                go_wp2_with fail
                go_quiet (fail)
                have hbq : Below wc.heap.size wc (wc.drewN nq) := below_drewN (Below.refl _ _) nq
                have HJ4 := hid (HJ3.out.below hbq)
                have HRX4 := hid ((hbq.block _ (lt_of_block HRX3.out)).trans HRX3.out)
                clear hbq HJ3 HRX3 v1 v2 hu z0'
                generalize wc.drewN nq = wd at HJ4 HRX4 ⊢
                go_wp2_with fail
                go_loopw [106] (fun vi wr => ∃ (i2 : Nat) (marks2 cand2 : List Nat) (cv2 : Value), i2 ≤ (L1 d1).length ∧ vi = .int .i64 i2 ∧ JQ w wr base bx jb mb cx ax ay rs qx jc n mc made ca cb (.slice aa la.length cpa) (.slice (some ⟨b1, o1, none⟩) lb.length cpb) marks2 cand2 cv2 q0 q1 (quietOf (fun c => opf c cb) cm (la.take (la.length))) (quietOf (fun c => opf c ca) cm (lb.take (i))) ∧ wr.heap[rx]? = some (.cells #[.int .u8 (ca : Nat), .slice aa la.length cpa, .int .u8 (cb : Nat), .slice (some ⟨b1, o1, none⟩) lb.length cpb] 85 (0, 0)) ∧ (∀ x, x ∈ cand' → x ∈ cand2) ∧ ∀ x, x ∈ (L1 d1).take i2 → x ∈ cand2) (fun vi _ => (L1 d1).length - (intOf vi).toNat)
                case atStart => exact ⟨0, marks', cand', cv', by omega, rfl, HJ4.out, HRX4.out, fun x h => h, fun x hx => by simp at hx⟩
                case round =>
                  obtain ⟨i2, marks2, cand2, cv2, hi2, rfl, hjq, hrx, hsub, hin⟩ := hrel
                  clear HJ4 HRX4
                  have HJ4 := hid hjq
                  have HRX4 := hid hrx
                  have HSB := hid hsub
                  have HIN := hid hin
                  clear hjq hrx hsub hin
                  rcases Nat.lt_or_ge i2 (L1 d1).length with hlt3 | hge3
                  · have t9 : (i2 : Int) < ((L1 d1).length : Int) := by omega
                    have hx : (L1 d1)[i2]? = some (L1 d1)[i2] := by simp [hlt3]
                    obtain ⟨b2, o2, rfl, y0⟩ := (HIU.out _ HJ4.out.fr).one hx
                    obtain ⟨mm, hfl⟩ := (HLM.out _).1 (List.mem_of_getElem? hx)
                    have HTK2 := hid (show (L1 d1).take (i2 + 1) = (L1 d1).take i2 ++ [(L1 d1)[i2]] from by rw [List.take_add_one, hx]; rfl)
                    clear hx
                    generalize (L1 d1)[i2] = x at *
                    have hxn : x < n := by have := (List.getElem?_eq_some_iff.1 hfl).1; have := HS.out.len; omega
                    have hcl : cand2.length ≤ n := nodup_le n cand2 HJ4.out.jc.ok.nodup (fun x hx => ((HJ4.out.jc.ok.iff x).1 hx).1)
                    have HTAKE := hid (take30 HJ4.out.jc hxn (by omega) (by omega))
                    clear hfl
                    go_wp2_with fail
                    refine HTAKE.out.mono ?_
                    rintro e wt hp
                    have hrx5 := take_keep HJ4.out.jc hp HRX4.out (by decide) (by decide)
                    obtain ⟨rfl, marks3, cand3, cv3, hjq3, hin3, hsub3⟩ := HJ4.out.take hp
                    have HJ5 := hid hjq3
                    have HRX5 := hid hrx5
                    have HI3 := hid hin3
                    have HS3 := hid hsub3
                    clear hp hjq3 hin3 hsub3 hrx5
                    go_wp2_with fail
                    go_roundw
                    case rel =>
                      refine ⟨i2 + 1, marks3, cand3, cv3, by omega, rfl, HJ5.out, HRX5.out, fun x hx => HS3.out x (HSB.out x hx), fun x hx => ?_⟩
                      rw [HTK2.out] at hx
                      rcases List.mem_append.1 hx with h1 | h1
                      · exact HS3.out x (HIN.out x h1)
                      · simp only [List.mem_singleton] at h1
                        subst h1
                        exact HI3.out
                    case measure => simp [intOf]; omega
                  · have hie : i2 = (L1 d1).length := by omega
                    have t9 : ¬ (i2 : Int) < ((L1 d1).length : Int) := by omega
                    have hll := HOB.out.len
                    have HFIN := hid (show JRel w wr base bx jb mb cx ax ay rs qx rx jc n mc made ca cb (.slice aa la.length cpa) (.slice (some ⟨b1, o1, none⟩) lb.length cpb) fr opf cm la lb (la.length) (i + 1) from ⟨marks2, cand2, cv2, q0, q1, by
                      have e : quietOf (fun c => opf c ca) cm (lb.take (i + 1)) = quietOf (fun c => opf c ca) cm (lb.take i) := by
                        rw [HTK.out, quietOf_append]
                        simp [quietOf, HCU.out, HNE.out]
                      rw [e]
                      exact HJ4.out, HRX4.out, (fun x m d hd hne hfx => HSB.out x (HL0.out x m d hd hne hfx)), (fun x m d hd hne hfx => by
                      rw [HTK.out] at hd
                      rcases List.mem_append.1 hd with h1 | h1
                      · exact HSB.out x (HL1.out x m d h1 hne hfx)
                      · simp only [List.mem_singleton] at h1
                        subst h1
                        exact HIN.out x (by rw [hie, List.take_length]; exact (HLM.out x).2 ⟨m, hfx⟩))⟩)
                    go_wp2_with fail
                    go_roundw
                    case rel => exact ⟨i + 1, by omega, by simp, HFIN.out⟩
                    case measure => simp [intOf]; omega
              · have hqe : cu = cm := by simp only [beq_iff_eq] at g3; omega
                have HQE := hid hqe
                have hll := HOB.out.len
                have hql := quietOf_len (fun c => opf c ca) cm (lb.take i)
                rw [List.length_take] at hql
                obtain ⟨a5, L5, c5, w5, hrun, hjq5, hrx5, hqx5, hD5, hD6⟩ := HJ3.out.step1 (k := d1) hqb (by omega) HRX3.out ZB2.out
                have HFIN := hid (show JRel w (w5.setCell ⟨qx, 1, none⟩ (.slice a5 L5 c5)) base bx jb mb cx ax ay rs qx rx jc n mc made ca cb (.slice aa la.length cpa) (.slice (some ⟨b1, o1, none⟩) lb.length cpb) fr opf cm la lb (la.length) (i + 1) from ⟨marks', cand', cv', _, _, by
                  have e : quietOf (fun c => opf c ca) cm (lb.take (i + 1)) = quietOf (fun c => opf c ca) cm (lb.take i) ++ [d1] := by
                    rw [HTK.out, quietOf_append]
                    simp [quietOf, HCU.out, HQE.out]
                  rw [e]
                  exact hjq5, hrx5, (fun x m d hd hne hfx => HL0.out x m d hd hne hfx), (fun x m d hd hne hfx => by
                  rw [HTK.out] at hd
                  rcases List.mem_append.1 hd with h1 | h1
                  · exact HL1.out x m d h1 hne hfx
                  · simp only [List.mem_singleton] at h1
                    subst h1
                    exact absurd (HCU.out.trans HQE.out) hne)⟩)
                have p1 : wc.drew.cell? ⟨qx, 1, none⟩ = some q1 := by show wc.cell? _ = _; simp [World.cell?, HJ3.out.hqx]
                have hb1 : Below wc.heap.size wc (wc.alloc (.cells #[.int .i32 (d1 : Nat)] 21)).drew := Below.drew (below_al (Below.refl _ _) _)
                have r1 : (wc.alloc (.cells #[.int .i32 (d1 : Nat)] 21)).drew.cell? ⟨qx, 1, none⟩ = some q1 := (hb1.cell (lt_of_block HJ3.out.hqx)).trans p1
                have y2 : (wc.alloc (.cells #[.int .i32 (d1 : Nat)] 21)).drew.cell? ⟨D, 0, none⟩ = some (.int .i32 (d1 : Nat)) := (hb1.cell (block_lt_of_cell z0')).trans z0'
                have y5 : w5.cell? ⟨D, 0, none⟩ = some (.int .i32 (d1 : Nat)) := by simp [World.cell?, hD5]
                have y6 : (w5.setCell ⟨qx, 1, none⟩ (.slice a5 L5 c5)).cell? ⟨D, 0, none⟩ = some (.int .i32 (d1 : Nat)) := by simp only [World.cell?, hD6]; rfl
                have s1 : w5.cell? ⟨qx, 1, none⟩ = some q1 := by simp [World.cell?, hqx5]
                have sf : ∀ j, w5.frozen? ⟨qx, j, none⟩ = false := fun j => by simp [World.frozen?, hqx5]
                clear hql hqe hjq5 hrx5 hqx5 hD5 hD6 hb1 HJ3 HRX3 ZB2
                go_wp2_with fail
                refine wp_region_noPanic ?_
                refine wp_region_held_drew (S := fun W => W.cell? ⟨D, 0, none⟩ = some (.int .i32 (d1 : Nat))) (by kernel_rfl) z0' (fun hHeld => ?_)
                refine wpAnyH_take (i := 0) (v := .int .i64 1) rfl (by kernel_rfl) (by kernel_rfl) (by kernel_rfl) (fun _ _ _ h => h) (Or.inl ⟨by rfl, fun W hSw => by go_simp⟩) hHeld ?_
                simp only [Act.put, List.setIfInBounds_toArray, List.set_cons_zero, List.set_cons_succ]
                refine wpAnyH_take (i := 1) (v := .int .i64 1) rfl (by kernel_rfl) (by kernel_rfl) (by kernel_rfl) (fun _ _ _ h => h) (Or.inl ⟨by rfl, fun W hSw => by go_simp⟩) hHeld ?_
                simp only [Act.put, List.setIfInBounds_toArray, List.set_cons_zero, List.set_cons_succ]
                refine wpAnyH_take (i := 2) (v := .pointer (some ⟨qx, 1, none⟩)) rfl (by kernel_rfl) (by kernel_rfl) (by kernel_rfl) (fun _ _ _ h => h) (Or.inl ⟨by rfl, fun W hSw => by go_simp⟩) hHeld ?_
                simp only [Act.put, List.setIfInBounds_toArray, List.set_cons_zero, List.set_cons_succ]
                refine wpAnyH_take (i := 4) (v := .pointer (some ⟨D, 0, none⟩)) rfl (by kernel_rfl) (by kernel_rfl) (by kernel_rfl) (fun _ _ _ h => h) (Or.inl ⟨by rfl, fun W hSw => by go_simp⟩) hHeld ?_
                simp only [Act.put, List.setIfInBounds_toArray, List.set_cons_zero, List.set_cons_succ]
                refine wpAnyH_take (i := 5) (v := .int .i32 (d1 : Nat)) rfl (by kernel_rfl) (by kernel_rfl) (by kernel_rfl) (fun _ _ _ h => h) (Or.inl ⟨by rfl, fun W hSw => by go_simp⟩) hHeld ?_
                simp only [Act.put, List.setIfInBounds_toArray, List.set_cons_zero, List.set_cons_succ]
                refine wpAnyH_ready (rs := [3, 6]) (by kernel_rfl) (by simp) ?_
                refine AllReadyH.cons rfl (fun K hK => ?_) (AllReadyH.cons rfl (fun K hK => ?_) AllReadyH.nil)
                · go_simp
                  refine hK.out _ _ ?_ (fun hHeld2 => ?_)
                  · exact z0'
                  clear hK K hHeld
                  have hHeld := hHeld2
                  clear hHeld2
                  try simp only [Act.put, List.setIfInBounds_toArray, List.set_cons_zero, List.set_cons_succ]
                  refine wpAnyH_ready (rs := [6]) (by kernel_rfl) (by simp) ?_
                  refine AllReadyH.cons rfl (fun K hK => ?_) AllReadyH.nil
                  go_simp
                  refine hK.out _ _ ?_ (fun hHeld2 => ?_)
                  · exact y2
                  clear hK K hHeld
                  have hHeld := hHeld2
                  clear hHeld2
                  try simp only [Act.put, List.setIfInBounds_toArray, List.set_cons_zero, List.set_cons_succ]
                  refine wpAnyH_ready (rs := [7]) (by kernel_rfl) (by simp) ?_
                  refine AllReadyH.cons rfl (fun K hK => ?_) AllReadyH.nil
                  rw [if_pos (by rfl)]
                  refine wp_append _ _ 70 rfl _ _ _ _ rfl rfl hrun ?_
                  refine hK.out _ _ ?_ (fun hHeld2 => ?_)
                  · exact y5
                  clear hK K hHeld
                  have hHeld := hHeld2
                  clear hHeld2
                  try simp only [Act.put, List.setIfInBounds_toArray, List.set_cons_zero, List.set_cons_succ]
                  refine wpAnyH_take (i := 8) (v := .pointer (some ⟨qx, 1, none⟩)) rfl (by kernel_rfl) (by kernel_rfl) (by kernel_rfl) (fun _ _ _ h => h) (Or.inl ⟨by rfl, fun W hSw => by go_simp⟩) hHeld ?_
                  simp only [Act.put, List.setIfInBounds_toArray, List.set_cons_zero, List.set_cons_succ]
                  refine wpAnyH_ready (rs := [9]) (by kernel_rfl) (by simp) ?_
                  refine AllReadyH.cons rfl (fun K hK => ?_) AllReadyH.nil
                  go_simp
                  refine hK.out _ _ ?_ (fun hHeld2 => ?_)
                  · exact y6
                  clear hK K hHeld
                  have hHeld := hHeld2
                  clear hHeld2
                  try simp only [Act.put, List.setIfInBounds_toArray, List.set_cons_zero, List.set_cons_succ]
                  refine wpAnyH_done (by kernel_rfl) ?_ _
                  refine NoPanic.normal ?_
                  go_wp2_with fail
                  go_roundw
                  case rel => exact ⟨i + 1, by omega, by simp, HFIN.out⟩
                  case measure => simp [intOf]; omega
                · go_simp
                  refine hK.out _ _ ?_ (fun hHeld2 => ?_)
                  · exact y2
                  clear hK K hHeld
                  have hHeld := hHeld2
                  clear hHeld2
                  try simp only [Act.put, List.setIfInBounds_toArray, List.set_cons_zero, List.set_cons_succ]
                  refine wpAnyH_ready (rs := [3]) (by kernel_rfl) (by simp) ?_
                  refine AllReadyH.cons rfl (fun K hK => ?_) AllReadyH.nil
                  go_simp
                  refine hK.out _ _ ?_ (fun hHeld2 => ?_)
                  · exact y2
                  clear hK K hHeld
                  have hHeld := hHeld2
                  clear hHeld2
                  try simp only [Act.put, List.setIfInBounds_toArray, List.set_cons_zero, List.set_cons_succ]
                  refine wpAnyH_ready (rs := [7]) (by kernel_rfl) (by simp) ?_
                  refine AllReadyH.cons rfl (fun K hK => ?_) AllReadyH.nil
                  rw [if_pos (by rfl)]
                  refine wp_append _ _ 70 rfl _ _ _ _ rfl rfl hrun ?_
                  refine hK.out _ _ ?_ (fun hHeld2 => ?_)
                  · exact y5
                  clear hK K hHeld
                  have hHeld := hHeld2
                  clear hHeld2
                  try simp only [Act.put, List.setIfInBounds_toArray, List.set_cons_zero, List.set_cons_succ]
                  refine wpAnyH_take (i := 8) (v := .pointer (some ⟨qx, 1, none⟩)) rfl (by kernel_rfl) (by kernel_rfl) (by kernel_rfl) (fun _ _ _ h => h) (Or.inl ⟨by rfl, fun W hSw => by go_simp⟩) hHeld ?_
                  simp only [Act.put, List.setIfInBounds_toArray, List.set_cons_zero, List.set_cons_succ]
                  refine wpAnyH_ready (rs := [9]) (by kernel_rfl) (by simp) ?_
                  refine AllReadyH.cons rfl (fun K hK => ?_) AllReadyH.nil
                  go_simp
                  refine hK.out _ _ ?_ (fun hHeld2 => ?_)
                  · exact y6
                  clear hK K hHeld
                  have hHeld := hHeld2
                  clear hHeld2
                  try simp only [Act.put, List.setIfInBounds_toArray, List.set_cons_zero, List.set_cons_succ]
                  refine wpAnyH_done (by kernel_rfl) ?_ _
                  refine NoPanic.normal ?_
                  go_wp2_with fail
                  go_roundw
                  case rel => exact ⟨i + 1, by omega, by simp, HFIN.out⟩
                  case measure => simp [intOf]; omega
          · have : i = lb.length := by omega
            subst this
            have t4 : ¬ (lb.length : Int) < (lb.length : Int) := by omega
            go_wp2_with fail
            go_meet
            case rel => exact HR.out
      case rest =>
        have HR := hid hcut
        clear hcut
        go_wp2_with fail
        go_roundw
        case rel => exact ⟨1+1, by omega, rfl, .inr (.inr ⟨rfl, HR.out⟩)⟩
        case measure => simp [intOf]
    · obtain ⟨marks', cand', cv', q0, q1, hjq, hrx, hl0, hl1⟩ := hrel
      rw [List.take_length, List.take_length] at hjq
      rw [List.take_length] at hl0 hl1
      have HE := hid (HN.out wr marks' cand' cv' q0 q1 hjq hl0 hl1)
      clear hjq hrx hl0 hl1
      go_wp2_with fail
      refine HK.out _ _ ?_
      rw [← HQ.out]
      exact HE.out _ _ _ _ _ _ _ _ _ _ _ _ _ _ _ _ _ _ _ _ _ _ _ _ _ _ _ _ _ _ _ _ _ _ _ _ _ _ _ _ _ _ _ _ _ _ _ _ _ _ _ _ _ _ _ _ _ _ _ _ _ _ _ _ _ _ _ _ _ _ _ _ _ _ _ _ _ _ _ _ _ _ _ _ _ _ _ _ _ _ _ _ _ _ _ _ _ _ _ _ _ _ _ _ _ _ _ _ _ _ _ _ _ _ _ _ _ _ _ _ _ _ _ _ _ _ _ _ _ _ _ _ _ _ _ _ _ _ _ _ _ _ _ _ _ _ _ _ _ _ _ _ _ _ _ _ _ _ _ _ _ _ _ _ _ _ _ _ _ _ _ _ _ _ _ _ _ _ _ _ _ _ _ _ _ _ _ _ _ _ _ _ _ _ _ _ _ _ _ _ _ _ _ _ _ _ _ _ _ _ _ _ _ _ _ _ _ _ _ _ _ _ _ _ _ _ _ _ _ _ _ _ _ _ _ _ _ _ _ _ _ _ _ _ _ _ _ _ _ _ _ _ _ _ _ _ _ _ _ _ _ _ _ _ _ _ _ _ _ _ _ _ _ _ _ _ _ _ _ _ _ _ _ _ _ _ _ _ _ _ _ _ _ _ _ _ _ _ _ _ rfl rfl rfl rfl rfl rfl rfl rfl
end Go.Proofs.Ybulkatiq
