/-
  combine: the lists' loops.
-/
import Derived.Test.YbulkatiqComb3
set_option linter.unusedVariables false
set_option linter.unusedSimpArgs false
namespace Go.Proofs.Ybulkatiq
open Go.ChangeShapes Go.WideShapes Go.ChangeAt Go.RowKit Go.Maps Go.WideMaps

theorem OfInv.at0 {w wr : World} {c : CP} {Ra Rb : Rel} {tb : Nat} (h : OfInv w wr c Ra Rb tb 0) : wr.heap[tb]? = some (.cells #[.int .i32 (Ra.n1 : Nat), .int .i32 (Rb.n1 : Nat)] 21 (0, 0)) ∧ CIn w wr c (.slice none 0 0) (.slice none 0 0) Ra Rb := by
  obtain ⟨htb, ⟨_, hci⟩ | ⟨h, _⟩ | ⟨h, _⟩⟩ := h
  · exact ⟨htb, hci⟩
  · cases h
  · cases h
theorem OfInv.at1 {w wr : World} {c : CP} {Ra Rb : Rel} {tb : Nat} (h : OfInv w wr c Ra Rb tb 1) : wr.heap[tb]? = some (.cells #[.int .i32 (Ra.n1 : Nat), .int .i32 (Rb.n1 : Nat)] 21 (0, 0)) ∧ ∃ ob0 base0 U0, CIn w wr c (.slice (some ⟨ob0, 0, none⟩) Ra.n1 Ra.n1) (.slice none 0 0) Ra Rb ∧ OfOwn wr base0 ob0 Ra.n1 (ofTo (·.1) c.fr c.fr.length) U0 ∧ c.mb < base0 := by
  obtain ⟨htb, ⟨h, _⟩ | ⟨_, hci⟩ | ⟨h, _⟩⟩ := h
  · cases h
  · exact ⟨htb, hci⟩
  · cases h
theorem OfInv.at2 {w wr : World} {c : CP} {Ra Rb : Rel} {tb : Nat} (h : OfInv w wr c Ra Rb tb 2) : ∃ ob0 base0 U0 ob1 base1 U1, CIn w wr c (.slice (some ⟨ob0, 0, none⟩) Ra.n1 Ra.n1) (.slice (some ⟨ob1, 0, none⟩) Rb.n1 Rb.n1) Ra Rb ∧ OfOwn wr base0 ob0 Ra.n1 (ofTo (·.1) c.fr c.fr.length) U0 ∧ c.mb < base0 ∧ OfOwn wr base1 ob1 Rb.n1 (ofTo (·.2) c.fr c.fr.length) U1 ∧ c.mb < base1 := by
  obtain ⟨htb, ⟨h, _⟩ | ⟨h, _⟩ | ⟨_, hci⟩⟩ := h
  · cases h
  · cases h
  · exact hci
theorem OfInv.one {w wr : World} {c : CP} {Ra Rb : Rel} {tb ob0 base0 : Nat} {U0 : Nat → Value} (htb : wr.heap[tb]? = some (.cells #[.int .i32 (Ra.n1 : Nat), .int .i32 (Rb.n1 : Nat)] 21 (0, 0))) (h : CIn w wr c (.slice (some ⟨ob0, 0, none⟩) Ra.n1 Ra.n1) (.slice none 0 0) Ra Rb) (ho : OfOwn wr base0 ob0 Ra.n1 (ofTo (·.1) c.fr c.fr.length) U0) (m0 : c.mb < base0) : OfInv w wr c Ra Rb tb 1 := ⟨htb, .inr (.inl ⟨rfl, _, _, _, h, ho, m0⟩)⟩
theorem OfInv.two {w wr : World} {c : CP} {Ra Rb : Rel} {tb ob0 base0 ob1 base1 : Nat} {U0 U1 : Nat → Value} (htb : wr.heap[tb]? = some (.cells #[.int .i32 (Ra.n1 : Nat), .int .i32 (Rb.n1 : Nat)] 21 (0, 0))) (h : CIn w wr c (.slice (some ⟨ob0, 0, none⟩) Ra.n1 Ra.n1) (.slice (some ⟨ob1, 0, none⟩) Rb.n1 Rb.n1) Ra Rb) (ho : OfOwn wr base0 ob0 Ra.n1 (ofTo (·.1) c.fr c.fr.length) U0) (m0 : c.mb < base0) (ho1 : OfOwn wr base1 ob1 Rb.n1 (ofTo (·.2) c.fr c.fr.length) U1) (m1 : c.mb < base1) : OfInv w wr c Ra Rb tb 2 := ⟨htb, .inr (.inr ⟨rfl, _, _, _, _, _, _, h, ho, m0, ho1, m1⟩)⟩

/-- What follows the lists' loops. -/
def NextD (w : World) (pa pb jb cb g : Nat) (both : Bool) (Ra Rb : Rel) (RR : Ending → World → Prop) : Prop :=
  ∀ (W' : World) (c : CP) (marks : List Nat), CJ w W' c 0 marks (.slice none 0 0) Ra Rb → c.jb = jb → c.cb = cb → c.g = g → ∀ (t0 t1 t2 t3 t4 t5 t6 t7 t8 t9 t10 t11 t12 t13 t14 t15 t16 t17 t18 t19 t20 t21 t22 t23 t24 t25 t26 t27 t28 t29 t30 t31 t32 t33 t34 t35 t36 t37 t38 t39 t40 t41 t42 t43 t44 t45 t46 t47 t48 t49 t50 t51 t52 t53 t54 t55 t56 t57 t58 t59 t60 t61 t62 t63 t64 t65 t66 t67 t68 t69 t70 t71 t72 t73 t74 t75 t76 t77 t78 t79 t80 t81 t82 t83 t84 t85 t86 t87 t88 t89 t90 t91 t92 t93 t94 t95 t96 t97 t98 t99 t100 t101 t102 t103 t104 t105 t106 t107 t108 t109 t110 t111 t112 t113 t114 t115 t116 t117 t118 t119 t120 t121 t122 t123 t124 t125 t126 t127 t128 t129 t130 t131 t132 t133 t134 t135 t136 t137 t138 t139 t140 t141 t142 t143 t144 t145 t146 t147 t148 t149 t150 t151 t152 t153 t154 t155 t156 t157 t158 t159 t160 t161 t162 t163 t164 t165 t166 t167 t168 t169 t170 t171 t172 t173 t174 t175 t176 t177 t178 t179 t180 t181 t182 t183 t184 t185 t186 t187 t188 t189 t190 t191 t192 t193 t194 t195 t196 t197 t198 t199 t200 t201 t202 t203 t204 t205 t206 t207 t208 t209 t210 t211 t212 t213 t214 t215 t216 t217 t218 t219 t220 t221 t222 t223 t224 t225 t226 t227 t228 t229 t230 t231 t232 t233 t234 t235 t236 t237 t238 t239 t240 t241 t242 t243 t244 t245 t246 t247 t248 t249 : Value), t0 = .pointer (some ⟨pa, 0, none⟩) → t1 = .pointer (some ⟨pb, 0, none⟩) → t2 = .bool both → t11 = .pointer (some ⟨c.jb, 0, none⟩) → t12 = .pointer (some ⟨c.cb, 0, none⟩) → t13 = c.rv → Code.wp Yba.prog (dropC 10 (codeOf Yba.f14)) (bodyPost Yba.prog Yba.f14 RR) ⟨#[t0, t1, t2, t3, t4, t5, t6, t7, t8, t9, t10, t11, t12, t13, t14, t15, t16, t17, t18, t19, t20, t21, t22, t23, t24, t25, t26, t27, t28, t29, t30, t31, t32, t33, t34, t35, t36, t37, t38, t39, t40, t41, t42, t43, t44, t45, t46, t47, t48, t49, t50, t51, t52, t53, t54, t55, t56, t57, t58, t59, t60, t61, t62, t63, t64, t65, t66, t67, t68, t69, t70, t71, t72, t73, t74, t75, t76, t77, t78, t79, t80, t81, t82, t83, t84, t85, t86, t87, t88, t89, t90, t91, t92, t93, t94, t95, t96, t97, t98, t99, t100, t101, t102, t103, t104, t105, t106, t107, t108, t109, t110, t111, t112, t113, t114, t115, t116, t117, t118, t119, t120, t121, t122, t123, t124, t125, t126, t127, t128, t129, t130, t131, t132, t133, t134, t135, t136, t137, t138, t139, t140, t141, t142, t143, t144, t145, t146, t147, t148, t149, t150, t151, t152, t153, t154, t155, t156, t157, t158, t159, t160, t161, t162, t163, t164, t165, t166, t167, t168, t169, t170, t171, t172, t173, t174, t175, t176, t177, t178, t179, t180, t181, t182, t183, t184, t185, t186, t187, t188, t189, t190, t191, t192, t193, t194, t195, t196, t197, t198, t199, t200, t201, t202, t203, t204, t205, t206, t207, t208, t209, t210, t211, t212, t213, t214, t215, t216, t217, t218, t219, t220, t221, t222, t223, t224, t225, t226, t227, t228, t229, t230, t231, t232, t233, t234, t235, t236, t237, t238, t239, t240, t241, t242, t243, t244, t245, t246, t247, t248, t249], []⟩ W'

set_option maxRecDepth 100000 in
set_option maxHeartbeats 12800000 in
theorem combC {w W : World} {pa pb : Nat} {both : Bool} {c : CP} {Ra Rb : Rel} (h : CIn w W c (.slice none 0 0) (.slice none 0 0) Ra Rb) (ha : RelAt w pa Ra) (hB : RelAt w pb Rb) (hna : Ra.n1 ≤ 4) (hnb : Rb.n1 ≤ 4)
    {RR : Ending → World → Prop} {u3 u4 u5 u6 u7 u8 u9 u10 u14 u15 u16 u17 u18 u19 u20 u21 u22 u23 u24 u25 u26 u27 u28 u29 u30 u31 u32 u33 u34 u35 u36 u37 u38 u39 u40 u41 u42 u43 u44 u45 u46 u47 u48 u49 u50 u51 u52 u53 u54 u55 u56 u57 u58 u59 u60 u61 u62 u63 u64 u65 u66 u67 u68 u69 u70 u71 u72 u73 u74 u75 u76 u77 u78 u79 u80 u81 u82 u83 u84 u85 u86 u87 u88 u89 u90 u91 u92 u93 u94 u95 u96 u97 u98 u99 u100 u101 u102 u103 u104 u105 u106 u107 u108 u109 u110 u111 u112 u113 u114 u115 u116 u117 u118 u119 u120 u121 u122 u123 u124 u125 u126 u127 u128 u129 u130 u131 u132 u133 u134 u135 u136 u137 u138 u139 u140 u141 u142 u143 u144 u145 u146 u147 u148 u149 u150 u151 u152 u153 u154 u155 u156 u157 u158 u159 u160 u161 u162 u163 u164 u165 u166 u167 u168 u169 u170 u171 u172 u173 u174 u175 u176 u177 u178 u179 u180 u181 u182 u183 u184 u185 u186 u187 u188 u189 u190 u191 u192 u193 u194 u195 u196 u197 u198 u199 u200 u201 u202 u203 u204 u205 u206 u207 u208 u209 u210 u211 u212 u213 u214 u215 u216 u217 u218 u219 u220 u221 u222 u223 u224 u225 u226 u227 u228 u229 u230 u231 u232 u233 u234 u235 u236 u237 u238 u239 u240 u241 u242 u243 u244 u245 u246 u247 u248 u249 : Value}
    (hNext : NextD w pa pb c.jb c.cb c.g both Ra Rb RR) :
    Code.wp Yba.prog (dropC 9 (codeOf Yba.f14)) (bodyPost Yba.prog Yba.f14 RR) ⟨#[.pointer (some ⟨pa, 0, none⟩), .pointer (some ⟨pb, 0, none⟩), .bool both, u3, u4, u5, u6, u7, u8, u9, u10, .pointer (some ⟨c.jb, 0, none⟩), .pointer (some ⟨c.cb, 0, none⟩), c.rv, u14, u15, u16, u17, u18, u19, u20, u21, u22, u23, u24, u25, u26, u27, u28, u29, u30, u31, u32, u33, u34, u35, u36, u37, u38, u39, u40, u41, u42, u43, u44, u45, u46, u47, u48, u49, u50, u51, u52, u53, u54, u55, u56, u57, u58, u59, u60, u61, u62, u63, u64, u65, u66, u67, u68, u69, u70, u71, u72, u73, u74, u75, u76, u77, u78, u79, u80, u81, u82, u83, u84, u85, u86, u87, u88, u89, u90, u91, u92, u93, u94, u95, u96, u97, u98, u99, u100, u101, u102, u103, u104, u105, u106, u107, u108, u109, u110, u111, u112, u113, u114, u115, u116, u117, u118, u119, u120, u121, u122, u123, u124, u125, u126, u127, u128, u129, u130, u131, u132, u133, u134, u135, u136, u137, u138, u139, u140, u141, u142, u143, u144, u145, u146, u147, u148, u149, u150, u151, u152, u153, u154, u155, u156, u157, u158, u159, u160, u161, u162, u163, u164, u165, u166, u167, u168, u169, u170, u171, u172, u173, u174, u175, u176, u177, u178, u179, u180, u181, u182, u183, u184, u185, u186, u187, u188, u189, u190, u191, u192, u193, u194, u195, u196, u197, u198, u199, u200, u201, u202, u203, u204, u205, u206, u207, u208, u209, u210, u211, u212, u213, u214, u215, u216, u217, u218, u219, u220, u221, u222, u223, u224, u225, u226, u227, u228, u229, u230, u231, u232, u233, u234, u235, u236, u237, u238, u239, u240, u241, u242, u243, u244, u245, u246, u247, u248, u249], []⟩ W := by
  obtain ⟨fb, fcap, fcur, hfv, _, _⟩ := h.s1.prs
  have HFV := hid hfv
  have HC := hid h
  have HN := hid hNext
  have a3 : W.cell? ⟨pa, 3, none⟩ = some (.int .i32 (Ra.n1 : Nat)) := (h.bel.cell (block_lt_of_cell ha.c3)).trans ha.c3
  have b3 : W.cell? ⟨pb, 3, none⟩ = some (.int .i32 (Rb.n1 : Nat)) := (h.bel.cell (block_lt_of_cell hB.c3)).trans hB.c3
  have h9 := h.s1.le
  clear hNext h ha hB hfv
  generalize hQ : bodyPost Yba.prog Yba.f14 RR = Q
  have HQ := hid hQ
  clear hQ
  simp only [dropC, codeOf, Yba.f14, Option.getD_some]
  refine wp_seq_k (fun K hK => ?_)
  have HK := hid hK
  clear hK
  go_upto_region 18 with fail
  go_cut [116, 117, 118] from 104 to 118 (fun v2 v3 v4 wx => ∃ tb, v2 = .slice (some ⟨tb, 0, none⟩) 2 2 ∧ v3 = .int .i64 2 ∧ v4 = .int .i64 0 ∧ wx.heap[tb]? = some (.cells #[.int .i32 (Ra.n1 : Nat), .int .i32 (Rb.n1 : Nat)] 21 (0, 0)) ∧ Below W.heap.size W wx)
  case first =>
    have hbn : Below W.heap.size W (W.alloc (.cells #[.int .i32 (Ra.n1 : Nat), .int .i32 (Rb.n1 : Nat)] 21)).drew := Below.drew (below_al (Below.refl _ _) _)
    have HBN := hid hbn
    have HNEW := hid (heap_new W (.cells #[.int .i32 (Ra.n1 : Nat), .int .i32 (Rb.n1 : Nat)] 21))
    clear hbn
    go_region_held3 (fun W' => W'.cell? ⟨pa, 3, none⟩ = some (.int .i32 (Ra.n1 : Nat)) ∧ W'.cell? ⟨pb, 3, none⟩ = some (.int .i32 (Rb.n1 : Nat)))
      (first | exact ⟨a3, b3⟩ | exact ⟨(HBN.out.cell (block_lt_of_cell a3)).trans a3, (HBN.out.cell (block_lt_of_cell b3)).trans b3⟩)
      (fail)
    all_goals go_wp2_with fail
    all_goals go_meet
    all_goals exact ⟨_, rfl, rfl, rfl, HNEW.out, HBN.out⟩
  case rest =>
    obtain ⟨tb, rfl, rfl, rfl, htb, hbc⟩ := hcut
    have H1 := hid (show OfInv w wc c Ra Rb tb 0 from ⟨htb, .inl ⟨rfl, HC.out.below hbc⟩⟩)
    clear HC hbc htb a3 b3
    go_wp2_with fail
    go_loopw [118] (fun vi wr => ∃ i : Nat, i ≤ 2 ∧ vi = .int .i64 i ∧ OfInv w wr c Ra Rb tb i) (fun vi _ => 2 - (intOf vi).toNat)
    case atStart => exact ⟨0, by omega, rfl, H1.out⟩
    case round =>
      obtain ⟨i, hi, rfl, hinv⟩ := hrel
      clear H1
      obtain rfl | rfl | rfl : i = 0 ∨ i = 1 ∨ i = 2 := by omega
      · simp only [show ((0 : Nat) : Int) = 0 from rfl]
        obtain ⟨htb, hci⟩ := hinv.at0
        clear hinv
        have ht : wr.cell? ⟨tb, 0, none⟩ = some (.int .i32 (Ra.n1 : Nat)) := by simp [World.cell?, htb]
        obtain ⟨l1, l2, l3⟩ := hci.low
        have hwr := hci.bel.size
        have htl := lt_of_block htb
        obtain ⟨i0, hi0, hz0, hz1, hz2⟩ := info_parts info70
        have HST := hid (fun (w3 : World) (hgr : wr.grownBy w3 none) (hrow : w3.ownsRow wr.heap.size 70 1 (.slice (some ⟨wr.heap.size, 0, none⟩) Ra.n1 Ra.n1) Ra.n1 (madeCells #[.slice none 0 0] Ra.n1).toList) => by
          have hb : Below wr.heap.size wr w3 := (Below.refl _ _).grown hgr (Nat.le_refl _) (fun k hk => by cases hk)
          have h3 := hci.below hb
          have ho := OfOwn.made (f := (·.1)) (fr := c.fr) hrow hb.size
          have hg : w3.grownBy (w3.setCell ⟨c.jb, 3, none⟩ (.slice (some ⟨wr.heap.size, 0, none⟩) Ra.n1 Ra.n1)) (some c.jb) := grown_setCell (World.grownBy.refl _ _)
          have t3 := (hb.block _ htl).trans htb
          exact (⟨h3.set0, ho.grown hg h3.jbk (by decide) (by decide), (hg.block _ (lt_of_block t3) (fun e => ne_cc t3 h3.jbk (by decide) (Option.some.inj e))).trans t3⟩ : CIn w (w3.setCell ⟨c.jb, 3, none⟩ (.slice (some ⟨wr.heap.size, 0, none⟩) Ra.n1 Ra.n1)) c (.slice (some ⟨wr.heap.size, 0, none⟩) Ra.n1 Ra.n1) (.slice none 0 0) Ra Rb ∧ OfOwn (w3.setCell ⟨c.jb, 3, none⟩ (.slice (some ⟨wr.heap.size, 0, none⟩) Ra.n1 Ra.n1)) wr.heap.size wr.heap.size Ra.n1 (ofTo (·.1) c.fr 0) (fun _ => .slice none 0 0) ∧ (w3.setCell ⟨c.jb, 3, none⟩ (.slice (some ⟨wr.heap.size, 0, none⟩) Ra.n1 Ra.n1)).heap[tb]? = some (.cells #[.int .i32 (Ra.n1 : Nat), .int .i32 (Rb.n1 : Nat)] 21 (0, 0))))
        have HC3 := hid (fun (w3 : World) (hgr : wr.grownBy w3 none) => (⟨by
          have h3 := (hgr.block _ (lt_of_block hci.jbk) (by simp)).trans hci.jbk
          simp [World.cell?, h3, CP.ji], fun j => by
          have h3 := (hgr.block _ (lt_of_block hci.jbk) (by simp)).trans hci.jbk
          simp [World.frozen?, h3], by
          have h3 := (hgr.block _ (lt_of_block hci.jbk) (by simp)).trans hci.jbk
          simp [World.cell?, h3, CP.ji, HFV.out]⟩ : w3.cell? ⟨c.jb, 3, none⟩ = some (.slice none 0 0) ∧ (∀ j, w3.frozen? ⟨c.jb, j, none⟩ = false) ∧ w3.cell? ⟨c.jb, 1, none⟩ = some (.slice (some ⟨fb, 0, none⟩) c.fr.length fcap)))
        clear htb hci
        go_wp2_with (at_make; refine wpList_make_full _ rfl _ _ 68 rfl wr.heap.size 70 i0 _ 1 Yba.underlying68 hi0 hz0 hz1 .i32 .i32 (Ra.n1 : Int) (Ra.n1 : Int) Ra.n1 rfl rfl rfl rfl ?b2 ?b3 ?b4 ?_)
        case b2 => rw [hz2]; omega
        case b3 => unfold maxLen; omega
        case b4 => exact Nat.le_refl _
        intro w3 hrow hgr
        obtain ⟨q3, qf, qx⟩ := HC3.out w3 hgr
        have HL := hid (HST.out w3 hgr (by simpa using hrow))
        clear hrow hgr HST HC3 hi0 hz0 hz1 hz2 ht
        generalize wr.heap.size = B at HL l1 l2 l3 hwr htl ⊢
        have x1 : (w3.setCell ⟨c.jb, 3, none⟩ (.slice (some ⟨B, 0, none⟩) Ra.n1 Ra.n1)).cell? ⟨c.jb, 1, none⟩ = some (.slice (some ⟨fb, 0, none⟩) c.fr.length fcap) := by simp [World.cell?, HL.out.1.jbk, CP.ji, HFV.out]
        go_wp2_with fail
        clear q3 qf qx x1
        generalize w3.setCell ⟨c.jb, 3, none⟩ (.slice (some ⟨B, 0, none⟩) Ra.n1 Ra.n1) = W0 at HL ⊢
        go_loopw [131] (fun vi wr => ∃ (l : Nat) (U : Nat → Value), l ≤ c.fr.length ∧ vi = .int .i64 l ∧ CIn w wr c (.slice (some ⟨B, 0, none⟩) Ra.n1 Ra.n1) (.slice none 0 0) Ra Rb ∧ OfOwn wr B B Ra.n1 (ofTo (·.1) c.fr l) U ∧ wr.heap[tb]? = some (.cells #[.int .i32 (Ra.n1 : Nat), .int .i32 (Rb.n1 : Nat)] 21 (0, 0))) (fun vi _ => c.fr.length - (intOf vi).toNat)
        case atStart => exact ⟨0, _, by omega, rfl, HL.out⟩
        case round =>
          obtain ⟨l, U, hl, rfl, hci, ho, htb⟩ := hrel
          clear HL
          rcases Nat.lt_or_ge l c.fr.length with hlt | hge
          · have t1 : (l : Int) < (c.fr.length : Int) := by omega
            obtain ⟨fb', fcap', fcur', hfv', hfk, hfe⟩ := hci.s1.prs
            have hfv2 := HFV.out.symm.trans hfv'
            simp only [Value.slice.injEq, Option.some.injEq, Addr.mk.injEq, true_and, and_true] at hfv2
            obtain ⟨rfl, rfl⟩ := hfv2
            obtain ⟨p, hp⟩ : ∃ p, c.fr[l]? = some p := ⟨c.fr[l], by simp [hlt]⟩
            obtain ⟨f0, f1⟩ := hfe l p hp
            obtain ⟨q1, q2⟩ := p
            obtain ⟨hp1, hp2⟩ := hci.s1.each l q1 q2 hp
            have t2 : (q1 : Int) < (Ra.n1 : Int) := by omega
            simp only at f0 f1
            have HP := hid hp
            have hb2 : Below wr.heap.size wr (wr.alloc (.cells #[.int .i32 (q1 : Nat), .int .i32 (q2 : Nat)] 75)) := below_al (Below.refl _ _) _
            have HCI := hid (hci.below hb2)
            have HO := hid (ho.below hb2)
            have HT := hid ((hb2.block _ (lt_of_block htb)).trans htb)
            skip
            have ZB := hid (heap_new wr (.cells #[.int .i32 (q1 : Nat), .int .i32 (q2 : Nat)] 75))
            clear hb2 hci ho htb hp hfv' hfk hfe
            have hwx : IntKind.i32.wrap (l : Int) = (l : Int) := wrap32 (by omega)
            go_upto_region 25 with fail
            clear f0 f1
            generalize wr.alloc (.cells #[.int .i32 (q1 : Nat), .int .i32 (q2 : Nat)] 75) = W2 at HCI HO HT ZB ⊢
            generalize wr.heap.size = Z at ZB ⊢
            obtain ⟨a5, L5, c5, w5, U', hrun, ho5, hb5, hk5, s1, sf, hD5, hj5, hD6, hj6⟩ := HO.out.step (k := q1) (x := l) (by omega) (by have := ofTo_len (·.1) c.fr l q1; omega) ZB.out HCI.out.jbk
            have HFIN := hid (show CIn w (w5.setCell ⟨B, q1, none⟩ (.slice a5 L5 c5)) c (.slice (some ⟨B, 0, none⟩) Ra.n1 Ra.n1) (.slice none 0 0) Ra Rb ∧ OfOwn (w5.setCell ⟨B, q1, none⟩ (.slice a5 L5 c5)) B B Ra.n1 (ofTo (·.1) c.fr (l + 1)) U' ∧ (w5.setCell ⟨B, q1, none⟩ (.slice a5 L5 c5)).heap[tb]? = some (.cells #[.int .i32 (Ra.n1 : Nat), .int .i32 (Rb.n1 : Nat)] 21 (0, 0)) from ⟨HCI.out.move hk5 hb5 hwr l1 l2 l3, by rw [ofTo_succ HP.out]; exact ho5, (hb5.block _ htl).trans HT.out⟩)
            have S1 : W2.drew.cell? ⟨c.jb, 3, none⟩ = some (.slice (some ⟨B, 0, none⟩) Ra.n1 Ra.n1) ∧ W2.drew.cell? ⟨Z, 0, none⟩ = some (.int .i32 (q1 : Nat)) := ⟨by show W2.cell? _ = _; simp [World.cell?, HCI.out.jbk, CP.ji], by show W2.cell? _ = _; simp [World.cell?, ZB.out]⟩
            have hb1 : Below W2.heap.size W2 (W2.alloc (.cells #[.int .i32 (l : Nat)] 21)).drew := Below.drew (below_al (Below.refl _ _) _)
            have S2 : (W2.alloc (.cells #[.int .i32 (l : Nat)] 21)).drew.cell? ⟨c.jb, 3, none⟩ = some (.slice (some ⟨B, 0, none⟩) Ra.n1 Ra.n1) ∧ (W2.alloc (.cells #[.int .i32 (l : Nat)] 21)).drew.cell? ⟨Z, 0, none⟩ = some (.int .i32 (q1 : Nat)) := ⟨(hb1.cell (lt_of_block HCI.out.jbk)).trans S1.1, (hb1.cell (lt_of_block ZB.out)).trans S1.2⟩
            have S5 : w5.cell? ⟨c.jb, 3, none⟩ = some (.slice (some ⟨B, 0, none⟩) Ra.n1 Ra.n1) ∧ w5.cell? ⟨Z, 0, none⟩ = some (.int .i32 (q1 : Nat)) := ⟨by simp [World.cell?, hj5, CP.ji], by simp [World.cell?, hD5]⟩
            have S6 : (w5.setCell ⟨B, q1, none⟩ (.slice a5 L5 c5)).cell? ⟨c.jb, 3, none⟩ = some (.slice (some ⟨B, 0, none⟩) Ra.n1 Ra.n1) ∧ (w5.setCell ⟨B, q1, none⟩ (.slice a5 L5 c5)).cell? ⟨Z, 0, none⟩ = some (.int .i32 (q1 : Nat)) := ⟨by simp only [World.cell?, hj6]; rfl, by simp only [World.cell?, hD6]; rfl⟩
            have p1 : W2.drew.cell? ⟨B, q1, none⟩ = some (U q1) := HO.out.each q1 (by omega)
            have r1 : (W2.alloc (.cells #[.int .i32 (l : Nat)] 21)).drew.cell? ⟨B, q1, none⟩ = some (U q1) := (hb1.cell (block_lt_of_cell p1)).trans p1
            clear ho5 hb5 hk5 hD5 hj5 hD6 hj6 hb1 HCI HO HT ZB
            go_wp2_with fail
            refine wp_region_noPanic ?_
            refine wp_region_held_drew (S := fun W => W.cell? ⟨c.jb, 3, none⟩ = some (.slice (some ⟨B, 0, none⟩) Ra.n1 Ra.n1) ∧ W.cell? ⟨Z, 0, none⟩ = some (.int .i32 (q1 : Nat))) (by kernel_rfl) S1 (fun hHeld => ?_)
            refine wpAnyH_take (i := 0) (v := .int .i64 0) rfl (by kernel_rfl) (by kernel_rfl) (by kernel_rfl) (fun _ _ _ h => h) (Or.inl ⟨by rfl, fun W hSw => by obtain ⟨hS1, hS2⟩ := hSw; go_simp⟩) hHeld ?_
            simp only [Act.put, List.setIfInBounds_toArray, List.set_cons_zero, List.set_cons_succ]
            refine wpAnyH_take (i := 1) (v := .pointer (some ⟨c.jb, 3, none⟩)) rfl (by kernel_rfl) (by kernel_rfl) (by kernel_rfl) (fun _ _ _ h => h) (Or.inl ⟨by rfl, fun W hSw => by obtain ⟨hS1, hS2⟩ := hSw; go_simp⟩) hHeld ?_
            simp only [Act.put, List.setIfInBounds_toArray, List.set_cons_zero, List.set_cons_succ]
            refine wpAnyH_take (i := 2) (v := .pointer (some ⟨c.jb, 3, none⟩)) rfl (by kernel_rfl) (by kernel_rfl) (by kernel_rfl) (fun _ _ _ h => h) (Or.inl ⟨by rfl, fun W hSw => by obtain ⟨hS1, hS2⟩ := hSw; go_simp⟩) hHeld ?_
            simp only [Act.put, List.setIfInBounds_toArray, List.set_cons_zero, List.set_cons_succ]
            refine wpAnyH_take (i := 3) (v := .slice (some ⟨B, 0, none⟩) Ra.n1 Ra.n1) rfl (by kernel_rfl) (by kernel_rfl) (by kernel_rfl) (fun _ _ _ h => h) (Or.inl ⟨by rfl, fun W hSw => by obtain ⟨hS1, hS2⟩ := hSw; go_simp⟩) hHeld ?_
            simp only [Act.put, List.setIfInBounds_toArray, List.set_cons_zero, List.set_cons_succ]
            refine wpAnyH_take (i := 4) (v := .int .i64 0) rfl (by kernel_rfl) (by kernel_rfl) (by kernel_rfl) (fun _ _ _ h => h) (Or.inl ⟨by rfl, fun W hSw => by obtain ⟨hS1, hS2⟩ := hSw; go_simp⟩) hHeld ?_
            simp only [Act.put, List.setIfInBounds_toArray, List.set_cons_zero, List.set_cons_succ]
            refine wpAnyH_take (i := 5) (v := .pointer (some ⟨Z, 0, none⟩)) rfl (by kernel_rfl) (by kernel_rfl) (by kernel_rfl) (fun _ _ _ h => h) (Or.inl ⟨by rfl, fun W hSw => by obtain ⟨hS1, hS2⟩ := hSw; go_simp⟩) hHeld ?_
            simp only [Act.put, List.setIfInBounds_toArray, List.set_cons_zero, List.set_cons_succ]
            refine wpAnyH_take (i := 6) (v := .int .i32 (q1 : Nat)) rfl (by kernel_rfl) (by kernel_rfl) (by kernel_rfl) (fun _ _ _ h => h) (Or.inl ⟨by rfl, fun W hSw => by obtain ⟨hS1, hS2⟩ := hSw; go_simp⟩) hHeld ?_
            simp only [Act.put, List.setIfInBounds_toArray, List.set_cons_zero, List.set_cons_succ]
            refine wpAnyH_take (i := 7) (v := .int .i64 0) rfl (by kernel_rfl) (by kernel_rfl) (by kernel_rfl) (fun _ _ _ h => h) (Or.inl ⟨by rfl, fun W hSw => by obtain ⟨hS1, hS2⟩ := hSw; go_simp⟩) hHeld ?_
            simp only [Act.put, List.setIfInBounds_toArray, List.set_cons_zero, List.set_cons_succ]
            refine wpAnyH_take (i := 8) (v := .pointer (some ⟨c.jb, 3, none⟩)) rfl (by kernel_rfl) (by kernel_rfl) (by kernel_rfl) (fun _ _ _ h => h) (Or.inl ⟨by rfl, fun W hSw => by obtain ⟨hS1, hS2⟩ := hSw; go_simp⟩) hHeld ?_
            simp only [Act.put, List.setIfInBounds_toArray, List.set_cons_zero, List.set_cons_succ]
            refine wpAnyH_take (i := 9) (v := .pointer (some ⟨c.jb, 3, none⟩)) rfl (by kernel_rfl) (by kernel_rfl) (by kernel_rfl) (fun _ _ _ h => h) (Or.inl ⟨by rfl, fun W hSw => by obtain ⟨hS1, hS2⟩ := hSw; go_simp⟩) hHeld ?_
            simp only [Act.put, List.setIfInBounds_toArray, List.set_cons_zero, List.set_cons_succ]
            refine wpAnyH_take (i := 10) (v := .slice (some ⟨B, 0, none⟩) Ra.n1 Ra.n1) rfl (by kernel_rfl) (by kernel_rfl) (by kernel_rfl) (fun _ _ _ h => h) (Or.inl ⟨by rfl, fun W hSw => by obtain ⟨hS1, hS2⟩ := hSw; go_simp⟩) hHeld ?_
            simp only [Act.put, List.setIfInBounds_toArray, List.set_cons_zero, List.set_cons_succ]
            refine wpAnyH_take (i := 11) (v := .int .i64 0) rfl (by kernel_rfl) (by kernel_rfl) (by kernel_rfl) (fun _ _ _ h => h) (Or.inl ⟨by rfl, fun W hSw => by obtain ⟨hS1, hS2⟩ := hSw; go_simp⟩) hHeld ?_
            simp only [Act.put, List.setIfInBounds_toArray, List.set_cons_zero, List.set_cons_succ]
            refine wpAnyH_take (i := 12) (v := .pointer (some ⟨Z, 0, none⟩)) rfl (by kernel_rfl) (by kernel_rfl) (by kernel_rfl) (fun _ _ _ h => h) (Or.inl ⟨by rfl, fun W hSw => by obtain ⟨hS1, hS2⟩ := hSw; go_simp⟩) hHeld ?_
            simp only [Act.put, List.setIfInBounds_toArray, List.set_cons_zero, List.set_cons_succ]
            refine wpAnyH_take (i := 13) (v := .int .i32 (q1 : Nat)) rfl (by kernel_rfl) (by kernel_rfl) (by kernel_rfl) (fun _ _ _ h => h) (Or.inl ⟨by rfl, fun W hSw => by obtain ⟨hS1, hS2⟩ := hSw; go_simp⟩) hHeld ?_
            simp only [Act.put, List.setIfInBounds_toArray, List.set_cons_zero, List.set_cons_succ]
            refine wpAnyH_take (i := 14) (v := .pointer (some ⟨B, q1, none⟩)) rfl (by kernel_rfl) (by kernel_rfl) (by kernel_rfl) (fun _ _ _ h => h) (Or.inl ⟨by rfl, fun W hSw => by obtain ⟨hS1, hS2⟩ := hSw; go_simp⟩) hHeld ?_
            simp only [Act.put, List.setIfInBounds_toArray, List.set_cons_zero, List.set_cons_succ]
            refine wpAnyH_take (i := 16) (v := .int .i64 (l : Nat)) rfl (by kernel_rfl) (by kernel_rfl) (by kernel_rfl) (fun _ _ _ h => h) (Or.inl ⟨by rfl, fun W hSw => by obtain ⟨hS1, hS2⟩ := hSw; go_simp⟩) hHeld ?_
            simp only [Act.put, List.setIfInBounds_toArray, List.set_cons_zero, List.set_cons_succ]
            refine wpAnyH_take (i := 17) (v := .int .i32 (l : Nat)) rfl (by kernel_rfl) (by kernel_rfl) (by kernel_rfl) (fun _ _ _ h => h) (Or.inl ⟨by rfl, fun W hSw => by obtain ⟨hS1, hS2⟩ := hSw; go_simp⟩) hHeld ?_
            simp only [Act.put, List.setIfInBounds_toArray, List.set_cons_zero, List.set_cons_succ]
            refine wpAnyH_ready (rs := [15, 18]) (by kernel_rfl) (by simp) ?_
            refine AllReadyH.cons rfl (fun K hK => ?_) (AllReadyH.cons rfl (fun K hK => ?_) AllReadyH.nil)
            · go_simp
              refine hK.out _ _ ?_ (fun hHeld2 => ?_)
              · exact S1
              clear hK K hHeld
              have hHeld := hHeld2
              clear hHeld2
              try simp only [Act.put, List.setIfInBounds_toArray, List.set_cons_zero, List.set_cons_succ]
              refine wpAnyH_ready (rs := [18]) (by kernel_rfl) (by simp) ?_
              refine AllReadyH.cons rfl (fun K hK => ?_) AllReadyH.nil
              go_simp
              refine hK.out _ _ ?_ (fun hHeld2 => ?_)
              · exact S2
              clear hK K hHeld
              have hHeld := hHeld2
              clear hHeld2
              try simp only [Act.put, List.setIfInBounds_toArray, List.set_cons_zero, List.set_cons_succ]
              refine wpAnyH_ready (rs := [19]) (by kernel_rfl) (by simp) ?_
              refine AllReadyH.cons rfl (fun K hK => ?_) AllReadyH.nil
              rw [if_pos (by rfl)]
              refine wp_append _ _ 70 rfl _ _ _ _ rfl rfl hrun ?_
              refine hK.out _ _ ?_ (fun hHeld2 => ?_)
              · exact S5
              clear hK K hHeld
              have hHeld := hHeld2
              clear hHeld2
              try simp only [Act.put, List.setIfInBounds_toArray, List.set_cons_zero, List.set_cons_succ]
              refine wpAnyH_take (i := 20) (v := .pointer (some ⟨B, q1, none⟩)) rfl (by kernel_rfl) (by kernel_rfl) (by kernel_rfl) (fun _ _ _ h => h) (Or.inl ⟨by rfl, fun W hSw => by obtain ⟨hS1, hS2⟩ := hSw; go_simp⟩) hHeld ?_
              simp only [Act.put, List.setIfInBounds_toArray, List.set_cons_zero, List.set_cons_succ]
              refine wpAnyH_ready (rs := [21]) (by kernel_rfl) (by simp) ?_
              refine AllReadyH.cons rfl (fun K hK => ?_) AllReadyH.nil
              go_simp
              refine hK.out _ _ ?_ (fun hHeld2 => ?_)
              · exact S6
              clear hK K hHeld
              have hHeld := hHeld2
              clear hHeld2
              try simp only [Act.put, List.setIfInBounds_toArray, List.set_cons_zero, List.set_cons_succ]
              refine wpAnyH_done (by kernel_rfl) ?_ _
              refine NoPanic.normal ?_
              go_wp2_with fail
              go_roundw
              case rel => exact ⟨l + 1, U', by omega, by simp, HFIN.out⟩
              case measure => simp [intOf]; omega
            · go_simp
              refine hK.out _ _ ?_ (fun hHeld2 => ?_)
              · exact S2
              clear hK K hHeld
              have hHeld := hHeld2
              clear hHeld2
              try simp only [Act.put, List.setIfInBounds_toArray, List.set_cons_zero, List.set_cons_succ]
              refine wpAnyH_ready (rs := [15]) (by kernel_rfl) (by simp) ?_
              refine AllReadyH.cons rfl (fun K hK => ?_) AllReadyH.nil
              go_simp
              refine hK.out _ _ ?_ (fun hHeld2 => ?_)
              · exact S2
              clear hK K hHeld
              have hHeld := hHeld2
              clear hHeld2
              try simp only [Act.put, List.setIfInBounds_toArray, List.set_cons_zero, List.set_cons_succ]
              refine wpAnyH_ready (rs := [19]) (by kernel_rfl) (by simp) ?_
              refine AllReadyH.cons rfl (fun K hK => ?_) AllReadyH.nil
              rw [if_pos (by rfl)]
              refine wp_append _ _ 70 rfl _ _ _ _ rfl rfl hrun ?_
              refine hK.out _ _ ?_ (fun hHeld2 => ?_)
              · exact S5
              clear hK K hHeld
              have hHeld := hHeld2
              clear hHeld2
              try simp only [Act.put, List.setIfInBounds_toArray, List.set_cons_zero, List.set_cons_succ]
              refine wpAnyH_take (i := 20) (v := .pointer (some ⟨B, q1, none⟩)) rfl (by kernel_rfl) (by kernel_rfl) (by kernel_rfl) (fun _ _ _ h => h) (Or.inl ⟨by rfl, fun W hSw => by obtain ⟨hS1, hS2⟩ := hSw; go_simp⟩) hHeld ?_
              simp only [Act.put, List.setIfInBounds_toArray, List.set_cons_zero, List.set_cons_succ]
              refine wpAnyH_ready (rs := [21]) (by kernel_rfl) (by simp) ?_
              refine AllReadyH.cons rfl (fun K hK => ?_) AllReadyH.nil
              go_simp
              refine hK.out _ _ ?_ (fun hHeld2 => ?_)
              · exact S6
              clear hK K hHeld
              have hHeld := hHeld2
              clear hHeld2
              try simp only [Act.put, List.setIfInBounds_toArray, List.set_cons_zero, List.set_cons_succ]
              refine wpAnyH_done (by kernel_rfl) ?_ _
              refine NoPanic.normal ?_
              go_wp2_with fail
              go_roundw
              case rel => exact ⟨l + 1, U', by omega, by simp, HFIN.out⟩
              case measure => simp [intOf]; omega
          · have : l = c.fr.length := by omega
            subst this
            have t1 : ¬ (c.fr.length : Int) < (c.fr.length : Int) := by omega
            have HE := hid (show OfInv w wr c Ra Rb tb 1 from OfInv.one htb hci ho l3)
            clear hci ho htb
            go_wp2_with fail
            go_roundw
            case rel => exact ⟨1, by omega, rfl, HE.out⟩
            case measure => simp [intOf]
      · simp only [show ((1 : Nat) : Int) = 1 from rfl]
        obtain ⟨htb, ob0, base0, U0, hci, ho0, m0⟩ := hinv.at1
        clear hinv
        have ht : wr.cell? ⟨tb, 1, none⟩ = some (.int .i32 (Rb.n1 : Nat)) := by simp [World.cell?, htb]
        obtain ⟨l1, l2, l3⟩ := hci.low
        have hwr := hci.bel.size
        have htl := lt_of_block htb
        obtain ⟨hU, hob0⟩ := ho0.size
        have HU := hid hU
        clear hU
        obtain ⟨i0, hi0, hz0, hz1, hz2⟩ := info_parts info70
        have HST := hid (fun (w3 : World) (hgr : wr.grownBy w3 none) (hrow : w3.ownsRow wr.heap.size 70 1 (.slice (some ⟨wr.heap.size, 0, none⟩) Rb.n1 Rb.n1) Rb.n1 (madeCells #[.slice none 0 0] Rb.n1).toList) => by
          have hb : Below wr.heap.size wr w3 := (Below.refl _ _).grown hgr (Nat.le_refl _) (fun k hk => by cases hk)
          have h3 := hci.below hb
          have ho := OfOwn.made (f := (·.2)) (fr := c.fr) hrow hb.size
          have hg : w3.grownBy (w3.setCell ⟨c.jb, 4, none⟩ (.slice (some ⟨wr.heap.size, 0, none⟩) Rb.n1 Rb.n1)) (some c.jb) := grown_setCell (World.grownBy.refl _ _)
          have t3 := (hb.block _ htl).trans htb
          exact (⟨h3.set1, ho.grown hg h3.jbk (by decide) (by decide), (hg.block _ (lt_of_block t3) (fun e => ne_cc t3 h3.jbk (by decide) (Option.some.inj e))).trans t3, (ho0.below hb).grown hg h3.jbk (by decide) (by decide)⟩ : CIn w (w3.setCell ⟨c.jb, 4, none⟩ (.slice (some ⟨wr.heap.size, 0, none⟩) Rb.n1 Rb.n1)) c (.slice (some ⟨ob0, 0, none⟩) Ra.n1 Ra.n1) (.slice (some ⟨wr.heap.size, 0, none⟩) Rb.n1 Rb.n1) Ra Rb ∧ OfOwn (w3.setCell ⟨c.jb, 4, none⟩ (.slice (some ⟨wr.heap.size, 0, none⟩) Rb.n1 Rb.n1)) wr.heap.size wr.heap.size Rb.n1 (ofTo (·.2) c.fr 0) (fun _ => .slice none 0 0) ∧ (w3.setCell ⟨c.jb, 4, none⟩ (.slice (some ⟨wr.heap.size, 0, none⟩) Rb.n1 Rb.n1)).heap[tb]? = some (.cells #[.int .i32 (Ra.n1 : Nat), .int .i32 (Rb.n1 : Nat)] 21 (0, 0)) ∧ OfOwn (w3.setCell ⟨c.jb, 4, none⟩ (.slice (some ⟨wr.heap.size, 0, none⟩) Rb.n1 Rb.n1)) base0 ob0 Ra.n1 (ofTo (·.1) c.fr c.fr.length) U0))
        have HC3 := hid (fun (w3 : World) (hgr : wr.grownBy w3 none) => (⟨by
          have h3 := (hgr.block _ (lt_of_block hci.jbk) (by simp)).trans hci.jbk
          simp [World.cell?, h3, CP.ji], fun j => by
          have h3 := (hgr.block _ (lt_of_block hci.jbk) (by simp)).trans hci.jbk
          simp [World.frozen?, h3], by
          have h3 := (hgr.block _ (lt_of_block hci.jbk) (by simp)).trans hci.jbk
          simp [World.cell?, h3, CP.ji, HFV.out]⟩ : w3.cell? ⟨c.jb, 4, none⟩ = some (.slice none 0 0) ∧ (∀ j, w3.frozen? ⟨c.jb, j, none⟩ = false) ∧ w3.cell? ⟨c.jb, 1, none⟩ = some (.slice (some ⟨fb, 0, none⟩) c.fr.length fcap)))
        clear htb hci ho0
        go_wp2_with (at_make; refine wpList_make_full _ rfl _ _ 68 rfl wr.heap.size 70 i0 _ 1 Yba.underlying68 hi0 hz0 hz1 .i32 .i32 (Rb.n1 : Int) (Rb.n1 : Int) Rb.n1 rfl rfl rfl rfl ?b2 ?b3 ?b4 ?_)
        case b2 => rw [hz2]; omega
        case b3 => unfold maxLen; omega
        case b4 => exact Nat.le_refl _
        intro w3 hrow hgr
        obtain ⟨q3, qf, qx⟩ := HC3.out w3 hgr
        have HL := hid (HST.out w3 hgr (by simpa using hrow))
        clear hrow hgr HST HC3 hi0 hz0 hz1 hz2 ht
        generalize wr.heap.size = B at HL l1 l2 l3 hwr htl HU hob0 ⊢
        have x1 : (w3.setCell ⟨c.jb, 4, none⟩ (.slice (some ⟨B, 0, none⟩) Rb.n1 Rb.n1)).cell? ⟨c.jb, 1, none⟩ = some (.slice (some ⟨fb, 0, none⟩) c.fr.length fcap) := by simp [World.cell?, HL.out.1.jbk, CP.ji, HFV.out]
        go_wp2_with fail
        clear q3 qf qx x1
        generalize w3.setCell ⟨c.jb, 4, none⟩ (.slice (some ⟨B, 0, none⟩) Rb.n1 Rb.n1) = W0 at HL ⊢
        go_loopw [131] (fun vi wr => ∃ (l : Nat) (U : Nat → Value), l ≤ c.fr.length ∧ vi = .int .i64 l ∧ CIn w wr c (.slice (some ⟨ob0, 0, none⟩) Ra.n1 Ra.n1) (.slice (some ⟨B, 0, none⟩) Rb.n1 Rb.n1) Ra Rb ∧ OfOwn wr B B Rb.n1 (ofTo (·.2) c.fr l) U ∧ wr.heap[tb]? = some (.cells #[.int .i32 (Ra.n1 : Nat), .int .i32 (Rb.n1 : Nat)] 21 (0, 0)) ∧ OfOwn wr base0 ob0 Ra.n1 (ofTo (·.1) c.fr c.fr.length) U0) (fun vi _ => c.fr.length - (intOf vi).toNat)
        case atStart => exact ⟨0, _, by omega, rfl, HL.out⟩
        case round =>
          obtain ⟨l, U, hl, rfl, hci, ho, htb, ho0⟩ := hrel
          clear HL
          rcases Nat.lt_or_ge l c.fr.length with hlt | hge
          · have t1 : (l : Int) < (c.fr.length : Int) := by omega
            obtain ⟨fb', fcap', fcur', hfv', hfk, hfe⟩ := hci.s1.prs
            have hfv2 := HFV.out.symm.trans hfv'
            simp only [Value.slice.injEq, Option.some.injEq, Addr.mk.injEq, true_and, and_true] at hfv2
            obtain ⟨rfl, rfl⟩ := hfv2
            obtain ⟨p, hp⟩ : ∃ p, c.fr[l]? = some p := ⟨c.fr[l], by simp [hlt]⟩
            obtain ⟨f0, f1⟩ := hfe l p hp
            obtain ⟨q1, q2⟩ := p
            obtain ⟨hp1, hp2⟩ := hci.s1.each l q1 q2 hp
            have t2 : (q2 : Int) < (Rb.n1 : Int) := by omega
            simp only at f0 f1
            have HP := hid hp
            have hb2 : Below wr.heap.size wr (wr.alloc (.cells #[.int .i32 (q1 : Nat), .int .i32 (q2 : Nat)] 75)) := below_al (Below.refl _ _) _
            have HCI := hid (hci.below hb2)
            have HO := hid (ho.below hb2)
            have HT := hid ((hb2.block _ (lt_of_block htb)).trans htb)
            have HO0 := hid (ho0.below hb2)
            have ZB := hid (heap_new wr (.cells #[.int .i32 (q1 : Nat), .int .i32 (q2 : Nat)] 75))
            clear hb2 hci ho htb hp hfv' hfk hfe ho0
            have hwx : IntKind.i32.wrap (l : Int) = (l : Int) := wrap32 (by omega)
            go_upto_region 25 with fail
            clear f0 f1
            generalize wr.alloc (.cells #[.int .i32 (q1 : Nat), .int .i32 (q2 : Nat)] 75) = W2 at HCI HO HT ZB HO0 ⊢
            generalize wr.heap.size = Z at ZB ⊢
            obtain ⟨a5, L5, c5, w5, U', hrun, ho5, hb5, hk5, s1, sf, hD5, hj5, hD6, hj6⟩ := HO.out.step (k := q2) (x := l) (by omega) (by have := ofTo_len (·.2) c.fr l q2; omega) ZB.out HCI.out.jbk
            have HFIN := hid (show CIn w (w5.setCell ⟨B, q2, none⟩ (.slice a5 L5 c5)) c (.slice (some ⟨ob0, 0, none⟩) Ra.n1 Ra.n1) (.slice (some ⟨B, 0, none⟩) Rb.n1 Rb.n1) Ra Rb ∧ OfOwn (w5.setCell ⟨B, q2, none⟩ (.slice a5 L5 c5)) B B Rb.n1 (ofTo (·.2) c.fr (l + 1)) U' ∧ (w5.setCell ⟨B, q2, none⟩ (.slice a5 L5 c5)).heap[tb]? = some (.cells #[.int .i32 (Ra.n1 : Nat), .int .i32 (Rb.n1 : Nat)] 21 (0, 0)) ∧ OfOwn (w5.setCell ⟨B, q2, none⟩ (.slice a5 L5 c5)) base0 ob0 Ra.n1 (ofTo (·.1) c.fr c.fr.length) U0 from ⟨HCI.out.move hk5 hb5 hwr l1 l2 l3, by rw [ofTo_succ HP.out]; exact ho5, (hb5.block _ htl).trans HT.out, HO0.out.low hb5 HU.out hob0⟩)
            have S1 : W2.drew.cell? ⟨c.jb, 4, none⟩ = some (.slice (some ⟨B, 0, none⟩) Rb.n1 Rb.n1) ∧ W2.drew.cell? ⟨Z, 1, none⟩ = some (.int .i32 (q2 : Nat)) := ⟨by show W2.cell? _ = _; simp [World.cell?, HCI.out.jbk, CP.ji], by show W2.cell? _ = _; simp [World.cell?, ZB.out]⟩
            have hb1 : Below W2.heap.size W2 (W2.alloc (.cells #[.int .i32 (l : Nat)] 21)).drew := Below.drew (below_al (Below.refl _ _) _)
            have S2 : (W2.alloc (.cells #[.int .i32 (l : Nat)] 21)).drew.cell? ⟨c.jb, 4, none⟩ = some (.slice (some ⟨B, 0, none⟩) Rb.n1 Rb.n1) ∧ (W2.alloc (.cells #[.int .i32 (l : Nat)] 21)).drew.cell? ⟨Z, 1, none⟩ = some (.int .i32 (q2 : Nat)) := ⟨(hb1.cell (lt_of_block HCI.out.jbk)).trans S1.1, (hb1.cell (lt_of_block ZB.out)).trans S1.2⟩
            have S5 : w5.cell? ⟨c.jb, 4, none⟩ = some (.slice (some ⟨B, 0, none⟩) Rb.n1 Rb.n1) ∧ w5.cell? ⟨Z, 1, none⟩ = some (.int .i32 (q2 : Nat)) := ⟨by simp [World.cell?, hj5, CP.ji], by simp [World.cell?, hD5]⟩
            have S6 : (w5.setCell ⟨B, q2, none⟩ (.slice a5 L5 c5)).cell? ⟨c.jb, 4, none⟩ = some (.slice (some ⟨B, 0, none⟩) Rb.n1 Rb.n1) ∧ (w5.setCell ⟨B, q2, none⟩ (.slice a5 L5 c5)).cell? ⟨Z, 1, none⟩ = some (.int .i32 (q2 : Nat)) := ⟨by simp only [World.cell?, hj6]; rfl, by simp only [World.cell?, hD6]; rfl⟩
            have p1 : W2.drew.cell? ⟨B, q2, none⟩ = some (U q2) := HO.out.each q2 (by omega)
            have r1 : (W2.alloc (.cells #[.int .i32 (l : Nat)] 21)).drew.cell? ⟨B, q2, none⟩ = some (U q2) := (hb1.cell (block_lt_of_cell p1)).trans p1
            clear ho5 hb5 hk5 hD5 hj5 hD6 hj6 hb1 HCI HO HT ZB
            go_wp2_with fail
            refine wp_region_noPanic ?_
            refine wp_region_held_drew (S := fun W => W.cell? ⟨c.jb, 4, none⟩ = some (.slice (some ⟨B, 0, none⟩) Rb.n1 Rb.n1) ∧ W.cell? ⟨Z, 1, none⟩ = some (.int .i32 (q2 : Nat))) (by kernel_rfl) S1 (fun hHeld => ?_)
            refine wpAnyH_take (i := 0) (v := .int .i64 1) rfl (by kernel_rfl) (by kernel_rfl) (by kernel_rfl) (fun _ _ _ h => h) (Or.inl ⟨by rfl, fun W hSw => by obtain ⟨hS1, hS2⟩ := hSw; go_simp⟩) hHeld ?_
            simp only [Act.put, List.setIfInBounds_toArray, List.set_cons_zero, List.set_cons_succ]
            refine wpAnyH_take (i := 1) (v := .pointer (some ⟨c.jb, 3, none⟩)) rfl (by kernel_rfl) (by kernel_rfl) (by kernel_rfl) (fun _ _ _ h => h) (Or.inl ⟨by rfl, fun W hSw => by obtain ⟨hS1, hS2⟩ := hSw; go_simp⟩) hHeld ?_
            simp only [Act.put, List.setIfInBounds_toArray, List.set_cons_zero, List.set_cons_succ]
            refine wpAnyH_take (i := 2) (v := .pointer (some ⟨c.jb, 4, none⟩)) rfl (by kernel_rfl) (by kernel_rfl) (by kernel_rfl) (fun _ _ _ h => h) (Or.inl ⟨by rfl, fun W hSw => by obtain ⟨hS1, hS2⟩ := hSw; go_simp⟩) hHeld ?_
            simp only [Act.put, List.setIfInBounds_toArray, List.set_cons_zero, List.set_cons_succ]
            refine wpAnyH_take (i := 3) (v := .slice (some ⟨B, 0, none⟩) Rb.n1 Rb.n1) rfl (by kernel_rfl) (by kernel_rfl) (by kernel_rfl) (fun _ _ _ h => h) (Or.inl ⟨by rfl, fun W hSw => by obtain ⟨hS1, hS2⟩ := hSw; go_simp⟩) hHeld ?_
            simp only [Act.put, List.setIfInBounds_toArray, List.set_cons_zero, List.set_cons_succ]
            refine wpAnyH_take (i := 4) (v := .int .i64 1) rfl (by kernel_rfl) (by kernel_rfl) (by kernel_rfl) (fun _ _ _ h => h) (Or.inl ⟨by rfl, fun W hSw => by obtain ⟨hS1, hS2⟩ := hSw; go_simp⟩) hHeld ?_
            simp only [Act.put, List.setIfInBounds_toArray, List.set_cons_zero, List.set_cons_succ]
            refine wpAnyH_take (i := 5) (v := .pointer (some ⟨Z, 1, none⟩)) rfl (by kernel_rfl) (by kernel_rfl) (by kernel_rfl) (fun _ _ _ h => h) (Or.inl ⟨by rfl, fun W hSw => by obtain ⟨hS1, hS2⟩ := hSw; go_simp⟩) hHeld ?_
            simp only [Act.put, List.setIfInBounds_toArray, List.set_cons_zero, List.set_cons_succ]
            refine wpAnyH_take (i := 6) (v := .int .i32 (q2 : Nat)) rfl (by kernel_rfl) (by kernel_rfl) (by kernel_rfl) (fun _ _ _ h => h) (Or.inl ⟨by rfl, fun W hSw => by obtain ⟨hS1, hS2⟩ := hSw; go_simp⟩) hHeld ?_
            simp only [Act.put, List.setIfInBounds_toArray, List.set_cons_zero, List.set_cons_succ]
            refine wpAnyH_take (i := 7) (v := .int .i64 1) rfl (by kernel_rfl) (by kernel_rfl) (by kernel_rfl) (fun _ _ _ h => h) (Or.inl ⟨by rfl, fun W hSw => by obtain ⟨hS1, hS2⟩ := hSw; go_simp⟩) hHeld ?_
            simp only [Act.put, List.setIfInBounds_toArray, List.set_cons_zero, List.set_cons_succ]
            refine wpAnyH_take (i := 8) (v := .pointer (some ⟨c.jb, 3, none⟩)) rfl (by kernel_rfl) (by kernel_rfl) (by kernel_rfl) (fun _ _ _ h => h) (Or.inl ⟨by rfl, fun W hSw => by obtain ⟨hS1, hS2⟩ := hSw; go_simp⟩) hHeld ?_
            simp only [Act.put, List.setIfInBounds_toArray, List.set_cons_zero, List.set_cons_succ]
            refine wpAnyH_take (i := 9) (v := .pointer (some ⟨c.jb, 4, none⟩)) rfl (by kernel_rfl) (by kernel_rfl) (by kernel_rfl) (fun _ _ _ h => h) (Or.inl ⟨by rfl, fun W hSw => by obtain ⟨hS1, hS2⟩ := hSw; go_simp⟩) hHeld ?_
            simp only [Act.put, List.setIfInBounds_toArray, List.set_cons_zero, List.set_cons_succ]
            refine wpAnyH_take (i := 10) (v := .slice (some ⟨B, 0, none⟩) Rb.n1 Rb.n1) rfl (by kernel_rfl) (by kernel_rfl) (by kernel_rfl) (fun _ _ _ h => h) (Or.inl ⟨by rfl, fun W hSw => by obtain ⟨hS1, hS2⟩ := hSw; go_simp⟩) hHeld ?_
            simp only [Act.put, List.setIfInBounds_toArray, List.set_cons_zero, List.set_cons_succ]
            refine wpAnyH_take (i := 11) (v := .int .i64 1) rfl (by kernel_rfl) (by kernel_rfl) (by kernel_rfl) (fun _ _ _ h => h) (Or.inl ⟨by rfl, fun W hSw => by obtain ⟨hS1, hS2⟩ := hSw; go_simp⟩) hHeld ?_
            simp only [Act.put, List.setIfInBounds_toArray, List.set_cons_zero, List.set_cons_succ]
            refine wpAnyH_take (i := 12) (v := .pointer (some ⟨Z, 1, none⟩)) rfl (by kernel_rfl) (by kernel_rfl) (by kernel_rfl) (fun _ _ _ h => h) (Or.inl ⟨by rfl, fun W hSw => by obtain ⟨hS1, hS2⟩ := hSw; go_simp⟩) hHeld ?_
            simp only [Act.put, List.setIfInBounds_toArray, List.set_cons_zero, List.set_cons_succ]
            refine wpAnyH_take (i := 13) (v := .int .i32 (q2 : Nat)) rfl (by kernel_rfl) (by kernel_rfl) (by kernel_rfl) (fun _ _ _ h => h) (Or.inl ⟨by rfl, fun W hSw => by obtain ⟨hS1, hS2⟩ := hSw; go_simp⟩) hHeld ?_
            simp only [Act.put, List.setIfInBounds_toArray, List.set_cons_zero, List.set_cons_succ]
            refine wpAnyH_take (i := 14) (v := .pointer (some ⟨B, q2, none⟩)) rfl (by kernel_rfl) (by kernel_rfl) (by kernel_rfl) (fun _ _ _ h => h) (Or.inl ⟨by rfl, fun W hSw => by obtain ⟨hS1, hS2⟩ := hSw; go_simp⟩) hHeld ?_
            simp only [Act.put, List.setIfInBounds_toArray, List.set_cons_zero, List.set_cons_succ]
            refine wpAnyH_take (i := 16) (v := .int .i64 (l : Nat)) rfl (by kernel_rfl) (by kernel_rfl) (by kernel_rfl) (fun _ _ _ h => h) (Or.inl ⟨by rfl, fun W hSw => by obtain ⟨hS1, hS2⟩ := hSw; go_simp⟩) hHeld ?_
            simp only [Act.put, List.setIfInBounds_toArray, List.set_cons_zero, List.set_cons_succ]
            refine wpAnyH_take (i := 17) (v := .int .i32 (l : Nat)) rfl (by kernel_rfl) (by kernel_rfl) (by kernel_rfl) (fun _ _ _ h => h) (Or.inl ⟨by rfl, fun W hSw => by obtain ⟨hS1, hS2⟩ := hSw; go_simp⟩) hHeld ?_
            simp only [Act.put, List.setIfInBounds_toArray, List.set_cons_zero, List.set_cons_succ]
            refine wpAnyH_ready (rs := [15, 18]) (by kernel_rfl) (by simp) ?_
            refine AllReadyH.cons rfl (fun K hK => ?_) (AllReadyH.cons rfl (fun K hK => ?_) AllReadyH.nil)
            · go_simp
              refine hK.out _ _ ?_ (fun hHeld2 => ?_)
              · exact S1
              clear hK K hHeld
              have hHeld := hHeld2
              clear hHeld2
              try simp only [Act.put, List.setIfInBounds_toArray, List.set_cons_zero, List.set_cons_succ]
              refine wpAnyH_ready (rs := [18]) (by kernel_rfl) (by simp) ?_
              refine AllReadyH.cons rfl (fun K hK => ?_) AllReadyH.nil
              go_simp
              refine hK.out _ _ ?_ (fun hHeld2 => ?_)
              · exact S2
              clear hK K hHeld
              have hHeld := hHeld2
              clear hHeld2
              try simp only [Act.put, List.setIfInBounds_toArray, List.set_cons_zero, List.set_cons_succ]
              refine wpAnyH_ready (rs := [19]) (by kernel_rfl) (by simp) ?_
              refine AllReadyH.cons rfl (fun K hK => ?_) AllReadyH.nil
              rw [if_pos (by rfl)]
              refine wp_append _ _ 70 rfl _ _ _ _ rfl rfl hrun ?_
              refine hK.out _ _ ?_ (fun hHeld2 => ?_)
              · exact S5
              clear hK K hHeld
              have hHeld := hHeld2
              clear hHeld2
              try simp only [Act.put, List.setIfInBounds_toArray, List.set_cons_zero, List.set_cons_succ]
              refine wpAnyH_take (i := 20) (v := .pointer (some ⟨B, q2, none⟩)) rfl (by kernel_rfl) (by kernel_rfl) (by kernel_rfl) (fun _ _ _ h => h) (Or.inl ⟨by rfl, fun W hSw => by obtain ⟨hS1, hS2⟩ := hSw; go_simp⟩) hHeld ?_
              simp only [Act.put, List.setIfInBounds_toArray, List.set_cons_zero, List.set_cons_succ]
              refine wpAnyH_ready (rs := [21]) (by kernel_rfl) (by simp) ?_
              refine AllReadyH.cons rfl (fun K hK => ?_) AllReadyH.nil
              go_simp
              refine hK.out _ _ ?_ (fun hHeld2 => ?_)
              · exact S6
              clear hK K hHeld
              have hHeld := hHeld2
              clear hHeld2
              try simp only [Act.put, List.setIfInBounds_toArray, List.set_cons_zero, List.set_cons_succ]
              refine wpAnyH_done (by kernel_rfl) ?_ _
              refine NoPanic.normal ?_
              go_wp2_with fail
              go_roundw
              case rel => exact ⟨l + 1, U', by omega, by simp, HFIN.out⟩
              case measure => simp [intOf]; omega
            · go_simp
              refine hK.out _ _ ?_ (fun hHeld2 => ?_)
              · exact S2
              clear hK K hHeld
              have hHeld := hHeld2
              clear hHeld2
              try simp only [Act.put, List.setIfInBounds_toArray, List.set_cons_zero, List.set_cons_succ]
              refine wpAnyH_ready (rs := [15]) (by kernel_rfl) (by simp) ?_
              refine AllReadyH.cons rfl (fun K hK => ?_) AllReadyH.nil
              go_simp
              refine hK.out _ _ ?_ (fun hHeld2 => ?_)
              · exact S2
              clear hK K hHeld
              have hHeld := hHeld2
              clear hHeld2
              try simp only [Act.put, List.setIfInBounds_toArray, List.set_cons_zero, List.set_cons_succ]
              refine wpAnyH_ready (rs := [19]) (by kernel_rfl) (by simp) ?_
              refine AllReadyH.cons rfl (fun K hK => ?_) AllReadyH.nil
              rw [if_pos (by rfl)]
              refine wp_append _ _ 70 rfl _ _ _ _ rfl rfl hrun ?_
              refine hK.out _ _ ?_ (fun hHeld2 => ?_)
              · exact S5
              clear hK K hHeld
              have hHeld := hHeld2
              clear hHeld2
              try simp only [Act.put, List.setIfInBounds_toArray, List.set_cons_zero, List.set_cons_succ]
              refine wpAnyH_take (i := 20) (v := .pointer (some ⟨B, q2, none⟩)) rfl (by kernel_rfl) (by kernel_rfl) (by kernel_rfl) (fun _ _ _ h => h) (Or.inl ⟨by rfl, fun W hSw => by obtain ⟨hS1, hS2⟩ := hSw; go_simp⟩) hHeld ?_
              simp only [Act.put, List.setIfInBounds_toArray, List.set_cons_zero, List.set_cons_succ]
              refine wpAnyH_ready (rs := [21]) (by kernel_rfl) (by simp) ?_
              refine AllReadyH.cons rfl (fun K hK => ?_) AllReadyH.nil
              go_simp
              refine hK.out _ _ ?_ (fun hHeld2 => ?_)
              · exact S6
              clear hK K hHeld
              have hHeld := hHeld2
              clear hHeld2
              try simp only [Act.put, List.setIfInBounds_toArray, List.set_cons_zero, List.set_cons_succ]
              refine wpAnyH_done (by kernel_rfl) ?_ _
              refine NoPanic.normal ?_
              go_wp2_with fail
              go_roundw
              case rel => exact ⟨l + 1, U', by omega, by simp, HFIN.out⟩
              case measure => simp [intOf]; omega
          · have : l = c.fr.length := by omega
            subst this
            have t1 : ¬ (c.fr.length : Int) < (c.fr.length : Int) := by omega
            have HE := hid (show OfInv w wr c Ra Rb tb 2 from OfInv.two htb hci ho0 m0 ho l3)
            clear hci ho htb
            go_wp2_with fail
            go_roundw
            case rel => exact ⟨2, by omega, rfl, HE.out⟩
            case measure => simp [intOf]
      · obtain ⟨ob0, base0, U0, ob1, base1, U1, hci, ho0, m0, ho1, m1⟩ := hinv.at2
        have HJ := hid (hci.done ho0 ho1 m0 m1)
        clear hci ho0 ho1 hinv
        go_wp2_with fail
        refine HK.out _ _ ?_
        rw [← HQ.out]
        exact HN.out _ _ _ HJ.out rfl rfl rfl _ _ _ _ _ _ _ _ _ _ _ _ _ _ _ _ _ _ _ _ _ _ _ _ _ _ _ _ _ _ _ _ _ _ _ _ _ _ _ _ _ _ _ _ _ _ _ _ _ _ _ _ _ _ _ _ _ _ _ _ _ _ _ _ _ _ _ _ _ _ _ _ _ _ _ _ _ _ _ _ _ _ _ _ _ _ _ _ _ _ _ _ _ _ _ _ _ _ _ _ _ _ _ _ _ _ _ _ _ _ _ _ _ _ _ _ _ _ _ _ _ _ _ _ _ _ _ _ _ _ _ _ _ _ _ _ _ _ _ _ _ _ _ _ _ _ _ _ _ _ _ _ _ _ _ _ _ _ _ _ _ _ _ _ _ _ _ _ _ _ _ _ _ _ _ _ _ _ _ _ _ _ _ _ _ _ _ _ _ _ _ _ _ _ _ _ _ _ _ _ _ _ _ _ _ _ _ _ _ _ _ _ _ _ _ _ _ _ _ _ _ _ _ _ _ _ _ _ _ _ _ _ _ _ _ _ _ _ _ _ _ _ _ _ _ _ _ _ _ _ rfl rfl rfl rfl rfl rfl
end Go.Proofs.Ybulkatiq
