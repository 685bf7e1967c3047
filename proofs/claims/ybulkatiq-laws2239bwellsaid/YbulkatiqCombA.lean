/-
  combine: the classes of the first side are joined; its variables.
-/
import Derived.Test.YbulkatiqCombB
namespace Go.Proofs.Ybulkatiq
open Go.ChangeShapes Go.WideShapes Go.ChangeAt Go.RowKit Go.Maps Go.WideMaps

theorem SB.joined0 {w W W' : World} {jb cb g : Nat} {mv0 rv av0 : Value} {frR : List (Nat × Nat)} {jr : ByteArray → Nat} {Ra Rb : Rel} (hbel : Below w.heap.size w W) (hj : W.heap[jb]? = some (.cells (j0 g (.slice none 0 0) (.map none)) 72 (0, 0))) (hc : W.heap[cb]? = some (.cells #[.map none, .int .i32 0, .map none, .int .i32 0, .slice none 0 0, .map none] 50 (0, 0))) (f1 : w.heap.size ≤ jb) (f2 : w.heap.size ≤ cb) (hb : Below W.heap.size W W') (hs : SideJ W' mv0 rv av0 Ra.n0 Rb.n0 Ra.of0 Rb.of0 frR jr) :
    SB w ((W'.setCell ⟨cb, 0, none⟩ mv0).setCell ⟨cb, 1, none⟩ (.int .i32 (frR.length : Nat))) jb cb g mv0 rv av0 frR jr Ra Rb := by
  have hjc := ne_cc hj hc (by decide)
  have b0 := hbel.trans (hb.mono hbel.size)
  have j := (hb.block _ (lt_of_block hj)).trans hj
  have c := (hb.block _ (lt_of_block hc)).trans hc
  have c1 := heap_setCell_same W' cb 0 _ 50 mv0 c
  have k1 : KM W' _ := KM.set (o := 0) (v := mv0) c (by decide) (by decide)
  have j1 := heap_setCell_ne (b := cb) (o := 0) (v := mv0) j hjc
  have c2 := heap_setCell_same _ cb 1 _ 50 (.int .i32 (frR.length : Nat)) c1
  have k2 := k1.trans (KM.set (o := 1) (v := .int .i32 (frR.length : Nat)) c1 (by decide) (by decide))
  have j2 := heap_setCell_ne (b := cb) (o := 1) (v := .int .i32 (frR.length : Nat)) j1 hjc
  exact ⟨bset (bset b0 f2) f2, j2, c2, hs.km k2, f1, f2⟩

set_option maxRecDepth 100000 in
set_option maxHeartbeats 12800000 in
theorem combA2 {w W : World} {pa pb jb cb g : Nat} {both : Bool} {Ra Rb : Rel} (hbel : Below w.heap.size w W) (hj : W.heap[jb]? = some (.cells (j0 g (.slice none 0 0) (.map none)) 72 (0, 0))) (hc : W.heap[cb]? = some (.cells #[.map none, .int .i32 0, .map none, .int .i32 0, .slice none 0 0, .map none] 50 (0, 0))) (f1 : w.heap.size ≤ jb) (f2 : w.heap.size ≤ cb) (ha : RelAt w pa Ra) (hB : RelAt w pb Rb) (hna : Ra.n1 ≤ 4) (hnb : Rb.n1 ≤ 4) (hnx : 1 ≤ Ra.n1 ∧ 1 ≤ Rb.n1) (hca : Ra.nb ≤ 4) (hcb : Rb.nb ≤ 4) (hna0 : Ra.n0 ≤ 4) (hnb0 : Rb.n0 ≤ 4) (hnx0 : 1 ≤ Ra.n0 ∧ 1 ≤ Rb.n0)
    {RR : Ending → World → Prop} {u3 u4 u5 u6 u7 u8 u9 u10 u14 u15 u16 u17 u18 u19 u20 u21 u22 u23 u24 u25 u26 u27 u28 u29 u30 u31 u32 u33 u34 u35 u36 u37 u38 u39 u40 u41 u42 u43 u44 u45 u46 u47 u48 u49 u50 u51 u52 u53 u54 u55 u56 u57 u58 u59 u60 u61 u62 u63 u64 u65 u66 u67 u68 u69 u70 u71 u72 u73 u74 u75 u76 u77 u78 u79 u80 u81 u82 u83 u84 u85 u86 u87 u88 u89 u90 u91 u92 u93 u94 u95 u96 u97 u98 u99 u100 u101 u102 u103 u104 u105 u106 u107 u108 u109 u110 u111 u112 u113 u114 u115 u116 u117 u118 u119 u120 u121 u122 u123 u124 u125 u126 u127 u128 u129 u130 u131 u132 u133 u134 u135 u136 u137 u138 u139 u140 u141 u142 u143 u144 u145 u146 u147 u148 u149 u150 u151 u152 u153 u154 u155 u156 u157 u158 u159 u160 u161 u162 u163 u164 u165 u166 u167 u168 u169 u170 u171 u172 u173 u174 u175 u176 u177 u178 u179 u180 u181 u182 u183 u184 u185 u186 u187 u188 u189 u190 u191 u192 u193 u194 u195 u196 u197 u198 u199 u200 u201 u202 u203 u204 u205 u206 u207 u208 u209 u210 u211 u212 u213 u214 u215 u216 u217 u218 u219 u220 u221 u222 u223 u224 u225 u226 u227 u228 u229 u230 u231 u232 u233 u234 u235 u236 u237 u238 u239 u240 u241 u242 u243 u244 u245 u246 u247 u248 u249 : Value} (hNext : NextD w pa pb jb cb g both Ra Rb RR) :
    Code.wp Yba.prog (dropC 6 (codeOf Yba.f14)) (bodyPost Yba.prog Yba.f14 RR) ⟨#[.pointer (some ⟨pa, 0, none⟩), .pointer (some ⟨pb, 0, none⟩), .bool both, u3, u4, u5, u6, u7, u8, u9, u10, .pointer (some ⟨jb, 0, none⟩), .pointer (some ⟨cb, 0, none⟩), .slice none 0 0, u14, u15, u16, u17, u18, u19, u20, u21, u22, u23, u24, u25, u26, u27, u28, u29, u30, u31, u32, u33, u34, u35, u36, u37, u38, u39, u40, u41, u42, u43, u44, u45, u46, u47, u48, u49, u50, u51, u52, u53, u54, u55, u56, u57, u58, u59, u60, u61, u62, u63, u64, u65, u66, u67, u68, u69, u70, u71, u72, u73, u74, u75, u76, u77, u78, u79, u80, u81, u82, u83, u84, u85, u86, u87, u88, u89, u90, u91, u92, u93, u94, u95, u96, u97, u98, u99, u100, u101, u102, u103, u104, u105, u106, u107, u108, u109, u110, u111, u112, u113, u114, u115, u116, u117, u118, u119, u120, u121, u122, u123, u124, u125, u126, u127, u128, u129, u130, u131, u132, u133, u134, u135, u136, u137, u138, u139, u140, u141, u142, u143, u144, u145, u146, u147, u148, u149, u150, u151, u152, u153, u154, u155, u156, u157, u158, u159, u160, u161, u162, u163, u164, u165, u166, u167, u168, u169, u170, u171, u172, u173, u174, u175, u176, u177, u178, u179, u180, u181, u182, u183, u184, u185, u186, u187, u188, u189, u190, u191, u192, u193, u194, u195, u196, u197, u198, u199, u200, u201, u202, u203, u204, u205, u206, u207, u208, u209, u210, u211, u212, u213, u214, u215, u216, u217, u218, u219, u220, u221, u222, u223, u224, u225, u226, u227, u228, u229, u230, u231, u232, u233, u234, u235, u236, u237, u238, u239, u240, u241, u242, u243, u244, u245, u246, u247, u248, u249], []⟩ W := by
  obtain ⟨o1, hm1⟩ := ha.s0.isMap
  obtain ⟨o2, hm2⟩ := hB.s0.isMap
  have HN := hid hNext
  have HRA := hid ha
  have HRB := hid hB
  have KP := hid (fun (W' : World) (hb : Below w.heap.size w W') => (⟨(ha.below hb).c0.trans (by rw [hm1]), (ha.below hb).c1, (hB.below hb).c0.trans (by rw [hm2]), (hB.below hb).c1⟩ : W'.cell? ⟨pa, 0, none⟩ = some (.map o1) ∧ W'.cell? ⟨pa, 1, none⟩ = some (.int .i32 (Ra.n0 : Nat)) ∧ W'.cell? ⟨pb, 0, none⟩ = some (.map o2) ∧ W'.cell? ⟨pb, 1, none⟩ = some (.int .i32 (Rb.n0 : Nat))))
  have HJ := hid (fun (W' : World) (hb : Below w.heap.size w W') => joinClasses24 (B := 4) ((hm1 ▸ (ha.below hb).s0).mono hca) ((hm2 ▸ (hB.below hb).s0).mono hcb) (Nat.le_refl _) hnx0.1 hna0 hnx0.2 hnb0)
  have KQ := hid (fun (W' : World) (hb : Below W.heap.size W W') => by
    have c := (hb.block _ (lt_of_block hc)).trans hc
    exact (⟨by simp [World.cell?, c], by simp [World.cell?, c], fun k => by simp [World.frozen?, c]⟩ : W'.cell? ⟨cb, 0, none⟩ = some (.map none) ∧ W'.cell? ⟨cb, 1, none⟩ = some (.int .i32 0) ∧ (∀ k, W'.frozen? ⟨cb, k, none⟩ = false)))
  have HSB := hid (fun (W' : World) (mv0 rv av0 : Value) (frR : List (Nat × Nat)) (jr : ByteArray → Nat) (hb : Below W.heap.size W W') (hs : SideJ W' mv0 rv av0 Ra.n0 Rb.n0 Ra.of0 Rb.of0 frR jr) => SB.joined0 (jb := jb) (cb := cb) (g := g) hbel hj hc f1 f2 hb hs)
  have hbw : Below W.heap.size W W.drew := (Below.refl _ _).drew
  have hb0 : Below w.heap.size w W.drew := hbel.drew
  clear hNext hbel hj hc ha hB hm1 hm2
  generalize hQ : bodyPost Yba.prog Yba.f14 RR = Q
  have HQ := hid hQ
  clear hQ
  simp only [dropC, codeOf, Yba.f14, Option.getD_some]
  refine wp_seq_k (fun K hK => ?_)
  have HK := hid hK
  clear hK
  go_region_held3 (fun W' => W'.cell? ⟨pa, 0, none⟩ = some (.map o1) ∧ W'.cell? ⟨pa, 1, none⟩ = some (.int .i32 (Ra.n0 : Nat)) ∧ W'.cell? ⟨pb, 0, none⟩ = some (.map o2) ∧ W'.cell? ⟨pb, 1, none⟩ = some (.int .i32 (Rb.n0 : Nat)))
    (first | exact KP.out _ hb0 | exact KP.out _ (by assumption) | exact KP.out _ (bset (bset (by assumption) (by assumption)) (by assumption)))
    ((go_at_call 24; refine (HJ.out _ hb0).mono ?_; intro e w4 hp; obtain ⟨mv0, rv, av0, frR, jr, rfl, hs4, hb4⟩ := hp.side; have hbn : Below w.heap.size w w4 := hb0.trans (below_le hb4 hb0.size); have hb5 : Below W.heap.size W w4 := hbw.trans (below_le hb4 hbw.size); obtain ⟨o3, e3⟩ := hs4.cls.isMap; obtain ⟨o4, e4⟩ := hs4.atm.isMap; obtain ⟨b5, cap5, cur5, e5, _, _⟩ := hs4.prs; subst e3 e4; rw [e5] at hs4 ⊢; obtain ⟨y2, y3, yf⟩ := KQ.out w4 hb5; dsimp only))
  all_goals have HC := hid (HSB.out _ _ _ _ _ _ hb5 hs4)
  all_goals clear hs4
  all_goals go_wp2_with fail
  all_goals refine HK.out _ _ ?_
  all_goals rw [← HQ.out]
  all_goals exact combB1 HC.out HRA.out HRB.out hna hnb hnx hca hcb HN.out

set_option maxRecDepth 100000 in
set_option maxHeartbeats 12800000 in
theorem combA1 {w W : World} {pa pb jb g : Nat} {both : Bool} {Ra Rb : Rel} (hbel : Below w.heap.size w W) (hj : W.heap[jb]? = some (.cells (j0 g (.slice none 0 0) (.map none)) 72 (0, 0))) (f1 : w.heap.size ≤ jb) (ha : RelAt w pa Ra) (hB : RelAt w pb Rb) (hna : Ra.n1 ≤ 4) (hnb : Rb.n1 ≤ 4) (hnx : 1 ≤ Ra.n1 ∧ 1 ≤ Rb.n1) (hca : Ra.nb ≤ 4) (hcb : Rb.nb ≤ 4) (hna0 : Ra.n0 ≤ 4) (hnb0 : Rb.n0 ≤ 4) (hnx0 : 1 ≤ Ra.n0 ∧ 1 ≤ Rb.n0)
    {RR : Ending → World → Prop} {u3 u4 u5 u6 u7 u8 u9 u10 u12 u13 u14 u15 u16 u17 u18 u19 u20 u21 u22 u23 u24 u25 u26 u27 u28 u29 u30 u31 u32 u33 u34 u35 u36 u37 u38 u39 u40 u41 u42 u43 u44 u45 u46 u47 u48 u49 u50 u51 u52 u53 u54 u55 u56 u57 u58 u59 u60 u61 u62 u63 u64 u65 u66 u67 u68 u69 u70 u71 u72 u73 u74 u75 u76 u77 u78 u79 u80 u81 u82 u83 u84 u85 u86 u87 u88 u89 u90 u91 u92 u93 u94 u95 u96 u97 u98 u99 u100 u101 u102 u103 u104 u105 u106 u107 u108 u109 u110 u111 u112 u113 u114 u115 u116 u117 u118 u119 u120 u121 u122 u123 u124 u125 u126 u127 u128 u129 u130 u131 u132 u133 u134 u135 u136 u137 u138 u139 u140 u141 u142 u143 u144 u145 u146 u147 u148 u149 u150 u151 u152 u153 u154 u155 u156 u157 u158 u159 u160 u161 u162 u163 u164 u165 u166 u167 u168 u169 u170 u171 u172 u173 u174 u175 u176 u177 u178 u179 u180 u181 u182 u183 u184 u185 u186 u187 u188 u189 u190 u191 u192 u193 u194 u195 u196 u197 u198 u199 u200 u201 u202 u203 u204 u205 u206 u207 u208 u209 u210 u211 u212 u213 u214 u215 u216 u217 u218 u219 u220 u221 u222 u223 u224 u225 u226 u227 u228 u229 u230 u231 u232 u233 u234 u235 u236 u237 u238 u239 u240 u241 u242 u243 u244 u245 u246 u247 u248 u249 : Value} (hNext : ∀ cb, NextD w pa pb jb cb g both Ra Rb RR) :
    Code.wp Yba.prog (dropC 4 (codeOf Yba.f14)) (bodyPost Yba.prog Yba.f14 RR) ⟨#[.pointer (some ⟨pa, 0, none⟩), .pointer (some ⟨pb, 0, none⟩), .bool both, u3, u4, u5, u6, u7, u8, u9, u10, .pointer (some ⟨jb, 0, none⟩), u12, u13, u14, u15, u16, u17, u18, u19, u20, u21, u22, u23, u24, u25, u26, u27, u28, u29, u30, u31, u32, u33, u34, u35, u36, u37, u38, u39, u40, u41, u42, u43, u44, u45, u46, u47, u48, u49, u50, u51, u52, u53, u54, u55, u56, u57, u58, u59, u60, u61, u62, u63, u64, u65, u66, u67, u68, u69, u70, u71, u72, u73, u74, u75, u76, u77, u78, u79, u80, u81, u82, u83, u84, u85, u86, u87, u88, u89, u90, u91, u92, u93, u94, u95, u96, u97, u98, u99, u100, u101, u102, u103, u104, u105, u106, u107, u108, u109, u110, u111, u112, u113, u114, u115, u116, u117, u118, u119, u120, u121, u122, u123, u124, u125, u126, u127, u128, u129, u130, u131, u132, u133, u134, u135, u136, u137, u138, u139, u140, u141, u142, u143, u144, u145, u146, u147, u148, u149, u150, u151, u152, u153, u154, u155, u156, u157, u158, u159, u160, u161, u162, u163, u164, u165, u166, u167, u168, u169, u170, u171, u172, u173, u174, u175, u176, u177, u178, u179, u180, u181, u182, u183, u184, u185, u186, u187, u188, u189, u190, u191, u192, u193, u194, u195, u196, u197, u198, u199, u200, u201, u202, u203, u204, u205, u206, u207, u208, u209, u210, u211, u212, u213, u214, u215, u216, u217, u218, u219, u220, u221, u222, u223, u224, u225, u226, u227, u228, u229, u230, u231, u232, u233, u234, u235, u236, u237, u238, u239, u240, u241, u242, u243, u244, u245, u246, u247, u248, u249], []⟩ W := by
  have hb1 : Below W.heap.size W (W.alloc (.cells #[.map none, .int .i32 0, .map none, .int .i32 0, .slice none 0 0, .map none] 50)) := below_al (Below.refl _ _) _
  have HA := hid (⟨hbel.trans (hb1.mono hbel.size), (hb1.block _ (lt_of_block hj)).trans hj, heap_new W (.cells #[.map none, .int .i32 0, .map none, .int .i32 0, .slice none 0 0, .map none] 50), hbel.size⟩ : Below w.heap.size w (W.alloc (.cells #[.map none, .int .i32 0, .map none, .int .i32 0, .slice none 0 0, .map none] 50)) ∧ (W.alloc (.cells #[.map none, .int .i32 0, .map none, .int .i32 0, .slice none 0 0, .map none] 50)).heap[jb]? = some (.cells (j0 g (.slice none 0 0) (.map none)) 72 (0, 0)) ∧ (W.alloc (.cells #[.map none, .int .i32 0, .map none, .int .i32 0, .slice none 0 0, .map none] 50)).heap[W.heap.size]? = some (.cells #[.map none, .int .i32 0, .map none, .int .i32 0, .slice none 0 0, .map none] 50 (0, 0)) ∧ w.heap.size ≤ W.heap.size)
  have HN := hid hNext
  have HRA := hid ha
  have HRB := hid hB
  clear hNext hbel hj ha hB hb1
  generalize hQ : bodyPost Yba.prog Yba.f14 RR = Q
  have HQ := hid hQ
  clear hQ
  simp only [dropC, codeOf, Yba.f14, Option.getD_some]
  refine wp_seq_k (fun K hK => ?_)
  have HK := hid hK
  clear hK
  go_wp2_with fail
  refine HK.out _ _ ?_
  refine wp_seq_k (fun K2 hK2 => ?_)
  clear HK
  have HK := hid hK2
  clear hK2
  go_wp2_with fail
  refine HK.out _ _ ?_
  rw [← HQ.out]
  obtain ⟨e1, e2, e3, e4⟩ := HA.out
  exact combA2 e1 e2 e3 f1 e4 HRA.out HRB.out hna hnb hnx hca hcb hna0 hnb0 hnx0 (HN.out _)

set_option maxRecDepth 100000 in
set_option maxHeartbeats 12800000 in
theorem combH {w W : World} {pa pb : Nat} {both : Bool} {Ra Rb : Rel} (hbel : Below w.heap.size w W) (ha : RelAt w pa Ra) (hB : RelAt w pb Rb) (hna : Ra.n1 ≤ 4) (hnb : Rb.n1 ≤ 4) (hnx : 1 ≤ Ra.n1 ∧ 1 ≤ Rb.n1) (hca : Ra.nb ≤ 4) (hcb : Rb.nb ≤ 4) (hna0 : Ra.n0 ≤ 4) (hnb0 : Rb.n0 ≤ 4) (hnx0 : 1 ≤ Ra.n0 ∧ 1 ≤ Rb.n0)
    {RR : Ending → World → Prop} {u3 u4 u5 u6 u7 u8 u9 u10 u11 u12 u13 u14 u15 u16 u17 u18 u19 u20 u21 u22 u23 u24 u25 u26 u27 u28 u29 u30 u31 u32 u33 u34 u35 u36 u37 u38 u39 u40 u41 u42 u43 u44 u45 u46 u47 u48 u49 u50 u51 u52 u53 u54 u55 u56 u57 u58 u59 u60 u61 u62 u63 u64 u65 u66 u67 u68 u69 u70 u71 u72 u73 u74 u75 u76 u77 u78 u79 u80 u81 u82 u83 u84 u85 u86 u87 u88 u89 u90 u91 u92 u93 u94 u95 u96 u97 u98 u99 u100 u101 u102 u103 u104 u105 u106 u107 u108 u109 u110 u111 u112 u113 u114 u115 u116 u117 u118 u119 u120 u121 u122 u123 u124 u125 u126 u127 u128 u129 u130 u131 u132 u133 u134 u135 u136 u137 u138 u139 u140 u141 u142 u143 u144 u145 u146 u147 u148 u149 u150 u151 u152 u153 u154 u155 u156 u157 u158 u159 u160 u161 u162 u163 u164 u165 u166 u167 u168 u169 u170 u171 u172 u173 u174 u175 u176 u177 u178 u179 u180 u181 u182 u183 u184 u185 u186 u187 u188 u189 u190 u191 u192 u193 u194 u195 u196 u197 u198 u199 u200 u201 u202 u203 u204 u205 u206 u207 u208 u209 u210 u211 u212 u213 u214 u215 u216 u217 u218 u219 u220 u221 u222 u223 u224 u225 u226 u227 u228 u229 u230 u231 u232 u233 u234 u235 u236 u237 u238 u239 u240 u241 u242 u243 u244 u245 u246 u247 u248 u249 : Value} (hNext : ∀ jb cb, NextD w pa pb jb cb (if both then 22 else 23) both Ra Rb RR) :
    Code.wp Yba.prog (dropC 2 (codeOf Yba.f14)) (bodyPost Yba.prog Yba.f14 RR) ⟨#[.pointer (some ⟨pa, 0, none⟩), .pointer (some ⟨pb, 0, none⟩), .bool both, u3, u4, u5, u6, u7, u8, u9, u10, u11, u12, u13, u14, u15, u16, u17, u18, u19, u20, u21, u22, u23, u24, u25, u26, u27, u28, u29, u30, u31, u32, u33, u34, u35, u36, u37, u38, u39, u40, u41, u42, u43, u44, u45, u46, u47, u48, u49, u50, u51, u52, u53, u54, u55, u56, u57, u58, u59, u60, u61, u62, u63, u64, u65, u66, u67, u68, u69, u70, u71, u72, u73, u74, u75, u76, u77, u78, u79, u80, u81, u82, u83, u84, u85, u86, u87, u88, u89, u90, u91, u92, u93, u94, u95, u96, u97, u98, u99, u100, u101, u102, u103, u104, u105, u106, u107, u108, u109, u110, u111, u112, u113, u114, u115, u116, u117, u118, u119, u120, u121, u122, u123, u124, u125, u126, u127, u128, u129, u130, u131, u132, u133, u134, u135, u136, u137, u138, u139, u140, u141, u142, u143, u144, u145, u146, u147, u148, u149, u150, u151, u152, u153, u154, u155, u156, u157, u158, u159, u160, u161, u162, u163, u164, u165, u166, u167, u168, u169, u170, u171, u172, u173, u174, u175, u176, u177, u178, u179, u180, u181, u182, u183, u184, u185, u186, u187, u188, u189, u190, u191, u192, u193, u194, u195, u196, u197, u198, u199, u200, u201, u202, u203, u204, u205, u206, u207, u208, u209, u210, u211, u212, u213, u214, u215, u216, u217, u218, u219, u220, u221, u222, u223, u224, u225, u226, u227, u228, u229, u230, u231, u232, u233, u234, u235, u236, u237, u238, u239, u240, u241, u242, u243, u244, u245, u246, u247, u248, u249], []⟩ W := by
  obtain ⟨W1, hW1⟩ : ∃ W1, W1 = W.alloc (.cells (j0 22 (.slice none 0 0) (.map none)) 72) := ⟨_, rfl⟩
  have hb1 : Below W.heap.size W W1 := by rw [hW1]; exact below_al (Below.refl _ _) _
  have hj1 : W1.heap[W.heap.size]? = some (.cells (j0 22 (.slice none 0 0) (.map none)) 72 (0, 0)) := by rw [hW1]; exact heap_new W _
  have HW1 := hid hW1
  have q0 : W1.cell? ⟨W.heap.size, 0, none⟩ = some (.func (.func 22) #[] #[]) := by simp [World.cell?, hj1, j0]
  have qf : ∀ j, W1.frozen? ⟨W.heap.size, j, none⟩ = false := fun j => by simp [World.frozen?, hj1]
  have HB1 := hid (hbel.trans (hb1.mono hbel.size))
  have HJ1 := hid hj1
  have hsz := hbel.size
  have HN := hid hNext
  have HRA := hid ha
  have HRB := hid hB
  have HWX := hid (show W.alloc (.cells #[.func (.func 22) #[] #[], .slice none 0 0, .map none, .slice none 0 0, .slice none 0 0, .int .i32 0, .slice none 0 0, .int .i32 0] 72) = W1 from by rw [hW1]; rfl)
  have hst22 : ∀ (a : Addr) (w : World), (store a (.func (.func 22) #[] #[])).run Yba.prog w = stored Yba.prog w a (.func (.func 22) #[] #[]) .plain := fun a w => run_store Yba.prog w a _ _ rfl
  have hst23 : ∀ (a : Addr) (w : World), (store a (.func (.func 23) #[] #[])).run Yba.prog w = stored Yba.prog w a (.func (.func 23) #[] #[]) .plain := fun a w => run_store Yba.prog w a _ _ rfl
  clear hNext hbel ha hB hb1 hj1 hW1
  generalize hQ : bodyPost Yba.prog Yba.f14 RR = Q
  have HQ := hid hQ
  clear hQ
  simp only [dropC, codeOf, Yba.f14, Option.getD_some]
  refine wp_seq_k (fun K hK => ?_)
  have HK := hid hK
  clear hK
  go_wp2_with fail
  refine HK.out _ _ ?_
  refine wp_seq_k (fun K2 hK2 => ?_)
  clear HK
  have HK := hid hK2
  clear hK2
  rw [HWX.out]
  cases both
  · go_wp2_with fail
    refine HK.out _ _ ?_
    rw [← HQ.out]
    exact combA1 (bset HB1.out hsz) (heap_setCell_same W1 W.heap.size 0 _ 72 (.func (.func 23) #[] #[]) HJ1.out) hsz HRA.out HRB.out hna hnb hnx hca hcb hna0 hnb0 hnx0 (HN.out _)
  · go_wp2_with fail
    refine HK.out _ _ ?_
    rw [← HQ.out]
    exact combA1 HB1.out HJ1.out hsz HRA.out HRB.out hna hnb hnx hca hcb hna0 hnb0 hnx0 (HN.out _)
end Go.Proofs.Ybulkatiq
