/-
  combine: its end.
-/
import Derived.Test.YbulkatiqMergeC
namespace Go.Proofs.Ybulkatiq
open Go.ChangeShapes Go.WideShapes Go.ChangeAt Go.RowKit Go.Maps Go.WideMaps

/-- The classes put together, first of the rows, then of the columns. -/
def Merged (Rc R : Rel) : Prop := ∃ R1 : Rel, (R1 = Rc ∨ ∃ v kb, R1 = Rc.merged v kb) ∧ (∃ W p, RelAt W p R1) ∧ (R = R1 ∨ ∃ v rows', R = R1.cols v rows' ∧ ∀ k, k < R1.n0 → NewRow R1.colNum.1 R1.colNum.2 (R1.rows.getD k (0, [])) (rows'.getD k (0, [])))

set_option maxRecDepth 100000 in
set_option maxHeartbeats 6400000 in
theorem combF {W : World} {cb : Nat} {Rc : Rel} (h : RelOn W cb Rc) (h0 : 0 < Rc.n0) (h1 : 0 < Rc.n1) (h12 : Rc.n1 ≤ 12) (hnb : Rc.nb ≤ 4096) {B : Nat} (hB1 : B ≤ cb) (hB2 : B ≤ Rc.rb) (hB3 : B ≤ W.heap.size) {RR : Ending → World → Prop} (hRR : ∀ (R : Rel) (w' : World), Below B W w' → Merged Rc R → RelAt w' cb R → 0 < R.n0 → 0 < R.n1 → RR (.returned (.pointer (some ⟨cb, 0, none⟩))) w')
    {u0 u1 u2 u3 u4 u5 u6 u7 u8 u9 u10 u11 u13 u14 u15 u16 u17 u18 u19 u20 u21 u22 u23 u24 u25 u26 u27 u28 u29 u30 u31 u32 u33 u34 u35 u36 u37 u38 u39 u40 u41 u42 u43 u44 u45 u46 u47 u48 u49 u50 u51 u52 u53 u54 u55 u56 u57 u58 u59 u60 u61 u62 u63 u64 u65 u66 u67 u68 u69 u70 u71 u72 u73 u74 u75 u76 u77 u78 u79 u80 u81 u82 u83 u84 u85 u86 u87 u88 u89 u90 u91 u92 u93 u94 u95 u96 u97 u98 u99 u100 u101 u102 u103 u104 u105 u106 u107 u108 u109 u110 u111 u112 u113 u114 u115 u116 u117 u118 u119 u120 u121 u122 u123 u124 u125 u126 u127 u128 u129 u130 u131 u132 u133 u134 u135 u136 u137 u138 u139 u140 u141 u142 u143 u144 u145 u146 u147 u148 u149 u150 u151 u152 u153 u154 u155 u156 u157 u158 u159 u160 u161 u162 u163 u164 u165 u166 u167 u168 u169 u170 u171 u172 u173 u174 u175 u176 u177 u178 u179 u180 u181 u182 u183 u184 u185 u186 u187 u188 u189 u190 u191 u192 u193 u194 u195 u196 u197 u198 u199 u200 u201 u202 u203 u204 u205 u206 u207 u208 u209 u210 u211 u212 u213 u214 u215 u216 u217 u218 u219 u220 u221 u222 u223 u224 u225 u226 u227 u228 u229 u230 u231 u232 u233 u234 u235 u236 u237 u238 u239 u240 u241 u242 u243 u244 u245 u246 u247 u248 u249 : Value} :
    Code.wp Yba.prog (dropC 14 (codeOf Yba.f14)) (bodyPost Yba.prog Yba.f14 RR) ⟨#[u0, u1, u2, u3, u4, u5, u6, u7, u8, u9, u10, u11, .pointer (some ⟨cb, 0, none⟩), u13, u14, u15, u16, u17, u18, u19, u20, u21, u22, u23, u24, u25, u26, u27, u28, u29, u30, u31, u32, u33, u34, u35, u36, u37, u38, u39, u40, u41, u42, u43, u44, u45, u46, u47, u48, u49, u50, u51, u52, u53, u54, u55, u56, u57, u58, u59, u60, u61, u62, u63, u64, u65, u66, u67, u68, u69, u70, u71, u72, u73, u74, u75, u76, u77, u78, u79, u80, u81, u82, u83, u84, u85, u86, u87, u88, u89, u90, u91, u92, u93, u94, u95, u96, u97, u98, u99, u100, u101, u102, u103, u104, u105, u106, u107, u108, u109, u110, u111, u112, u113, u114, u115, u116, u117, u118, u119, u120, u121, u122, u123, u124, u125, u126, u127, u128, u129, u130, u131, u132, u133, u134, u135, u136, u137, u138, u139, u140, u141, u142, u143, u144, u145, u146, u147, u148, u149, u150, u151, u152, u153, u154, u155, u156, u157, u158, u159, u160, u161, u162, u163, u164, u165, u166, u167, u168, u169, u170, u171, u172, u173, u174, u175, u176, u177, u178, u179, u180, u181, u182, u183, u184, u185, u186, u187, u188, u189, u190, u191, u192, u193, u194, u195, u196, u197, u198, u199, u200, u201, u202, u203, u204, u205, u206, u207, u208, u209, u210, u211, u212, u213, u214, u215, u216, u217, u218, u219, u220, u221, u222, u223, u224, u225, u226, u227, u228, u229, u230, u231, u232, u233, u234, u235, u236, u237, u238, u239, u240, u241, u242, u243, u244, u245, u246, u247, u248, u249], []⟩ W := by
  have HR := hid hRR
  have HM := hid (mergeRows26 h h0 hnb)
  have H0 := hid h0
  have H1 := hid h1
  have H12 := hid h12
  have HNB := hid hnb
  clear hRR h h0 h1 h12 hnb
  simp only [dropC, codeOf, Yba.f14, Option.getD_some]
  go_wp2_with fail
  refine HM.out.mono ?_
  rintro e w1 ⟨rfl, R1, hR1, hon1, hfr1⟩
  have HF1 := hid (hfr1 B hB1 hB3)
  have HB2 := hid (show B ≤ R1.rb from by
    rcases hR1 with rfl | ⟨v, kb, hkb, rfl⟩
    · exact hB2
    · exact Nat.le_trans hB3 hkb)
  clear hfr1
  have hp : 0 < R1.n0 ∧ R1.n1 = Rc.n1 ∧ R1.nb = Rc.nb := by
    rcases hR1 with rfl | ⟨v, kb, _, rfl⟩
    · exact ⟨H0.out, rfl, rfl⟩
    · exact ⟨(numberOf_facts _ H0.out).1, rfl, rfl⟩
  have h11 := H1.out
  have h12 := H12.out
  have hnb := HNB.out
  have HM2 := hid (mergeCols27 hon1 (by omega) (by omega) (by omega))
  have HR1 := hid (show R1 = Rc ∨ ∃ v kb, R1 = Rc.merged v kb from by
    rcases hR1 with h | ⟨v, kb, _, h⟩
    · exact .inl h
    · exact .inr ⟨v, kb, h⟩)
  have HA1 := hid (show ∃ W p, RelAt W p R1 from ⟨_, _, hon1.at_⟩)
  have HP := hid hp
  clear hR1 hon1 hp h11 h12 hnb HM
  go_wp2_with fail
  refine HM2.out.mono ?_
  rintro e w2 ⟨rfl, R2, hR2, hon2, hfr2⟩
  have hfr := HF1.out.trans (hfr2 B hB1 HB2.out (Nat.le_trans hB3 HF1.out.size))
  have hp2 : 0 < R2.n0 ∧ 0 < R2.n1 := by
    have := HP.out
    have := H1.out
    rcases hR2 with rfl | ⟨v, rows', rfl, _⟩
    · omega
    · exact ⟨by show 0 < R1.n0; omega, (numberOf_facts _ (show 0 < R1.n1 by omega)).1⟩
  have HE := hid (HR.out R2 w2 hfr ⟨R1, HR1.out, HA1.out, hR2⟩ hon2.at_ hp2.1 hp2.2)
  clear hR2 hon2 hp2 HM2 hfr hfr2
  go_wp2_with fail
  exact HE.out
end Go.Proofs.Ybulkatiq
