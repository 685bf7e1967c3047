/-
  The law's walk: the stages of its body: what the comparisons stand on, and the model.
-/
import Derived.Test.YbulkatmkFmtStageE
namespace Go.Proofs.YbulkatmkFmt
open Go.ChangeShapes Go.WideShapes Go.ChangeAt Go.RowKit Go.Extern.Stop Go.Stop

theorem Cmp.below {W W' : World} {B n : Nat} {ao : Option Addr} {cv R : Nat} {q : Nat → Nat} {xs ys : List Iss} (h : Cmp W B n ao cv R q xs ys) (hb : Below W.heap.size W W') : Cmp W' B n ao cv R q xs ys :=
  ⟨h.len, h.small, h.leny, by rw [hb.cell (block_lt_of_cell h.led)]; exact h.led, h.addr, fun i hi => by rw [hb.cell (block_lt_of_cell (h.ptr i hi))]; exact h.ptr i hi, fun j y hy => (h.iss j y hy).below hb,
    fun j x hx => by rw [hb.cell (block_lt_of_cell (h.b0 j x hx))]; exact h.b0 j x hx, fun j x hx => by rw [hb.cell (block_lt_of_cell (h.b1 j x hx))]; exact h.b1 j x hx,
    fun j x hx => by rw [hb.cell (block_lt_of_cell (h.b2 j x hx))]; exact h.b2 j x hx, fun j x hx => by rw [hb.cell (block_lt_of_cell (h.b3 j x hx))]; exact h.b3 j x hx,
    fun j x hx => by rw [hb.cell (block_lt_of_cell (h.b4 j x hx))]; exact h.b4 j x hx⟩

/-- What the comparisons stand on. -/
def ReadyFor (w0 W : World) (B n gp : Nat) (er : Value) (v : Ver) (xs : List Iss) : Prop :=
  ∃ ao cv R q ys ea, Below w0.heap.size w0 W ∧ Cmp W B n ao cv R q xs ys ∧ W.cell? ⟨0, 0, none⟩ = some (.iface 104 (.pointer (some ea))) ∧
    ((v.ok = true ∧ er = .nilIface ∧ IssAt W gp v.want ∧ ys = xs.set v.i v.want ∧ v.i < n) ∨
     (v.ok = false ∧ ys = xs ∧ IssAt W gp zeroIss ∧ ∃ te pe, er = .iface te (.pointer pe) ∧ ∀ W', Below W.heap.size W W' → Calls Ybaf.prog 8 #[er, .iface 104 (.pointer (some ea))] W' fun e w' => e = .returned (.bool v.noPR) ∧ W' = w'))

theorem ReadyFor.below {w0 W W' : World} {B n gp : Nat} {er : Value} {v : Ver} {xs : List Iss} (h : ReadyFor w0 W B n gp er v xs) (hb : Below W.heap.size W W') : ReadyFor w0 W' B n gp er v xs := by
  obtain ⟨ao, cv, R, q, ys, ea, h1, h2, h3, h4⟩ := h
  refine ⟨ao, cv, R, q, ys, ea, h1.trans (below_le hb h1.size), h2.below hb, by rw [hb.cell (block_lt_of_cell h3)]; exact h3, ?_⟩
  rcases h4 with ⟨a, b, c, d, e⟩ | ⟨a, b, c, te, pe, d, e⟩
  · exact .inl ⟨a, b, c.below hb, d, e⟩
  · exact .inr ⟨a, b, c.below hb, te, pe, d, fun W2 h2 => e W2 (hb.trans (below_le h2 hb.size))⟩

theorem stageE (w0 W : World) (B n gp wp : Nat) (er : Value) (v : Ver) (xs : List Iss) (iv : Int) {u0 u1 u2 u3 u4 u5 u6 u7 u8 u9 u10 u11 u12 u15 u16 u17 u19 u23 u27 u28 u29 u30 u31 u32 u33 u34 u35 u36 u37 u38 u39 u40 u41 u42 u43 u44 u45 u46 u47 u48 u49 u50 u51 u52 u53 u54 u55 u56 u57 u58 u59 u60 u61 u62 u63 u64 u65 u66 u67 u68 u69 u70 u71 u72 u73 u74 u75 u76 u77 u78 u79 u80 u81 u82 u83 u84 u85 u86 u87 u88 u89 u90 u91 u92 u93 u94 u95 u96 u97 u98 u99 u100 u101 u102 u103 u104 u105 u106 u107 u108 u109 u110 u111 u112 u113 u114 u115 u116 u117 u118 u119 u120 u121 u122 u123 u124 u125 u126 u127 u128 u129 u130 u131 u132 u133 u134 u135 u136 u137 u138 u139 u140 u141 u142 u143 u144 u145 u146 u147 u148 u149 u150 u151 u152 u153 u154 u155 u156 u157 u158 u159 u160 u161 u162 u163 u164 u165 u166 u167 u168 u169 u170 u171 u172 u173 u174 u175 u176 u177 u178 u179 u180 u181 u182 u183 u184 u185 u186 u187 u188 u189 u190 u191 u192 u193 u194 u195 u196 u197 u198 u199 u200 u201 u202 u203 u204 u205 u206 u207 u208 u209 u210 u211 u212 u213 u214 u215 u216 u217 u218 u219 u220 u221 u222 u223 u224 u225 u226 u227 u228 u229 u230 u231 u232 u233 u234 u235 u236 u237 u238 u239 u240 u241 u242 u243 u244 u245 u246 u247 u248 u249 u250 u251 u252 u253 u254 u255 u256 u257 u258 u259 u260 u261 u262 u263 u264 u265 u266 u267 u268 u269 u270 u271 u272 u273 u274 u275 u276 u277 u278 u279 u280 u281 u282 u283 u284 u285 u286 u287 u288 u289 u290 u291 u292 u293 u294 u295 u296 u297 u298 u299 u300 u301 u302 u303 u304 u305 u306 u307 u308 u309 u310 u311 u312 u313 u314 u315 u316 u317 u318 u319 : Value}
    (h : ReadyFor w0 W B n gp er v xs) (hiv : v.ok = true → iv = v.i) (hw : v.ok = true → IssAt W wp v.want) :
    Code.wp Ybaf.prog (dropC 16 (codeOf Ybaf.f3)) (bodyPost Ybaf.prog Ybaf.f3 (LawPost w0)) ⟨#[u0, u1, u2, u3, u4, u5, u6, u7, u8, u9, u10, u11, u12, .pointer (some ⟨B, 0, none⟩), .slice (some ⟨B + 1, 0, none⟩) n n, u15, u16, u17, .int .i64 n, u19, .pointer (some ⟨gp, 0, none⟩), er, .int .i64 iv, u23, .bool v.ok, .bool v.noPR, .pointer (some ⟨wp, 0, none⟩), u27, u28, u29, u30, u31, u32, u33, u34, u35, u36, u37, u38, u39, u40, u41, u42, u43, u44, u45, u46, u47, u48, u49, u50, u51, u52, u53, u54, u55, u56, u57, u58, u59, u60, u61, u62, u63, u64, u65, u66, u67, u68, u69, u70, u71, u72, u73, u74, u75, u76, u77, u78, u79, u80, u81, u82, u83, u84, u85, u86, u87, u88, u89, u90, u91, u92, u93, u94, u95, u96, u97, u98, u99, u100, u101, u102, u103, u104, u105, u106, u107, u108, u109, u110, u111, u112, u113, u114, u115, u116, u117, u118, u119, u120, u121, u122, u123, u124, u125, u126, u127, u128, u129, u130, u131, u132, u133, u134, u135, u136, u137, u138, u139, u140, u141, u142, u143, u144, u145, u146, u147, u148, u149, u150, u151, u152, u153, u154, u155, u156, u157, u158, u159, u160, u161, u162, u163, u164, u165, u166, u167, u168, u169, u170, u171, u172, u173, u174, u175, u176, u177, u178, u179, u180, u181, u182, u183, u184, u185, u186, u187, u188, u189, u190, u191, u192, u193, u194, u195, u196, u197, u198, u199, u200, u201, u202, u203, u204, u205, u206, u207, u208, u209, u210, u211, u212, u213, u214, u215, u216, u217, u218, u219, u220, u221, u222, u223, u224, u225, u226, u227, u228, u229, u230, u231, u232, u233, u234, u235, u236, u237, u238, u239, u240, u241, u242, u243, u244, u245, u246, u247, u248, u249, u250, u251, u252, u253, u254, u255, u256, u257, u258, u259, u260, u261, u262, u263, u264, u265, u266, u267, u268, u269, u270, u271, u272, u273, u274, u275, u276, u277, u278, u279, u280, u281, u282, u283, u284, u285, u286, u287, u288, u289, u290, u291, u292, u293, u294, u295, u296, u297, u298, u299, u300, u301, u302, u303, u304, u305, u306, u307, u308, u309, u310, u311, u312, u313, u314, u315, u316, u317, u318, u319], []⟩ W := by
  obtain ⟨ao, cv, R, q, ys, ea, h1, h2, h3, h4⟩ := h
  rcases h4 with ⟨a, rfl, c, rfl, e⟩ | ⟨a, rfl, c, te, pe, d, e⟩
  · have hiv' := hiv a
    have hw' := hw a
    rw [hiv', a]
    exact stageE_ok w0 W B n cv R gp wp v.i ao q xs v.want h1 h2 c hw' e
  · rw [a]
    exact stageE_bad w0 W B n cv R gp ao q ys er v.noPR h1 h2 c ea te pe d h3 (e W (Below.refl _ _))

theorem str_iff (s : ByteArray) (l : List UInt8) : (s.toList == l) = true ↔ s = ⟨l.toArray⟩ := by
  rw [beq_iff_eq, ByteArray.toList_eq]
  constructor
  · intro h; apply ByteArray.ext; rw [← h]
  · intro h; rw [h]

theorem settledS_eq (s : ByteArray) : settledS s = ((s.toList == [102, 97, 105, 108, 101, 100]) || (s.toList == [110, 101, 101, 100, 115, 45, 109, 97, 110, 117, 97, 108, 45, 114, 101, 118, 105, 101, 119])) := by
  rw [Bool.eq_iff_iff, Bool.or_eq_true, str_iff, str_iff]
  unfold settledS
  rw [Lib.containsS_iff]
  simp [sFailed, sManual]

theorem targetS_eq (s : ByteArray) : targetS s = ((s.toList == [114, 101, 97, 100, 121]) || (s.toList == [114, 101, 118, 105, 101, 119, 45, 100, 117, 101]) || (s.toList == [102, 105, 120, 45, 100, 117, 101]) || (s.toList == [100, 111, 110, 101])) := by
  rw [Bool.eq_iff_iff, Bool.or_eq_true, Bool.or_eq_true, Bool.or_eq_true, str_iff, str_iff, str_iff, str_iff]
  unfold targetS
  rw [Lib.containsS_iff]
  simp [sReady, sReviewDue, sFixDue, sDone, or_assoc]

set_option maxRecDepth 100000 in
set_option maxHeartbeats 1600000 in
theorem stageD_none (w0 W : World) (B k gp : Nat) (er : Value) (n pr : Int) (tt : ByteArray) (xs : List Iss) {u0 u2 u3 u5 u6 u7 u8 u9 u10 u11 u12 u15 u16 u17 u23 u24 u25 u26 u27 u28 u29 u30 u31 u32 u33 u34 u35 u36 u37 u38 u39 u40 u41 u42 u43 u44 u45 u46 u47 u48 u49 u50 u51 u52 u53 u54 u55 u56 u57 u58 u59 u60 u61 u62 u63 u64 u65 u66 u67 u68 u69 u70 u71 u72 u73 u74 u75 u76 u77 u78 u79 u80 u81 u82 u83 u84 u85 u86 u87 u88 u89 u90 u91 u92 u93 u94 u95 u96 u97 u98 u99 u100 u101 u102 u103 u104 u105 u106 u107 u108 u109 u110 u111 u112 u113 u114 u115 u116 u117 u118 u119 u120 u121 u122 u123 u124 u125 u126 u127 u128 u129 u130 u131 u132 u133 u134 u135 u136 u137 u138 u139 u140 u141 u142 u143 u144 u145 u146 u147 u148 u149 u150 u151 u152 u153 u154 u155 u156 u157 u158 u159 u160 u161 u162 u163 u164 u165 u166 u167 u168 u169 u170 u171 u172 u173 u174 u175 u176 u177 u178 u179 u180 u181 u182 u183 u184 u185 u186 u187 u188 u189 u190 u191 u192 u193 u194 u195 u196 u197 u198 u199 u200 u201 u202 u203 u204 u205 u206 u207 u208 u209 u210 u211 u212 u213 u214 u215 u216 u217 u218 u219 u220 u221 u222 u223 u224 u225 u226 u227 u228 u229 u230 u231 u232 u233 u234 u235 u236 u237 u238 u239 u240 u241 u242 u243 u244 u245 u246 u247 u248 u249 u250 u251 u252 u253 u254 u255 u256 u257 u258 u259 u260 u261 u262 u263 u264 u265 u266 u267 u268 u269 u270 u271 u272 u273 u274 u275 u276 u277 u278 u279 u280 u281 u282 u283 u284 u285 u286 u287 u288 u289 u290 u291 u292 u293 u294 u295 u296 u297 u298 u299 u300 u301 u302 u303 u304 u305 u306 u307 u308 u309 u310 u311 u312 u313 u314 u315 u316 u317 u318 u319 : Value}
    (h : ReadyFor w0 W B k gp er (ver n pr tt xs) xs) (hno : noIdx n xs = none) :
    Code.wp Ybaf.prog (dropC 12 (codeOf Ybaf.f3)) (bodyPost Ybaf.prog Ybaf.f3 (LawPost w0)) ⟨#[u0, .int .i64 n, u2, u3, .int .i64 pr, u5, u6, u7, u8, u9, u10, u11, u12, .pointer (some ⟨B, 0, none⟩), .slice (some ⟨B + 1, 0, none⟩) k k, u15, u16, u17, .int .i64 k, .string tt, .pointer (some ⟨gp, 0, none⟩), er, .int .i64 (-1), u23, u24, u25, u26, u27, u28, u29, u30, u31, u32, u33, u34, u35, u36, u37, u38, u39, u40, u41, u42, u43, u44, u45, u46, u47, u48, u49, u50, u51, u52, u53, u54, u55, u56, u57, u58, u59, u60, u61, u62, u63, u64, u65, u66, u67, u68, u69, u70, u71, u72, u73, u74, u75, u76, u77, u78, u79, u80, u81, u82, u83, u84, u85, u86, u87, u88, u89, u90, u91, u92, u93, u94, u95, u96, u97, u98, u99, u100, u101, u102, u103, u104, u105, u106, u107, u108, u109, u110, u111, u112, u113, u114, u115, u116, u117, u118, u119, u120, u121, u122, u123, u124, u125, u126, u127, u128, u129, u130, u131, u132, u133, u134, u135, u136, u137, u138, u139, u140, u141, u142, u143, u144, u145, u146, u147, u148, u149, u150, u151, u152, u153, u154, u155, u156, u157, u158, u159, u160, u161, u162, u163, u164, u165, u166, u167, u168, u169, u170, u171, u172, u173, u174, u175, u176, u177, u178, u179, u180, u181, u182, u183, u184, u185, u186, u187, u188, u189, u190, u191, u192, u193, u194, u195, u196, u197, u198, u199, u200, u201, u202, u203, u204, u205, u206, u207, u208, u209, u210, u211, u212, u213, u214, u215, u216, u217, u218, u219, u220, u221, u222, u223, u224, u225, u226, u227, u228, u229, u230, u231, u232, u233, u234, u235, u236, u237, u238, u239, u240, u241, u242, u243, u244, u245, u246, u247, u248, u249, u250, u251, u252, u253, u254, u255, u256, u257, u258, u259, u260, u261, u262, u263, u264, u265, u266, u267, u268, u269, u270, u271, u272, u273, u274, u275, u276, u277, u278, u279, u280, u281, u282, u283, u284, u285, u286, u287, u288, u289, u290, u291, u292, u293, u294, u295, u296, u297, u298, u299, u300, u301, u302, u303, u304, u305, u306, u307, u308, u309, u310, u311, u312, u313, u314, u315, u316, u317, u318, u319], []⟩ W := by
  have hv : ver n pr tt xs = bad := by unfold ver; rw [hno]
  rw [hv] at h
  have HR := hid h
  clear h hv
  generalize hQ : bodyPost Ybaf.prog Ybaf.f3 (LawPost w0) = Q
  simp only [dropC, codeOf, Ybaf.f3, Option.getD_some]
  subst hQ
  go_upto_if 140 with fail
  go_cut [24, 25] (fun ok np wx => ok = .bool false ∧ np = .bool false ∧ Below W.heap.size W wx)
  case first =>
    go_wp2_with fail
    go_meet
    case rel => exact ⟨rfl, rfl, (Below.refl _ _).alloc (Nat.le_refl _) _⟩
  case rest =>
    obtain ⟨rfl, rfl, hb⟩ := hcut
    apply (show ∀ (a : Act) (w : World), Code.wp Ybaf.prog (dropC 16 (codeOf Ybaf.f3)) (bodyPost Ybaf.prog Ybaf.f3 (LawPost w0)) a w → _ from by assumption)
    exact stageE w0 wc B k gp W.heap.size er bad xs (-1) (HR.out.below hb) (fun h => by cases h) (fun h => by cases h)
end Go.Proofs.YbulkatmkFmt
