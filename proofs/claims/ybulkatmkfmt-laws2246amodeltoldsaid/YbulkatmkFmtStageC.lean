/-
  The law's walk: the stages of its body: the search of the issue.
-/
import Derived.Test.YbulkatmkFmtStageN
import Derived.Deep.CutBlock
namespace Go.Proofs.YbulkatmkFmt
open Go.ChangeShapes Go.WideShapes Go.ChangeAt Go.RowKit Go.Extern.Stop Go.Stop

def noAt (n : Int) (xs : List Iss) : Int := match noIdx n xs with
  | none => -1
  | some j => (j : Int)

theorem stageD (w0 W : World) (B k gp : Nat) (er : Value) (n pr : Int) (tt : ByteArray) (xs : List Iss) {u0 u2 u3 u5 u6 u7 u8 u9 u10 u11 u12 u15 u16 u17 u23 u24 u25 u26 u27 u28 u29 u30 u31 u32 u33 u34 u35 u36 u37 u38 u39 u40 u41 u42 u43 u44 u45 u46 u47 u48 u49 u50 u51 u52 u53 u54 u55 u56 u57 u58 u59 u60 u61 u62 u63 u64 u65 u66 u67 u68 u69 u70 u71 u72 u73 u74 u75 u76 u77 u78 u79 u80 u81 u82 u83 u84 u85 u86 u87 u88 u89 u90 u91 u92 u93 u94 u95 u96 u97 u98 u99 u100 u101 u102 u103 u104 u105 u106 u107 u108 u109 u110 u111 u112 u113 u114 u115 u116 u117 u118 u119 u120 u121 u122 u123 u124 u125 u126 u127 u128 u129 u130 u131 u132 u133 u134 u135 u136 u137 u138 u139 u140 u141 u142 u143 u144 u145 u146 u147 u148 u149 u150 u151 u152 u153 u154 u155 u156 u157 u158 u159 u160 u161 u162 u163 u164 u165 u166 u167 u168 u169 u170 u171 u172 u173 u174 u175 u176 u177 u178 u179 u180 u181 u182 u183 u184 u185 u186 u187 u188 u189 u190 u191 u192 u193 u194 u195 u196 u197 u198 u199 u200 u201 u202 u203 u204 u205 u206 u207 u208 u209 u210 u211 u212 u213 u214 u215 u216 u217 u218 u219 u220 u221 u222 u223 u224 u225 u226 u227 u228 u229 u230 u231 u232 u233 u234 u235 u236 u237 u238 u239 u240 u241 u242 u243 u244 u245 u246 u247 u248 u249 u250 u251 u252 u253 u254 u255 u256 u257 u258 u259 u260 u261 u262 u263 u264 u265 u266 u267 u268 u269 u270 u271 u272 u273 u274 u275 u276 u277 u278 u279 u280 u281 u282 u283 u284 u285 u286 u287 u288 u289 u290 u291 u292 u293 u294 u295 u296 u297 u298 u299 u300 u301 u302 u303 u304 u305 u306 u307 u308 u309 u310 u311 u312 u313 u314 u315 u316 u317 u318 u319 : Value}
    (h : ReadyFor w0 W B k gp er (ver n pr tt xs) xs) :
    Code.wp Ybaf.prog (dropC 12 (codeOf Ybaf.f3)) (bodyPost Ybaf.prog Ybaf.f3 (LawPost w0)) ⟨#[u0, .int .i64 n, u2, u3, .int .i64 pr, u5, u6, u7, u8, u9, u10, u11, u12, .pointer (some ⟨B, 0, none⟩), .slice (some ⟨B + 1, 0, none⟩) k k, u15, u16, u17, .int .i64 k, .string tt, .pointer (some ⟨gp, 0, none⟩), er, .int .i64 (noAt n xs), u23, u24, u25, u26, u27, u28, u29, u30, u31, u32, u33, u34, u35, u36, u37, u38, u39, u40, u41, u42, u43, u44, u45, u46, u47, u48, u49, u50, u51, u52, u53, u54, u55, u56, u57, u58, u59, u60, u61, u62, u63, u64, u65, u66, u67, u68, u69, u70, u71, u72, u73, u74, u75, u76, u77, u78, u79, u80, u81, u82, u83, u84, u85, u86, u87, u88, u89, u90, u91, u92, u93, u94, u95, u96, u97, u98, u99, u100, u101, u102, u103, u104, u105, u106, u107, u108, u109, u110, u111, u112, u113, u114, u115, u116, u117, u118, u119, u120, u121, u122, u123, u124, u125, u126, u127, u128, u129, u130, u131, u132, u133, u134, u135, u136, u137, u138, u139, u140, u141, u142, u143, u144, u145, u146, u147, u148, u149, u150, u151, u152, u153, u154, u155, u156, u157, u158, u159, u160, u161, u162, u163, u164, u165, u166, u167, u168, u169, u170, u171, u172, u173, u174, u175, u176, u177, u178, u179, u180, u181, u182, u183, u184, u185, u186, u187, u188, u189, u190, u191, u192, u193, u194, u195, u196, u197, u198, u199, u200, u201, u202, u203, u204, u205, u206, u207, u208, u209, u210, u211, u212, u213, u214, u215, u216, u217, u218, u219, u220, u221, u222, u223, u224, u225, u226, u227, u228, u229, u230, u231, u232, u233, u234, u235, u236, u237, u238, u239, u240, u241, u242, u243, u244, u245, u246, u247, u248, u249, u250, u251, u252, u253, u254, u255, u256, u257, u258, u259, u260, u261, u262, u263, u264, u265, u266, u267, u268, u269, u270, u271, u272, u273, u274, u275, u276, u277, u278, u279, u280, u281, u282, u283, u284, u285, u286, u287, u288, u289, u290, u291, u292, u293, u294, u295, u296, u297, u298, u299, u300, u301, u302, u303, u304, u305, u306, u307, u308, u309, u310, u311, u312, u313, u314, u315, u316, u317, u318, u319], []⟩ W := by
  cases hno : noIdx n xs with
  | none =>
    have e : noAt n xs = -1 := by unfold noAt; rw [hno]
    rw [e]
    exact stageD_none w0 W B k gp er n pr tt xs h hno
  | some i =>
    have e : noAt n xs = (i : Int) := by unfold noAt; rw [hno]
    obtain ⟨x, hx⟩ := noIdx_lt hno
    have hv : ver n pr tt xs = verAt n pr tt xs i x := by
      unfold ver
      rw [hno]
      show verAt n pr tt xs i (xs.getD i zeroIss) = _
      rw [show xs.getD i zeroIss = x by simp [List.getD, hx]]
    rw [hv] at h
    rw [e]
    by_cases hz : pr = 0
    · subst hz
      exact stageD_zero w0 W B k gp i er n tt xs x h hx
    · exact stageD_more w0 W B k gp i er n pr tt xs x h hx hz

set_option maxRecDepth 100000 in
set_option maxHeartbeats 1600000 in
theorem stageC (w0 W : World) (B k gp : Nat) (er : Value) (n pr : Int) (tt : ByteArray) (xs : List Iss) {u0 u2 u3 u5 u6 u7 u8 u9 u10 u11 u12 u15 u16 u17 u22 u23 u24 u25 u26 u27 u28 u29 u30 u31 u32 u33 u34 u35 u36 u37 u38 u39 u40 u41 u42 u43 u44 u45 u46 u47 u48 u49 u50 u51 u52 u53 u54 u55 u56 u57 u58 u59 u60 u61 u62 u63 u64 u65 u66 u67 u68 u69 u70 u71 u72 u73 u74 u75 u76 u77 u78 u79 u80 u81 u82 u83 u84 u85 u86 u87 u88 u89 u90 u91 u92 u93 u94 u95 u96 u97 u98 u99 u100 u101 u102 u103 u104 u105 u106 u107 u108 u109 u110 u111 u112 u113 u114 u115 u116 u117 u118 u119 u120 u121 u122 u123 u124 u125 u126 u127 u128 u129 u130 u131 u132 u133 u134 u135 u136 u137 u138 u139 u140 u141 u142 u143 u144 u145 u146 u147 u148 u149 u150 u151 u152 u153 u154 u155 u156 u157 u158 u159 u160 u161 u162 u163 u164 u165 u166 u167 u168 u169 u170 u171 u172 u173 u174 u175 u176 u177 u178 u179 u180 u181 u182 u183 u184 u185 u186 u187 u188 u189 u190 u191 u192 u193 u194 u195 u196 u197 u198 u199 u200 u201 u202 u203 u204 u205 u206 u207 u208 u209 u210 u211 u212 u213 u214 u215 u216 u217 u218 u219 u220 u221 u222 u223 u224 u225 u226 u227 u228 u229 u230 u231 u232 u233 u234 u235 u236 u237 u238 u239 u240 u241 u242 u243 u244 u245 u246 u247 u248 u249 u250 u251 u252 u253 u254 u255 u256 u257 u258 u259 u260 u261 u262 u263 u264 u265 u266 u267 u268 u269 u270 u271 u272 u273 u274 u275 u276 u277 u278 u279 u280 u281 u282 u283 u284 u285 u286 u287 u288 u289 u290 u291 u292 u293 u294 u295 u296 u297 u298 u299 u300 u301 u302 u303 u304 u305 u306 u307 u308 u309 u310 u311 u312 u313 u314 u315 u316 u317 u318 u319 : Value}
    (h : ReadyFor w0 W B k gp er (ver n pr tt xs) xs) :
    Code.wp Ybaf.prog (dropC 10 (codeOf Ybaf.f3)) (bodyPost Ybaf.prog Ybaf.f3 (LawPost w0)) ⟨#[u0, .int .i64 n, u2, u3, .int .i64 pr, u5, u6, u7, u8, u9, u10, u11, u12, .pointer (some ⟨B, 0, none⟩), .slice (some ⟨B + 1, 0, none⟩) k k, u15, u16, u17, .int .i64 k, .string tt, .pointer (some ⟨gp, 0, none⟩), er, u22, u23, u24, u25, u26, u27, u28, u29, u30, u31, u32, u33, u34, u35, u36, u37, u38, u39, u40, u41, u42, u43, u44, u45, u46, u47, u48, u49, u50, u51, u52, u53, u54, u55, u56, u57, u58, u59, u60, u61, u62, u63, u64, u65, u66, u67, u68, u69, u70, u71, u72, u73, u74, u75, u76, u77, u78, u79, u80, u81, u82, u83, u84, u85, u86, u87, u88, u89, u90, u91, u92, u93, u94, u95, u96, u97, u98, u99, u100, u101, u102, u103, u104, u105, u106, u107, u108, u109, u110, u111, u112, u113, u114, u115, u116, u117, u118, u119, u120, u121, u122, u123, u124, u125, u126, u127, u128, u129, u130, u131, u132, u133, u134, u135, u136, u137, u138, u139, u140, u141, u142, u143, u144, u145, u146, u147, u148, u149, u150, u151, u152, u153, u154, u155, u156, u157, u158, u159, u160, u161, u162, u163, u164, u165, u166, u167, u168, u169, u170, u171, u172, u173, u174, u175, u176, u177, u178, u179, u180, u181, u182, u183, u184, u185, u186, u187, u188, u189, u190, u191, u192, u193, u194, u195, u196, u197, u198, u199, u200, u201, u202, u203, u204, u205, u206, u207, u208, u209, u210, u211, u212, u213, u214, u215, u216, u217, u218, u219, u220, u221, u222, u223, u224, u225, u226, u227, u228, u229, u230, u231, u232, u233, u234, u235, u236, u237, u238, u239, u240, u241, u242, u243, u244, u245, u246, u247, u248, u249, u250, u251, u252, u253, u254, u255, u256, u257, u258, u259, u260, u261, u262, u263, u264, u265, u266, u267, u268, u269, u270, u271, u272, u273, u274, u275, u276, u277, u278, u279, u280, u281, u282, u283, u284, u285, u286, u287, u288, u289, u290, u291, u292, u293, u294, u295, u296, u297, u298, u299, u300, u301, u302, u303, u304, u305, u306, u307, u308, u309, u310, u311, u312, u313, u314, u315, u316, u317, u318, u319], []⟩ W := by
  have HR := hid h
  have HBF := hid h.bef
  clear h
  generalize hQ : bodyPost Ybaf.prog Ybaf.f3 (LawPost w0) = Q
  simp only [dropC, codeOf, Ybaf.f3, Option.getD_some]
  subst hQ
  go_upto_block 2 with fail
  go_cut [22] from 125 to 138 (fun v wx => v = .int .i64 (noAt n xs) ∧ wx = W)
  case first =>
    go_wp2_with fail
    go_loop [22, 127] (fun p a => p = .int .i64 (-1) ∧ ∃ j : Nat, j ≤ k ∧ a = .int .i64 j ∧ ∀ m y, m < j → xs[m]? = some y → isNo n y = false) (fun _ a => k - (intOf a).toNat)
    case atStart => exact ⟨rfl, 0, by omega, rfl, fun j y hj => by omega⟩
    case round =>
      obtain ⟨rfl, j, hj, rfl, hb⟩ := hrel
      have HBB := hid hb
      clear hb
      have hlen := HBF.out.len
      have hsm := HBF.out.small
      rcases Nat.lt_or_ge j k with hlt | hge
      · obtain ⟨y, hy⟩ : ∃ y, xs[j]? = some y := ⟨xs[j]'(by omega), by simp [show j < xs.length by omega]⟩
        have b0 := HBF.out.b0 j y hy
        have HY := hid hy
        clear hy hlen
        have s1 : (j : Int) < (k : Int) := by omega
        cases hm : (y.issue == n)
        · go_wp2_with fail
          refine ⟨⟨rfl, j + 1, by omega, rfl, fun m y2 hm2 hy2 => ?_⟩, by simp [intOf]; omega⟩
          rcases Nat.lt_or_ge m j with hjk | hjk
          · exact HBB.out m y2 hjk hy2
          · have : m = j := by omega
            subst this
            rw [HY.out] at hy2
            simp only [Option.some.injEq] at hy2
            subst hy2
            exact hm
        · have HP := hid (show noIdx n xs = some j from findIdx_some HY.out hm HBB.out)
          go_wp2_with fail
          go_meet
          case rel => exact ⟨by unfold noAt; rw [HP.out], rfl⟩
      · have : j = k := by omega
        subst this
        have HP := hid (show noIdx n xs = none from findIdx_none fun m y hm hy => HBB.out m y (by omega) hy)
        clear hlen
        go_wp2_with fail
        go_meet
        case rel => exact ⟨by unfold noAt; rw [HP.out], rfl⟩
  case rest =>
    obtain ⟨rfl, rfl⟩ := hcut
    apply (show ∀ (a : Act) (w : World), Code.wp Ybaf.prog (dropC 12 (codeOf Ybaf.f3)) (bodyPost Ybaf.prog Ybaf.f3 (LawPost w0)) a w → _ from by assumption)
    exact stageD w0 wc B k gp er n pr tt xs HR.out
end Go.Proofs.YbulkatmkFmt
