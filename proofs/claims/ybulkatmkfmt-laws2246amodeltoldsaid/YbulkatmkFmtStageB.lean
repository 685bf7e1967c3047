/-
  The law's walk: the stages of its body: the selection, and the call of Settle.
-/
import Derived.Test.YbulkatmkFmtReady
namespace Go.Proofs.YbulkatmkFmt
open Go.ChangeShapes Go.WideShapes Go.ChangeAt Go.RowKit Go.Extern.Stop Go.Stop

theorem Built.pick {B k : Nat} {w : World} {v : Value} {q : Nat → Nat} {xs : List Iss} {bs : List Value} (h : Built B k k w v q xs bs) (sel : Int) (hk : 0 < k) :
    ∃ j x, j < k ∧ ((sel.tdiv 4 % 256 % (k : Int)).toNat = j ∧ (0 ≤ sel.tdiv 4 % 256 % (k : Int) ∧ sel.tdiv 4 % 256 % (k : Int) < (k : Int))) ∧ xs[j]? = some x := by
  have h1 := Int.emod_nonneg (sel.tdiv 4 % 256) (show (k : Int) ≠ 0 by omega)
  have h2 := Int.emod_lt_of_pos (sel.tdiv 4 % 256) (show (0 : Int) < (k : Int) by omega)
  have hj : (sel.tdiv 4 % 256 % (k : Int)).toNat < k := by omega
  have hl := h.len
  exact ⟨_, xs[(sel.tdiv 4 % 256 % (k : Int)).toNat]'(by omega), hj, ⟨rfl, h1, h2⟩, by simp [show (sel.tdiv 4 % 256 % (k : Int)).toNat < xs.length by omega]⟩

theorem ver_lt {n pr : Int} {tt : ByteArray} {xs : List Iss} {k : Nat} (hl : xs.length = k) (h : (ver n pr tt xs).ok = true) : (ver n pr tt xs).i < k := by
  obtain ⟨x, hx⟩ := noIdx_lt (ver_ok h)
  have := (List.getElem?_eq_some_iff.1 hx).1
  omega

set_option maxRecDepth 100000 in
set_option maxHeartbeats 1600000 in
theorem stageB (F : Interp) (P : Places) (w0 W : World) (k : Nat) (v : Value) (q : Nat → Nat) (xs : List Iss) (bs : List Value) (n nSel tsel pr prSel : Int) {u0 u6 u7 u8 u9 u10 u11 u12 u15 u16 u17 u18 u19 u20 u21 u22 u23 u24 u25 u26 u27 u28 u29 u30 u31 u32 u33 u34 u35 u36 u37 u38 u39 u40 u41 u42 u43 u44 u45 u46 u47 u48 u49 u50 u51 u52 u53 u54 u55 u56 u57 u58 u59 u60 u61 u62 u63 u64 u65 u66 u67 u68 u69 u70 u71 u72 u73 u74 u75 u76 u77 u78 u79 u80 u81 u82 u83 u84 u85 u86 u87 u88 u89 u90 u91 u92 u93 u94 u95 u96 u97 u98 u99 u100 u101 u102 u103 u104 u105 u106 u107 u108 u109 u110 u111 u112 u113 u114 u115 u116 u117 u118 u119 u120 u121 u122 u123 u124 u125 u126 u127 u128 u129 u130 u131 u132 u133 u134 u135 u136 u137 u138 u139 u140 u141 u142 u143 u144 u145 u146 u147 u148 u149 u150 u151 u152 u153 u154 u155 u156 u157 u158 u159 u160 u161 u162 u163 u164 u165 u166 u167 u168 u169 u170 u171 u172 u173 u174 u175 u176 u177 u178 u179 u180 u181 u182 u183 u184 u185 u186 u187 u188 u189 u190 u191 u192 u193 u194 u195 u196 u197 u198 u199 u200 u201 u202 u203 u204 u205 u206 u207 u208 u209 u210 u211 u212 u213 u214 u215 u216 u217 u218 u219 u220 u221 u222 u223 u224 u225 u226 u227 u228 u229 u230 u231 u232 u233 u234 u235 u236 u237 u238 u239 u240 u241 u242 u243 u244 u245 u246 u247 u248 u249 u250 u251 u252 u253 u254 u255 u256 u257 u258 u259 u260 u261 u262 u263 u264 u265 u266 u267 u268 u269 u270 u271 u272 u273 u274 u275 u276 u277 u278 u279 u280 u281 u282 u283 u284 u285 u286 u287 u288 u289 u290 u291 u292 u293 u294 u295 u296 u297 u298 u299 u300 u301 u302 u303 u304 u305 u306 u307 u308 u309 u310 u311 u312 u313 u314 u315 u316 u317 u318 u319 : Value}
    (hU : Built w0.heap.size k k W v q xs bs) (hL : Below w0.heap.size w0 W) (hk : k ≤ 1024) (hV : VarsAt F P w0) :
    Code.wp Ybaf.prog (dropC 5 (codeOf Ybaf.f3)) (bodyPost Ybaf.prog Ybaf.f3 (LawPost w0)) ⟨#[u0, .int .i64 n, .int .u8 nSel, .int .u8 tsel, .int .i64 pr, .int .u8 prSel, u6, u7, u8, u9, u10, u11, u12, .pointer (some ⟨w0.heap.size, 0, none⟩), .slice (some ⟨w0.heap.size + 1, 0, none⟩) k k, u15, u16, u17, u18, u19, u20, u21, u22, u23, u24, u25, u26, u27, u28, u29, u30, u31, u32, u33, u34, u35, u36, u37, u38, u39, u40, u41, u42, u43, u44, u45, u46, u47, u48, u49, u50, u51, u52, u53, u54, u55, u56, u57, u58, u59, u60, u61, u62, u63, u64, u65, u66, u67, u68, u69, u70, u71, u72, u73, u74, u75, u76, u77, u78, u79, u80, u81, u82, u83, u84, u85, u86, u87, u88, u89, u90, u91, u92, u93, u94, u95, u96, u97, u98, u99, u100, u101, u102, u103, u104, u105, u106, u107, u108, u109, u110, u111, u112, u113, u114, u115, u116, u117, u118, u119, u120, u121, u122, u123, u124, u125, u126, u127, u128, u129, u130, u131, u132, u133, u134, u135, u136, u137, u138, u139, u140, u141, u142, u143, u144, u145, u146, u147, u148, u149, u150, u151, u152, u153, u154, u155, u156, u157, u158, u159, u160, u161, u162, u163, u164, u165, u166, u167, u168, u169, u170, u171, u172, u173, u174, u175, u176, u177, u178, u179, u180, u181, u182, u183, u184, u185, u186, u187, u188, u189, u190, u191, u192, u193, u194, u195, u196, u197, u198, u199, u200, u201, u202, u203, u204, u205, u206, u207, u208, u209, u210, u211, u212, u213, u214, u215, u216, u217, u218, u219, u220, u221, u222, u223, u224, u225, u226, u227, u228, u229, u230, u231, u232, u233, u234, u235, u236, u237, u238, u239, u240, u241, u242, u243, u244, u245, u246, u247, u248, u249, u250, u251, u252, u253, u254, u255, u256, u257, u258, u259, u260, u261, u262, u263, u264, u265, u266, u267, u268, u269, u270, u271, u272, u273, u274, u275, u276, u277, u278, u279, u280, u281, u282, u283, u284, u285, u286, u287, u288, u289, u290, u291, u292, u293, u294, u295, u296, u297, u298, u299, u300, u301, u302, u303, u304, u305, u306, u307, u308, u309, u310, u311, u312, u313, u314, u315, u316, u317, u318, u319], []⟩ W := by
  obtain ⟨ao, cv, R, hbase⟩ := hU.base hk
  have HU := hid hU
  have HL := hid hL
  have HV := hid hV
  have HBS := hid hbase
  have HE := hid (hV.env hL hbase.led (fun i j hi hj => hbase.inj i j (by have := hU.len; omega) (by have := hU.len; omega)))
  clear hU hL hV hbase
  generalize hQ : bodyPost Ybaf.prog Ybaf.f3 (LawPost w0) = Q
  simp only [dropC, codeOf, Ybaf.f3, Option.getD_some]
  subst hQ
  go_upto_region 14 with fail
  go_cut [86] from 78 to 86 (fun v wx => (∃ b : Bool, v = .bool b ∧ (b = true → 0 < k)) ∧ wx = W)
  case first =>
    rcases Nat.eq_zero_or_pos k with hk0 | hk0
    · have hk1 : ¬ 0 < k := by omega
      clear hk0
      go_wp2_with fail
      go_meet
      case rel => exact ⟨⟨false, rfl, fun h => by cases h⟩, rfl⟩
    · go_wp2_with fail
      go_meet
      case rel => exact ⟨⟨_, rfl, fun _ => hk0⟩, rfl⟩
  case rest =>
    obtain ⟨⟨b86, rfl, hb86⟩, rfl⟩ := hcut
    have HB86 := hid hb86
    clear hb86
    go_upto_if 86 with fail
    go_cut [1] from 87 to 95 (fun v1 wx => (∃ n' : Int, v1 = .int .i64 n') ∧ wx = wc)
    case first =>
      cases b86
      · go_wp2_with fail
        go_meet
        case rel => exact ⟨⟨_, rfl⟩, rfl⟩
      · have hk0 : 0 < k := HB86.out rfl
        have hk1 : ¬ k = 0 := by omega
        obtain ⟨j, x, hj, hidx, hx⟩ := HU.out.pick nSel hk0
        have c0 := (HU.out.bef.cellAt (j * 5) (by omega)).trans (HU.out.befs j x hx).b0
        rw [← hidx.1] at c0
        have hix := hidx.2
        clear hidx hx
        go_wp2_with fail
        go_meet
        case rel => exact ⟨⟨_, rfl⟩, rfl⟩
    case rest =>
      obtain ⟨⟨n', rfl⟩, rfl⟩ := hcut
      clear HB86
      go_upto_if 98 with fail
      go_cut [4] from 96 to 114 (fun v1 wx => (∃ pr' : Int, v1 = .int .i64 pr') ∧ wx = wc)
      case first =>
        rcases Nat.eq_zero_or_pos k with hk0 | hk0
        · have hk1 : ¬ 0 < k := by omega
          clear hk0
          go_wp2_with fail
          all_goals go_meet
          all_goals exact ⟨⟨_, rfl⟩, rfl⟩
        · have hk1 : ¬ k = 0 := by omega
          obtain ⟨j, x, hj, hidx, hx⟩ := HU.out.pick prSel hk0
          have c0 := (HU.out.bef.cellAt (j * 5 + 3) (by omega)).trans (HU.out.befs j x hx).b3
          rw [← hidx.1] at c0
          have hix := hidx.2
          clear hidx hx
          go_wp2_with fail
          all_goals go_meet
          all_goals exact ⟨⟨_, rfl⟩, rfl⟩
      case rest =>
        obtain ⟨⟨pr', rfl⟩, rfl⟩ := hcut
        go_wp2_with fail
        refine (target_some _ _).mono ?_
        rintro e w2 ⟨tt, rfl, rfl⟩
        go_upto_region 21 with fail
        have hset : Calls Ybaf.prog 7 #[.pointer (some ⟨w0.heap.size, 0, none⟩), .int .i64 n', .string tt, .int .i64 pr'] wc (SettlePost (P.at_ w0.heap.size ao cv R q xs) wc (ver n' pr' tt xs)) := settle_any HE.out n' pr' tt
        have hvl : (ver n' pr' tt xs).ok = true → (ver n' pr' tt xs).i < k := fun h => ver_lt HU.out.len h
        obtain ⟨vv, hvv⟩ : ∃ vv, ver n' pr' tt xs = vv := ⟨_, rfl⟩
        rw [hvv] at hset hvl
        have HS := hid hset
        have HVL := hid hvl
        have HVV := hid hvv
        clear hset hvl hvv
        go_cut [20, 21] from 115 to 124 (fun g e wx => ∃ gp er, g = .pointer (some ⟨gp, 0, none⟩) ∧ e = er ∧ ReadyFor w0 wx w0.heap.size k gp er vv xs)
        case first =>
          go_wp2_with fail
          refine HS.out.mono ?_
          intro e w2 hs
          clear HS
          rcases hs with ⟨hok, rfl, hy, hg⟩ | ⟨hok, hnp, g, hge, rfl, hgc, hb⟩ | ⟨hok, hnp, er, rfl, hn⟩
          · have HRD := hid (ready_moved HV.out HL.out HBS.out hok (HVL.out hok) hg hy)
            clear hok hy hg
            simp only [Iss.cells]
            go_wp2_with fail
            go_meet
            case rel => exact ⟨_, _, rfl, rfl, HRD.out⟩
          · have HRD := hid (ready_nopr HV.out HL.out HBS.out hok hnp hgc hb)
            clear hok hnp hge hgc hb
            simp only [Iss.cells, zeroIss]
            go_wp2_with fail
            go_meet
            case rel => exact ⟨_, _, rfl, rfl, HRD.out⟩
          · have HRD := hid (ready_bad HV.out HL.out HBS.out hok hnp hn)
            clear hok hnp hn
            simp only [Iss.cells, zeroIss]
            go_wp2_with fail
            go_meet
            case rel => exact ⟨_, _, rfl, rfl, HRD.out⟩
        case rest =>
          obtain ⟨gp, er, rfl, rfl, hr⟩ := hcut
          rw [← HVV.out] at hr
          have HR := hid hr
          clear hr
          apply (show ∀ (a : Act) (w : World), Code.wp Ybaf.prog (dropC 10 (codeOf Ybaf.f3)) (bodyPost Ybaf.prog Ybaf.f3 (LawPost w0)) a w → _ from by assumption)
          exact stageC w0 wc w0.heap.size k gp _ n' pr' tt xs HR.out
end Go.Proofs.YbulkatmkFmt
