/-
  The law's walk: the stages of its body: the model at an issue that is there.
-/
import Derived.Test.YbulkatmkFmtStageD
namespace Go.Proofs.YbulkatmkFmt
open Go.ChangeShapes Go.WideShapes Go.ChangeAt Go.RowKit Go.Extern.Stop Go.Stop

/-- What the model's walk keeps: the issue it has found, and the one it will want. -/
structure MI (W : World) (x : Iss) (wx : World) : Prop where
  bel : Below W.heap.size W wx
  want : IssAt wx W.heap.size zeroIss
  here : IssAt wx (W.heap.size + 1) x

structure BefC (W : World) (B k : Nat) (xs : List Iss) : Prop where
  len : xs.length = k
  small : k ≤ 1024
  b0 : ∀ j x, xs[j]? = some x → W.cell? ⟨B + 1, j * 5, none⟩ = some (.int .i64 x.issue)
  b1 : ∀ j x, xs[j]? = some x → W.cell? ⟨B + 1, j * 5 + 1, none⟩ = some (.string x.state)
  b2 : ∀ j x, xs[j]? = some x → W.cell? ⟨B + 1, j * 5 + 2, none⟩ = some (.int .i64 x.fixes)
  b3 : ∀ j x, xs[j]? = some x → W.cell? ⟨B + 1, j * 5 + 3, none⟩ = some (.int .i64 x.pr)
  b4 : ∀ j x, xs[j]? = some x → W.cell? ⟨B + 1, j * 5 + 4, none⟩ = some (.string x.branch)

theorem ReadyFor.bef {w0 W : World} {B n gp : Nat} {er : Value} {v : Ver} {xs : List Iss} (h : ReadyFor w0 W B n gp er v xs) : BefC W B n xs := by
  obtain ⟨ao, cv, R, q, ys, ea, h1, h2, h3, h4⟩ := h
  exact ⟨h2.len, h2.small, h2.b0, h2.b1, h2.b2, h2.b3, h2.b4⟩

theorem MI.start (W : World) (x : Iss) : MI W x ((w8 W).alloc (.cells x.cells 32)) := by
  have g2 : (w8 W).grownBy ((w8 W).alloc (.cells x.cells 32)) none := World.grownBy_alloc _ _ none
  have hz := zero_alloc W
  refine ⟨(w8_below W).grown g2 (by simp) (fun k hk => by cases hk), (g2.block _ hz.lt (by simp)).trans hz, ?_⟩
  have e : (w8 W).heap.size = W.heap.size + 1 := by simp
  show ((w8 W).heap.push _)[W.heap.size + 1]? = _
  rw [← e]
  exact Array.getElem?_push_size


theorem verAt_nopr {n : Int} {tt : ByteArray} {xs : List Iss} {i : Nat} {x : Iss} (hs : settledS x.state = true) (ht : targetS tt = true) (hx : x.pr = 0) (hr : isReady tt = false) : verAt n 0 tt xs i x = ⟨false, true, 0, zeroIss⟩ := by
  unfold verAt
  rw [if_neg (by rw [hs]; decide), if_neg (by rw [ht]; decide), if_neg (by omega), if_neg (fun h => h.1 rfl), if_neg (fun h => h.1 rfl), if_pos ⟨rfl, hx, hr⟩]

theorem verAt_good0 {n : Int} {tt : ByteArray} {xs : List Iss} {i : Nat} {x : Iss} (hs : settledS x.state = true) (ht : targetS tt = true) (hf : freeFor 0 xs i = true) (hn : x.pr = 0 → isReady tt = true) : verAt n 0 tt xs i x = good n 0 tt i x := by
  unfold verAt
  rw [if_neg (by rw [hs]; decide), if_neg (by rw [ht]; decide), if_neg (by omega), if_neg (fun h => h.1 rfl), if_neg (fun h => h.1 rfl), if_neg (fun h => by have := hn h.2.1; rw [h.2.2] at this; cases this), if_neg (by rw [hf]; decide)]

theorem want_ready {n : Int} {tt : ByteArray} {i : Nat} {x : Iss} (hr : isReady tt = true) : (good n 0 tt i x).want = ⟨n, sReady, 0, 0, ⟨#[]⟩⟩ := by simp [good, withPr, baseOf, hr]
theorem want_done0 {n : Int} {tt : ByteArray} {i : Nat} {x : Iss} (hr : isReady tt = false) (hd : isDone tt = true) : (good n 0 tt i x).want = ⟨x.issue, sDone, x.fixes, x.pr, x.branch⟩ := by simp [good, withPr, baseOf, hr, hd]
theorem want_other0 {n : Int} {tt : ByteArray} {i : Nat} {x : Iss} (hr : isReady tt = false) (hd : isDone tt = false) : (good n 0 tt i x).want = ⟨x.issue, tt, 0, x.pr, x.branch⟩ := by simp [good, withPr, baseOf, hr, hd]

theorem want_below {W wx wS : World} {x : Iss} (h : MI W x wx) (hg : (put5 wx W.heap.size x).grownBy wS (some W.heap.size)) : Below W.heap.size W wS := by
  have h1 := h.bel.grown (put5_grown wx W.heap.size x) h.bel.size (fun k hk => by simp only [Option.some.injEq] at hk; omega)
  exact h1.grown hg h1.size (fun k hk => by simp only [Option.some.injEq] at hk; omega)

set_option maxRecDepth 100000 in
set_option maxHeartbeats 8000000 in
theorem stageD_zero (w0 W : World) (B k gp i : Nat) (er : Value) (n : Int) (tt : ByteArray) (xs : List Iss) (x : Iss) {u0 u2 u3 u5 u6 u7 u8 u9 u10 u11 u12 u15 u16 u17 u23 u24 u25 u26 u27 u28 u29 u30 u31 u32 u33 u34 u35 u36 u37 u38 u39 u40 u41 u42 u43 u44 u45 u46 u47 u48 u49 u50 u51 u52 u53 u54 u55 u56 u57 u58 u59 u60 u61 u62 u63 u64 u65 u66 u67 u68 u69 u70 u71 u72 u73 u74 u75 u76 u77 u78 u79 u80 u81 u82 u83 u84 u85 u86 u87 u88 u89 u90 u91 u92 u93 u94 u95 u96 u97 u98 u99 u100 u101 u102 u103 u104 u105 u106 u107 u108 u109 u110 u111 u112 u113 u114 u115 u116 u117 u118 u119 u120 u121 u122 u123 u124 u125 u126 u127 u128 u129 u130 u131 u132 u133 u134 u135 u136 u137 u138 u139 u140 u141 u142 u143 u144 u145 u146 u147 u148 u149 u150 u151 u152 u153 u154 u155 u156 u157 u158 u159 u160 u161 u162 u163 u164 u165 u166 u167 u168 u169 u170 u171 u172 u173 u174 u175 u176 u177 u178 u179 u180 u181 u182 u183 u184 u185 u186 u187 u188 u189 u190 u191 u192 u193 u194 u195 u196 u197 u198 u199 u200 u201 u202 u203 u204 u205 u206 u207 u208 u209 u210 u211 u212 u213 u214 u215 u216 u217 u218 u219 u220 u221 u222 u223 u224 u225 u226 u227 u228 u229 u230 u231 u232 u233 u234 u235 u236 u237 u238 u239 u240 u241 u242 u243 u244 u245 u246 u247 u248 u249 u250 u251 u252 u253 u254 u255 u256 u257 u258 u259 u260 u261 u262 u263 u264 u265 u266 u267 u268 u269 u270 u271 u272 u273 u274 u275 u276 u277 u278 u279 u280 u281 u282 u283 u284 u285 u286 u287 u288 u289 u290 u291 u292 u293 u294 u295 u296 u297 u298 u299 u300 u301 u302 u303 u304 u305 u306 u307 u308 u309 u310 u311 u312 u313 u314 u315 u316 u317 u318 u319 : Value}
    (h : ReadyFor w0 W B k gp er (verAt n 0 tt xs i x) xs) (hx : xs[i]? = some x) :
    Code.wp Ybaf.prog (dropC 12 (codeOf Ybaf.f3)) (bodyPost Ybaf.prog Ybaf.f3 (LawPost w0)) ⟨#[u0, .int .i64 n, u2, u3, .int .i64 0, u5, u6, u7, u8, u9, u10, u11, u12, .pointer (some ⟨B, 0, none⟩), .slice (some ⟨B + 1, 0, none⟩) k k, u15, u16, u17, .int .i64 k, .string tt, .pointer (some ⟨gp, 0, none⟩), er, .int .i64 i, u23, u24, u25, u26, u27, u28, u29, u30, u31, u32, u33, u34, u35, u36, u37, u38, u39, u40, u41, u42, u43, u44, u45, u46, u47, u48, u49, u50, u51, u52, u53, u54, u55, u56, u57, u58, u59, u60, u61, u62, u63, u64, u65, u66, u67, u68, u69, u70, u71, u72, u73, u74, u75, u76, u77, u78, u79, u80, u81, u82, u83, u84, u85, u86, u87, u88, u89, u90, u91, u92, u93, u94, u95, u96, u97, u98, u99, u100, u101, u102, u103, u104, u105, u106, u107, u108, u109, u110, u111, u112, u113, u114, u115, u116, u117, u118, u119, u120, u121, u122, u123, u124, u125, u126, u127, u128, u129, u130, u131, u132, u133, u134, u135, u136, u137, u138, u139, u140, u141, u142, u143, u144, u145, u146, u147, u148, u149, u150, u151, u152, u153, u154, u155, u156, u157, u158, u159, u160, u161, u162, u163, u164, u165, u166, u167, u168, u169, u170, u171, u172, u173, u174, u175, u176, u177, u178, u179, u180, u181, u182, u183, u184, u185, u186, u187, u188, u189, u190, u191, u192, u193, u194, u195, u196, u197, u198, u199, u200, u201, u202, u203, u204, u205, u206, u207, u208, u209, u210, u211, u212, u213, u214, u215, u216, u217, u218, u219, u220, u221, u222, u223, u224, u225, u226, u227, u228, u229, u230, u231, u232, u233, u234, u235, u236, u237, u238, u239, u240, u241, u242, u243, u244, u245, u246, u247, u248, u249, u250, u251, u252, u253, u254, u255, u256, u257, u258, u259, u260, u261, u262, u263, u264, u265, u266, u267, u268, u269, u270, u271, u272, u273, u274, u275, u276, u277, u278, u279, u280, u281, u282, u283, u284, u285, u286, u287, u288, u289, u290, u291, u292, u293, u294, u295, u296, u297, u298, u299, u300, u301, u302, u303, u304, u305, u306, u307, u308, u309, u310, u311, u312, u313, u314, u315, u316, u317, u318, u319], []⟩ W := by
  have HR := hid h
  have hbef := h.bef
  have hlen := hbef.len
  have hi : i < k := by have := (List.getElem?_eq_some_iff.1 hx).1; omega
  have hvok := verAt_ok (n := n) (pr := 0) (tt := tt) (xs := xs) (i := i) (x := x)
  have b0 := ((w8_below W).cell (block_lt_of_cell (hbef.b0 i x hx))).trans (hbef.b0 i x hx)
  have b1 := ((w8_below W).cell (block_lt_of_cell (hbef.b1 i x hx))).trans (hbef.b1 i x hx)
  have b2 := ((w8_below W).cell (block_lt_of_cell (hbef.b2 i x hx))).trans (hbef.b2 i x hx)
  have b3 := ((w8_below W).cell (block_lt_of_cell (hbef.b3 i x hx))).trans (hbef.b3 i x hx)
  have b4 := ((w8_below W).cell (block_lt_of_cell (hbef.b4 i x hx))).trans (hbef.b4 i x hx)
  have HBF := hid hbef
  have HX := hid hx
  have HVO := hid hvok
  have hve : (verAt n 0 tt xs i x) = (verAt n 0 tt xs i x) := rfl
  generalize hv : (verAt n 0 tt xs i x) = v at hve HR HVO
  have t1 : (i : Int) < (k : Int) := by omega
  have t2 : ¬ ((i : Int) < 0) := by omega
  have HV := hid hv
  clear h hbef hx hlen hvok hve hv
  generalize hQ : bodyPost Ybaf.prog Ybaf.f3 (LawPost w0) = Q
  simp only [dropC, codeOf, Ybaf.f3, Option.getD_some]
  subst hQ
  go_upto_if 140 with fail
  go_cut [24, 25] from 139 to 237 (fun ok np wx => ok = .bool v.ok ∧ np = .bool v.noPR ∧ Below W.heap.size W wx ∧ (v.ok = true → IssAt wx W.heap.size v.want))
  case rest =>
    obtain ⟨rfl, rfl, hb, hw⟩ := hcut
    apply (show ∀ (a : Act) (w : World), Code.wp Ybaf.prog (dropC 16 (codeOf Ybaf.f3)) (bodyPost Ybaf.prog Ybaf.f3 (LawPost w0)) a w → _ from by assumption)
    exact stageE w0 wc B k gp W.heap.size er v xs i (HR.out.below hb) (fun h => by rw [HVO.out h]) hw
  case first =>
    go_upto_region 35 with fail
    go_cut [152] from 145 to 152 (fun v wx => v = .bool (!settledS x.state) ∧ MI W x wx)
    case first =>
      have hse := settledS_eq x.state
      have HM := hid (MI.start W x)
      cases hf : (x.state.toList == [102, 97, 105, 108, 101, 100])
      · rw [hf, Bool.false_or] at hse
        have HSE := hid hse
        clear hse
        go_wp2_with fail
        go_meet
        case rel => exact ⟨by rw [HSE.out], HM.out⟩
      · rw [hf, Bool.true_or] at hse
        have HSE := hid hse
        clear hse
        go_wp2_with fail
        go_meet
        case rel => exact ⟨by rw [HSE.out]; rfl, HM.out⟩
    case rest =>
      obtain ⟨rfl, hm⟩ := hcut
      have HM := hid hm
      clear hm b0 b1 b2 b3 b4
      cases hs : settledS x.state
      · have hv2 : v = bad := by rw [← HV.out]; unfold verAt; rw [if_pos hs]
        have HV2 := hid hv2
        clear hv2
        go_wp2_with fail
        go_meet
        case rel => exact ⟨by rw [HV2.out]; rfl, by rw [HV2.out]; rfl, HM.out.bel, by rw [HV2.out]; intro h; cases h⟩
      · go_upto_region 37 with fail
        go_cut [166] from 153 to 166 (fun v wx => v = .bool (!targetS tt) ∧ wx = wc)
        case first =>
          have hte := targetS_eq tt
          cases g0 : (tt.toList == [114, 101, 97, 100, 121])
          · cases g1 : (tt.toList == [114, 101, 118, 105, 101, 119, 45, 100, 117, 101])
            · cases g2 : (tt.toList == [102, 105, 120, 45, 100, 117, 101])
              · cases g3 : (tt.toList == [100, 111, 110, 101])
                · rw [g0, g1, g2, g3] at hte
                  have HTE := hid hte
                  clear hte
                  go_wp2_with fail
                  go_meet
                  case rel => exact ⟨by rw [HTE.out]; rfl, rfl⟩
                · rw [g0, g1, g2, g3] at hte
                  have HTE := hid (hte.trans (show _ = true by simp))
                  clear hte
                  go_wp2_with fail
                  go_meet
                  case rel => exact ⟨by rw [HTE.out]; rfl, rfl⟩
              · rw [g0, g1, g2] at hte
                have HTE := hid (hte.trans (show _ = true by simp))
                clear hte
                go_wp2_with fail
                go_meet
                case rel => exact ⟨by rw [HTE.out]; rfl, rfl⟩
            · rw [g0, g1] at hte
              have HTE := hid (hte.trans (show _ = true by simp))
              clear hte
              go_wp2_with fail
              go_meet
              case rel => exact ⟨by rw [HTE.out]; rfl, rfl⟩
          · rw [g0] at hte
            have HTE := hid (hte.trans (show _ = true by simp))
            clear hte
            go_wp2_with fail
            go_meet
            case rel => exact ⟨by rw [HTE.out]; rfl, rfl⟩
        case rest =>
          obtain ⟨rfl, rfl⟩ := hcut
          cases ht : targetS tt
          · have hv2 : v = bad := by rw [← HV.out]; unfold verAt; rw [if_neg (by rw [hs]; decide), if_pos ht]
            have HV2 := hid hv2
            clear hv2
            go_wp2_with fail
            go_meet
            case rel => exact ⟨by rw [HV2.out]; rfl, by rw [HV2.out]; rfl, HM.out.bel, by rw [HV2.out]; intro h; cases h⟩
          · have HS := hid hs
            have HT := hid ht
            have q0 := HM.out.here.c0
            have q1 := HM.out.here.c1
            have q2 := HM.out.here.c2
            have q3 := HM.out.here.c3
            have q4 := HM.out.here.c4
            have z0 := HM.out.want.c0
            have z1 := HM.out.want.c1
            have z2 := HM.out.want.c2
            have z3 := HM.out.want.c3
            have z4 := HM.out.want.c4
            have zf := HM.out.want.fz
            have HF := hid (show freeFor 0 xs i = true by simp [freeFor, prIdx_zero])
            by_cases hx0 : x.pr = 0
            · have f2 := eq_of hx0
              have f3 := beq_of hx0
              have HX0 := hid hx0
              clear hx0
              cases hr : (tt.toList == [114, 101, 97, 100, 121])
              · have HV2 := hid (show v = ⟨false, true, 0, zeroIss⟩ from by rw [← HV.out]; exact verAt_nopr HS.out HT.out HX0.out hr)
                go_wp2_with fail
                go_meet
                case rel => exact ⟨by rw [HV2.out], by rw [HV2.out], HM.out.bel, by rw [HV2.out]; intro h; cases h⟩
              · have hRD := hr
                clear hRD
                have HV2 := hid (show v = good n 0 tt i x from by rw [← HV.out]; exact verAt_good0 HS.out HT.out HF.out (fun _ => hr))
                have HW := hid (want_ready (n := n) (i := i) (x := x) hr)
                go_wp2_with fail
                go_meet
                case rel => 
                  have e1 := HV2.out
                  have e2 := HW.out
                  rw [e1]
                  exact ⟨rfl, rfl, want_below HM.out (put5_grown (put5 wc W.heap.size x) W.heap.size ⟨n, sReady, 0, 0, ⟨#[]⟩⟩), fun _ => by rw [e2]; exact (put5_at (put5_at HM.out.want x) ⟨n, sReady, 0, 0, ⟨#[]⟩⟩)⟩
            · have f2 := ne_of hx0
              cases hr : (tt.toList == [114, 101, 97, 100, 121])
              · cases hd : (tt.toList == [100, 111, 110, 101])
                · have hRD := hr
                  clear hRD
                  have HV2 := hid (show v = good n 0 tt i x from by rw [← HV.out]; exact verAt_good0 HS.out HT.out HF.out (fun h => absurd h hx0))
                  have HW := hid (want_other0 (n := n) (i := i) (x := x) hr hd)
                  go_wp2_with fail
                  go_meet
                  case rel => 
                    have e1 := HV2.out
                    have e2 := HW.out
                    rw [e1]
                    exact ⟨rfl, rfl, want_below HM.out (grown_setCell (grown_setCell (World.grownBy.refl _ _))), fun _ => by rw [e2]; exact (IssAt.set (o := 2) (v := .int .i64 0) (y := ⟨x.issue, tt, 0, x.pr, x.branch⟩) (IssAt.set (o := 1) (v := .string tt) (y := ⟨x.issue, tt, x.fixes, x.pr, x.branch⟩) (put5_at HM.out.want x) rfl) rfl)⟩
                · have hRD := hr
                  clear hRD
                  have HV2 := hid (show v = good n 0 tt i x from by rw [← HV.out]; exact verAt_good0 HS.out HT.out HF.out (fun h => absurd h hx0))
                  have HW := hid (want_done0 (n := n) (i := i) (x := x) hr hd)
                  go_wp2_with fail
                  go_meet
                  case rel => 
                    have e1 := HV2.out
                    have e2 := HW.out
                    rw [e1]
                    exact ⟨rfl, rfl, want_below HM.out (grown_setCell (World.grownBy.refl _ _)), fun _ => by rw [e2]; exact (IssAt.set (o := 1) (v := .string sDone) (y := ⟨x.issue, sDone, x.fixes, x.pr, x.branch⟩) (put5_at HM.out.want x) rfl)⟩
              · have hRD := hr
                clear hRD
                have HV2 := hid (show v = good n 0 tt i x from by rw [← HV.out]; exact verAt_good0 HS.out HT.out HF.out (fun h => absurd h hx0))
                have HW := hid (want_ready (n := n) (i := i) (x := x) hr)
                go_wp2_with fail
                go_meet
                case rel => 
                  have e1 := HV2.out
                  have e2 := HW.out
                  rw [e1]
                  exact ⟨rfl, rfl, want_below HM.out (put5_grown (put5 wc W.heap.size x) W.heap.size ⟨n, sReady, 0, 0, ⟨#[]⟩⟩), fun _ => by rw [e2]; exact (put5_at (put5_at HM.out.want x) ⟨n, sReady, 0, 0, ⟨#[]⟩⟩)⟩
end Go.Proofs.YbulkatmkFmt
