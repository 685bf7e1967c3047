/-
  The law's walk: the stages of its body: the comparisons.
-/
import Derived.Test.YbulkatmkFmtBuilt
import Derived.Deep.DeepCutAuto
import Derived.BigQuiet
import Derived.Deep.QuietTactic
import Derived.WalkSmall
namespace Go.Proofs.YbulkatmkFmt
open Go.ChangeShapes Go.WideShapes Go.ChangeAt Go.RowKit Go.Extern.Stop Go.Stop

/-- What is left of a sequence behind its first k parts. -/
def dropC : Nat → Code → Code
  | 0, c => c
  | k + 1, .seq _ b => dropC k b
  | _, c => c

def codeOf (f : Func) : Code := f.body.getD .skip

/-- What the law's call leaves. -/
def LawPost (w0 : World) (e : Ending) (w' : World) : Prop := e = .returned (.bool true) ∧ Below w0.heap.size w0 w'

/-- The ledger and the row 'before' as the comparisons meet them. -/
structure Cmp (W : World) (B n : Nat) (ao : Option Addr) (cv R : Nat) (q : Nat → Nat) (xs ys : List Iss) : Prop where
  len : xs.length = n
  small : n ≤ 1024
  leny : ys.length = n
  led : W.cell? ⟨B, 0, none⟩ = some (.slice ao n cv)
  addr : 0 < n → ao = some ⟨R, 0, none⟩
  ptr : ∀ i, i < n → W.cell? ⟨R, i, none⟩ = some (.pointer (some ⟨q i, 0, none⟩))
  iss : ∀ j y, ys[j]? = some y → IssAt W (q j) y
  b0 : ∀ j x, xs[j]? = some x → W.cell? ⟨B + 1, j * 5, none⟩ = some (.int .i64 x.issue)
  b1 : ∀ j x, xs[j]? = some x → W.cell? ⟨B + 1, j * 5 + 1, none⟩ = some (.string x.state)
  b2 : ∀ j x, xs[j]? = some x → W.cell? ⟨B + 1, j * 5 + 2, none⟩ = some (.int .i64 x.fixes)
  b3 : ∀ j x, xs[j]? = some x → W.cell? ⟨B + 1, j * 5 + 3, none⟩ = some (.int .i64 x.pr)
  b4 : ∀ j x, xs[j]? = some x → W.cell? ⟨B + 1, j * 5 + 4, none⟩ = some (.string x.branch)

set_option maxRecDepth 100000 in
set_option maxHeartbeats 1600000 in
theorem stageE_bad (w0 W : World) (B n cv R gp : Nat) (ao : Option Addr) (q : Nat → Nat) (xs : List Iss) (er : Value) (nopr : Bool) {u0 u1 u2 u3 u4 u5 u6 u7 u8 u9 u10 u11 u12 u15 u16 u17 u19 u22 u23 u26 u27 u28 u29 u30 u31 u32 u33 u34 u35 u36 u37 u38 u39 u40 u41 u42 u43 u44 u45 u46 u47 u48 u49 u50 u51 u52 u53 u54 u55 u56 u57 u58 u59 u60 u61 u62 u63 u64 u65 u66 u67 u68 u69 u70 u71 u72 u73 u74 u75 u76 u77 u78 u79 u80 u81 u82 u83 u84 u85 u86 u87 u88 u89 u90 u91 u92 u93 u94 u95 u96 u97 u98 u99 u100 u101 u102 u103 u104 u105 u106 u107 u108 u109 u110 u111 u112 u113 u114 u115 u116 u117 u118 u119 u120 u121 u122 u123 u124 u125 u126 u127 u128 u129 u130 u131 u132 u133 u134 u135 u136 u137 u138 u139 u140 u141 u142 u143 u144 u145 u146 u147 u148 u149 u150 u151 u152 u153 u154 u155 u156 u157 u158 u159 u160 u161 u162 u163 u164 u165 u166 u167 u168 u169 u170 u171 u172 u173 u174 u175 u176 u177 u178 u179 u180 u181 u182 u183 u184 u185 u186 u187 u188 u189 u190 u191 u192 u193 u194 u195 u196 u197 u198 u199 u200 u201 u202 u203 u204 u205 u206 u207 u208 u209 u210 u211 u212 u213 u214 u215 u216 u217 u218 u219 u220 u221 u222 u223 u224 u225 u226 u227 u228 u229 u230 u231 u232 u233 u234 u235 u236 u237 u238 u239 u240 u241 u242 u243 u244 u245 u246 u247 u248 u249 u250 u251 u252 u253 u254 u255 u256 u257 u258 u259 u260 u261 u262 u263 u264 u265 u266 u267 u268 u269 u270 u271 u272 u273 u274 u275 u276 u277 u278 u279 u280 u281 u282 u283 u284 u285 u286 u287 u288 u289 u290 u291 u292 u293 u294 u295 u296 u297 u298 u299 u300 u301 u302 u303 u304 u305 u306 u307 u308 u309 u310 u311 u312 u313 u314 u315 u316 u317 u318 u319 : Value}
    (hb : Below w0.heap.size w0 W) (h : Cmp W B n ao cv R q xs xs) (hgot : IssAt W gp zeroIss) (ea : Addr) (te : TypeId) (pe : Option Addr) (hee : er = .iface te (.pointer pe)) (hE : W.cell? ⟨0, 0, none⟩ = some (.iface 104 (.pointer (some ea))))
    (hIs : Calls Ybaf.prog 8 #[er, .iface 104 (.pointer (some ea))] W fun e w' => e = .returned (.bool nopr) ∧ W = w') :
    Code.wp Ybaf.prog (dropC 16 (codeOf Ybaf.f3)) (bodyPost Ybaf.prog Ybaf.f3 (LawPost w0)) ⟨#[u0, u1, u2, u3, u4, u5, u6, u7, u8, u9, u10, u11, u12, .pointer (some ⟨B, 0, none⟩), .slice (some ⟨B + 1, 0, none⟩) n n, u15, u16, u17, .int .i64 n, u19, .pointer (some ⟨gp, 0, none⟩), er, u22, u23, .bool false, .bool nopr, u26, u27, u28, u29, u30, u31, u32, u33, u34, u35, u36, u37, u38, u39, u40, u41, u42, u43, u44, u45, u46, u47, u48, u49, u50, u51, u52, u53, u54, u55, u56, u57, u58, u59, u60, u61, u62, u63, u64, u65, u66, u67, u68, u69, u70, u71, u72, u73, u74, u75, u76, u77, u78, u79, u80, u81, u82, u83, u84, u85, u86, u87, u88, u89, u90, u91, u92, u93, u94, u95, u96, u97, u98, u99, u100, u101, u102, u103, u104, u105, u106, u107, u108, u109, u110, u111, u112, u113, u114, u115, u116, u117, u118, u119, u120, u121, u122, u123, u124, u125, u126, u127, u128, u129, u130, u131, u132, u133, u134, u135, u136, u137, u138, u139, u140, u141, u142, u143, u144, u145, u146, u147, u148, u149, u150, u151, u152, u153, u154, u155, u156, u157, u158, u159, u160, u161, u162, u163, u164, u165, u166, u167, u168, u169, u170, u171, u172, u173, u174, u175, u176, u177, u178, u179, u180, u181, u182, u183, u184, u185, u186, u187, u188, u189, u190, u191, u192, u193, u194, u195, u196, u197, u198, u199, u200, u201, u202, u203, u204, u205, u206, u207, u208, u209, u210, u211, u212, u213, u214, u215, u216, u217, u218, u219, u220, u221, u222, u223, u224, u225, u226, u227, u228, u229, u230, u231, u232, u233, u234, u235, u236, u237, u238, u239, u240, u241, u242, u243, u244, u245, u246, u247, u248, u249, u250, u251, u252, u253, u254, u255, u256, u257, u258, u259, u260, u261, u262, u263, u264, u265, u266, u267, u268, u269, u270, u271, u272, u273, u274, u275, u276, u277, u278, u279, u280, u281, u282, u283, u284, u285, u286, u287, u288, u289, u290, u291, u292, u293, u294, u295, u296, u297, u298, u299, u300, u301, u302, u303, u304, u305, u306, u307, u308, u309, u310, u311, u312, u313, u314, u315, u316, u317, u318, u319], []⟩ W := by
  have l0 := h.led
  have g0 : W.cell? ⟨gp, 0, none⟩ = some (.int .i64 0) := hgot.c0
  have g1 : W.cell? ⟨gp, 1, none⟩ = some (.string ⟨#[]⟩) := hgot.c1
  have g2 : W.cell? ⟨gp, 2, none⟩ = some (.int .i64 0) := hgot.c2
  have g3 : W.cell? ⟨gp, 3, none⟩ = some (.int .i64 0) := hgot.c3
  have g4 : W.cell? ⟨gp, 4, none⟩ = some (.string ⟨#[]⟩) := hgot.c4
  have HC := hid h
  have HB := hid hb
  have hsm := h.small
  clear h hgot hb
  subst hee
  generalize hQ : bodyPost Ybaf.prog Ybaf.f3 (LawPost w0) = Q
  simp only [dropC, codeOf, Ybaf.f3, Option.getD_some]
  subst hQ
  have HIs := hid hIs
  clear hIs
  have hnn : (!(nopr == nopr)) = false := by cases nopr <;> rfl
  rcases Nat.eq_zero_or_pos n with h0 | h0
  · subst h0
    go_wp2_with fail
    refine HIs.out.mono ?_
    rintro e w' ⟨rfl, rfl⟩
    go_wp2_with fail
    refine wp_loop_rounds 1 ?_
    rw [rounds_succ]
    go_wp2_with fail
    go_ret
    exact ⟨rfl, HB.out⟩
  have hao := HC.out.addr h0
  subst hao
  go_wp2_with fail
  refine HIs.out.mono ?_
  rintro e w' ⟨rfl, rfl⟩
  clear HIs g0 g1 g2 g3 g4 hE hnn
  go_wp2_with fail
  go_loopw [261] (fun i wr => ∃ k m : Nat, k ≤ n ∧ i = .int .i64 k ∧ wr = W.drewN m) (fun i _ => n - (intOf i).toNat)
  case atStart => exact ⟨0, 0, by omega, rfl, rfl⟩
  case round =>
    obtain ⟨k, m, hk, rfl, rfl⟩ := hrel
    rcases Nat.lt_or_ge k n with hlt | hge
    · have hl := HC.out.len
      obtain ⟨x, hx⟩ : ∃ x, xs[k]? = some x := ⟨xs[k]'(by omega), by simp [show k < xs.length by omega]⟩
      have p0 := HC.out.ptr k hlt
      have i0 := (HC.out.iss k x hx).c0
      have i1 := (HC.out.iss k x hx).c1
      have i2 := (HC.out.iss k x hx).c2
      have i3 := (HC.out.iss k x hx).c3
      have i4 := (HC.out.iss k x hx).c4
      have b0 := HC.out.b0 k x hx
      have b1 := HC.out.b1 k x hx
      have b2 := HC.out.b2 k x hx
      have b3 := HC.out.b3 k x hx
      have b4 := HC.out.b4 k x hx
      have t1 : (k : Int) < (n : Int) := by omega
      clear hx hl
      go_wp2_with fail
      go_quiet (fail)
      go_wp2_with fail
      exact ⟨⟨k + 1, m + nq, by omega, rfl, rfl⟩, by simp [intOf]; omega⟩
    · have : k = n := by omega
      subst this
      go_wp2_with fail
      go_ret
      exact ⟨rfl, below_drewN HB.out m⟩

set_option maxRecDepth 100000 in
set_option maxHeartbeats 1600000 in
theorem stageE_ok (w0 W : World) (B n cv R gp wp i : Nat) (ao : Option Addr) (q : Nat → Nat) (xs : List Iss) (want : Iss) {u0 u1 u2 u3 u4 u5 u6 u7 u8 u9 u10 u11 u12 u15 u16 u17 u19 u23 u25 u27 u28 u29 u30 u31 u32 u33 u34 u35 u36 u37 u38 u39 u40 u41 u42 u43 u44 u45 u46 u47 u48 u49 u50 u51 u52 u53 u54 u55 u56 u57 u58 u59 u60 u61 u62 u63 u64 u65 u66 u67 u68 u69 u70 u71 u72 u73 u74 u75 u76 u77 u78 u79 u80 u81 u82 u83 u84 u85 u86 u87 u88 u89 u90 u91 u92 u93 u94 u95 u96 u97 u98 u99 u100 u101 u102 u103 u104 u105 u106 u107 u108 u109 u110 u111 u112 u113 u114 u115 u116 u117 u118 u119 u120 u121 u122 u123 u124 u125 u126 u127 u128 u129 u130 u131 u132 u133 u134 u135 u136 u137 u138 u139 u140 u141 u142 u143 u144 u145 u146 u147 u148 u149 u150 u151 u152 u153 u154 u155 u156 u157 u158 u159 u160 u161 u162 u163 u164 u165 u166 u167 u168 u169 u170 u171 u172 u173 u174 u175 u176 u177 u178 u179 u180 u181 u182 u183 u184 u185 u186 u187 u188 u189 u190 u191 u192 u193 u194 u195 u196 u197 u198 u199 u200 u201 u202 u203 u204 u205 u206 u207 u208 u209 u210 u211 u212 u213 u214 u215 u216 u217 u218 u219 u220 u221 u222 u223 u224 u225 u226 u227 u228 u229 u230 u231 u232 u233 u234 u235 u236 u237 u238 u239 u240 u241 u242 u243 u244 u245 u246 u247 u248 u249 u250 u251 u252 u253 u254 u255 u256 u257 u258 u259 u260 u261 u262 u263 u264 u265 u266 u267 u268 u269 u270 u271 u272 u273 u274 u275 u276 u277 u278 u279 u280 u281 u282 u283 u284 u285 u286 u287 u288 u289 u290 u291 u292 u293 u294 u295 u296 u297 u298 u299 u300 u301 u302 u303 u304 u305 u306 u307 u308 u309 u310 u311 u312 u313 u314 u315 u316 u317 u318 u319 : Value}
    (hb : Below w0.heap.size w0 W) (h : Cmp W B n ao cv R q xs (xs.set i want)) (hgot : IssAt W gp want) (hwant : IssAt W wp want) (hi : i < n) :
    Code.wp Ybaf.prog (dropC 16 (codeOf Ybaf.f3)) (bodyPost Ybaf.prog Ybaf.f3 (LawPost w0)) ⟨#[u0, u1, u2, u3, u4, u5, u6, u7, u8, u9, u10, u11, u12, .pointer (some ⟨B, 0, none⟩), .slice (some ⟨B + 1, 0, none⟩) n n, u15, u16, u17, .int .i64 n, u19, .pointer (some ⟨gp, 0, none⟩), .nilIface, .int .i64 i, u23, .bool true, u25, .pointer (some ⟨wp, 0, none⟩), u27, u28, u29, u30, u31, u32, u33, u34, u35, u36, u37, u38, u39, u40, u41, u42, u43, u44, u45, u46, u47, u48, u49, u50, u51, u52, u53, u54, u55, u56, u57, u58, u59, u60, u61, u62, u63, u64, u65, u66, u67, u68, u69, u70, u71, u72, u73, u74, u75, u76, u77, u78, u79, u80, u81, u82, u83, u84, u85, u86, u87, u88, u89, u90, u91, u92, u93, u94, u95, u96, u97, u98, u99, u100, u101, u102, u103, u104, u105, u106, u107, u108, u109, u110, u111, u112, u113, u114, u115, u116, u117, u118, u119, u120, u121, u122, u123, u124, u125, u126, u127, u128, u129, u130, u131, u132, u133, u134, u135, u136, u137, u138, u139, u140, u141, u142, u143, u144, u145, u146, u147, u148, u149, u150, u151, u152, u153, u154, u155, u156, u157, u158, u159, u160, u161, u162, u163, u164, u165, u166, u167, u168, u169, u170, u171, u172, u173, u174, u175, u176, u177, u178, u179, u180, u181, u182, u183, u184, u185, u186, u187, u188, u189, u190, u191, u192, u193, u194, u195, u196, u197, u198, u199, u200, u201, u202, u203, u204, u205, u206, u207, u208, u209, u210, u211, u212, u213, u214, u215, u216, u217, u218, u219, u220, u221, u222, u223, u224, u225, u226, u227, u228, u229, u230, u231, u232, u233, u234, u235, u236, u237, u238, u239, u240, u241, u242, u243, u244, u245, u246, u247, u248, u249, u250, u251, u252, u253, u254, u255, u256, u257, u258, u259, u260, u261, u262, u263, u264, u265, u266, u267, u268, u269, u270, u271, u272, u273, u274, u275, u276, u277, u278, u279, u280, u281, u282, u283, u284, u285, u286, u287, u288, u289, u290, u291, u292, u293, u294, u295, u296, u297, u298, u299, u300, u301, u302, u303, u304, u305, u306, u307, u308, u309, u310, u311, u312, u313, u314, u315, u316, u317, u318, u319], []⟩ W := by
  have l0 := h.led
  have g0 := hgot.c0
  have g1 := hgot.c1
  have g2 := hgot.c2
  have g3 := hgot.c3
  have g4 := hgot.c4
  have v0 := hwant.c0
  have v1 := hwant.c1
  have v2 := hwant.c2
  have v3 := hwant.c3
  have v4 := hwant.c4
  have HC := hid h
  have HB := hid hb
  have hsm := h.small
  have hao := h.addr (by omega)
  clear h hgot hwant hb
  subst hao
  generalize hQ : bodyPost Ybaf.prog Ybaf.f3 (LawPost w0) = Q
  simp only [dropC, codeOf, Ybaf.f3, Option.getD_some]
  subst hQ
  go_wp2_with fail
  clear g0 g1 g2 g3 g4
  go_loopw [288] (fun j wr => ∃ k m : Nat, k ≤ n ∧ j = .int .i64 k ∧ wr = W.drewN m) (fun j _ => n - (intOf j).toNat)
  case atStart => exact ⟨0, 0, by omega, rfl, rfl⟩
  case round =>
    obtain ⟨k, m, hk, rfl, rfl⟩ := hrel
    rcases Nat.lt_or_ge k n with hlt | hge
    · have hl := HC.out.len
      have hly := HC.out.leny
      have p0 := HC.out.ptr k hlt
      have t1 : (k : Int) < (n : Int) := by omega
      by_cases hki : k = i
      · have hy : (xs.set i want)[k]? = some want := by rw [hki, List.getElem?_set]; simp [show i < xs.length by omega]
        have i0 := (HC.out.iss k want hy).c0
        have i1 := (HC.out.iss k want hy).c1
        have i2 := (HC.out.iss k want hy).c2
        have i3 := (HC.out.iss k want hy).c3
        have i4 := (HC.out.iss k want hy).c4
        have t2 : ((k : Int) == (i : Int)) = true := by simp [hki]
        clear hy hl hly hki
        go_wp2_with fail
        go_quiet (fail)
        go_wp2_with fail
        exact ⟨⟨k + 1, m + nq, by omega, rfl, rfl⟩, by simp [intOf]; omega⟩
      · obtain ⟨x, hx⟩ : ∃ x, xs[k]? = some x := ⟨xs[k]'(by omega), by simp [show k < xs.length by omega]⟩
        have hy : (xs.set i want)[k]? = some x := by rw [List.getElem?_set_ne (by omega)]; exact hx
        have i0 := (HC.out.iss k x hy).c0
        have i1 := (HC.out.iss k x hy).c1
        have i2 := (HC.out.iss k x hy).c2
        have i3 := (HC.out.iss k x hy).c3
        have i4 := (HC.out.iss k x hy).c4
        have b0 := HC.out.b0 k x hx
        have b1 := HC.out.b1 k x hx
        have b2 := HC.out.b2 k x hx
        have b3 := HC.out.b3 k x hx
        have b4 := HC.out.b4 k x hx
        have t2 : ((k : Int) == (i : Int)) = false := by simp; omega
        clear hx hl hly hy hki
        go_wp2_with fail
        go_quiet (fail)
        go_wp2_with fail
        exact ⟨⟨k + 1, m + nq, by omega, rfl, rfl⟩, by simp [intOf]; omega⟩
    · have : k = n := by omega
      subst this
      go_wp2_with fail
      go_ret
      exact ⟨rfl, below_drewN HB.out m⟩

end Go.Proofs.YbulkatmkFmt
