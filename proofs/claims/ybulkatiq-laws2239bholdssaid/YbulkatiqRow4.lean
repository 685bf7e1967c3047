/-
  join: the pairs of quiet classes.
-/
import Derived.Test.YbulkatiqRow2
import Derived.Test.YbulkatiqRow5
set_option linter.unusedVariables false
set_option linter.unusedSimpArgs false
namespace Go.Proofs.Ybulkatiq
open Go.ChangeShapes Go.WideShapes Go.ChangeAt Go.RowKit Go.Maps Go.WideMaps

theorem wrap64p {x y z : Nat} (hxy : z = x + y) (h : z ≤ 65536) : IntKind.i64.wrap ((x : Int) + (y : Int)) = (z : Int) := by
  simp [IntKind.wrap, IntKind.bits, IntKind.signed]
  omega

set_option maxRecDepth 100000 in
set_option maxHeartbeats 12800000 in
theorem rowJ4 {w W : World} {base bx jb mb cx ax ay rs qx n mc made g ca cb cm na nb : Nat} {jc : Array Value} {marks cand : List Nat} {cv q0 q1 fromv atv of0 of1 va vb : Value} {Q0 Q1 : List Nat} {fr : List (Nat × Nat)} {L0 L1 : Nat → List Nat} {U0 U1 : Nat → Value} {la lb : List (Nat × Nat)} {opf : Nat → Nat → Nat}
    (hJ : JQ w W base bx jb mb cx ax ay rs qx jc n mc made ca cb va vb marks cand cv q0 q1 Q0 Q1)
    (hD : ∀ W', Fr2 jb mb w W' → RD W' fromv atv of0 of1 va vb fr L0 L1 U0 U1 na nb la lb) (hS : RJS fr L0 L1 n na nb) (j0 : jc[0]? = some (.func (.func g) #[] #[])) (j1 : jc[1]? = some fromv) (j2 : jc[2]? = some atv) (j3 : jc[3]? = some of0) (j4 : jc[4]? = some of1) (j5 : jc[5]? = some (.int .i32 (n : Nat))) (hop : OpOk g opf) (heg : ∀ args w, (callFunc g args).run Yba.prog w = .ok (.enter g args) w)
    (hoa : RowOk na ca la) (hob : RowOk nb cb lb) (hna : na ≤ 16) (hnb : nb ≤ 16) (hn : n ≤ 12) (hcm : cm < 4) (hq0 : ∀ k ∈ Q0, k < na) (hq1 : ∀ k ∈ Q1, k < nb) (hi0 : Incr Q0) (hi1 : Incr Q1) (hl0 : Q0.length ≤ 16) (hl1 : Q1.length ≤ 16) (hqn : Q0 ≠ [] → Q1 ≠ [] → ¬ (na = 1 ∨ nb = 1))
    {RR : Ending → World → Prop} (hRR : ∀ cand' e w', (∀ x, x ∈ cand → x ∈ cand') → QComp fr Q0 Q1 cand' → JoinPost w jb mb n made jc cand' (cellJ opf fr ca cb la lb) cm e w' → RR e w')
    {u0 u1 u2 u11 u12 u13 u14 u15 u16 u17 u18 u19 u20 u21 u22 u23 u24 u25 u26 u27 u28 u29 u30 u31 u32 u33 u34 u35 u36 u37 u38 u39 u40 u41 u42 u43 u44 u45 u46 u47 u48 u49 u50 u51 u52 u53 u54 u55 u56 u57 u58 u59 u60 u61 u62 u63 u64 u65 u66 u67 u68 u69 u70 u71 u72 u73 u74 u75 u76 u77 u78 u79 u80 u81 u82 u83 u84 u85 u86 u87 u88 u89 u90 u91 u92 u93 u94 u95 u96 u97 u98 u99 u100 u101 u102 u103 u104 u105 u106 u107 u108 u109 u110 u111 u112 u113 u114 u115 u116 u117 u118 u119 u120 u121 u122 u123 u124 u125 u126 u127 u128 u129 u130 u131 u132 u133 u134 u135 u136 u137 u138 u139 u140 u141 u142 u143 u144 u145 u146 u147 u148 u149 u150 u151 u152 u153 u154 u155 u156 u157 u158 u159 u160 u161 u162 u163 u164 u165 u166 u167 u168 u169 u170 u171 u172 u173 u174 u175 u176 u177 u178 u179 u180 u181 u182 u183 u184 u185 u186 u187 u188 u189 u190 u191 u192 u193 u194 u195 u196 u197 u198 u199 u200 u201 u202 u203 u204 u205 u206 u207 u208 u209 u210 u211 u212 u213 u214 u215 u216 u217 u218 u219 u220 u221 u222 u223 u224 u225 u226 u227 u228 u229 u230 u231 u232 u233 u234 u235 u236 u237 u238 u239 u240 u241 u242 u243 u244 u245 u246 u247 u248 u249 u250 u251 u252 u253 u254 u255 u256 u257 u258 u259 u260 u261 u262 u263 u264 u265 u266 u267 u268 u269 u270 u271 u272 u273 u274 u275 u276 u277 u278 u279 u280 u281 u282 u283 u284 u285 u286 u287 u288 u289 u290 u291 u292 u293 u294 u295 u296 u297 u298 u299 : Value} :
    Code.wp Yba.prog (dropC 8 (codeOf Yba.f25)) (bodyPost Yba.prog Yba.f25 RR) ⟨#[u0, u1, u2, .pointer (some ⟨bx, 0, none⟩), .pointer (some ⟨ax, 0, none⟩), .pointer (some ⟨ay, 0, none⟩), .pointer (some ⟨rs, 0, none⟩), .int .u8 (cm : Nat), .pointer (some ⟨cx, 0, none⟩), .func (.func 30) #[] #[.pointer (some ⟨bx, 0, none⟩), .pointer (some ⟨cx, 0, none⟩)], .pointer (some ⟨qx, 0, none⟩), u11, u12, u13, u14, u15, u16, u17, u18, u19, u20, u21, u22, u23, u24, u25, u26, u27, u28, u29, u30, u31, u32, u33, u34, u35, u36, u37, u38, u39, u40, u41, u42, u43, u44, u45, u46, u47, u48, u49, u50, u51, u52, u53, u54, u55, u56, u57, u58, u59, u60, u61, u62, u63, u64, u65, u66, u67, u68, u69, u70, u71, u72, u73, u74, u75, u76, u77, u78, u79, u80, u81, u82, u83, u84, u85, u86, u87, u88, u89, u90, u91, u92, u93, u94, u95, u96, u97, u98, u99, u100, u101, u102, u103, u104, u105, u106, u107, u108, u109, u110, u111, u112, u113, u114, u115, u116, u117, u118, u119, u120, u121, u122, u123, u124, u125, u126, u127, u128, u129, u130, u131, u132, u133, u134, u135, u136, u137, u138, u139, u140, u141, u142, u143, u144, u145, u146, u147, u148, u149, u150, u151, u152, u153, u154, u155, u156, u157, u158, u159, u160, u161, u162, u163, u164, u165, u166, u167, u168, u169, u170, u171, u172, u173, u174, u175, u176, u177, u178, u179, u180, u181, u182, u183, u184, u185, u186, u187, u188, u189, u190, u191, u192, u193, u194, u195, u196, u197, u198, u199, u200, u201, u202, u203, u204, u205, u206, u207, u208, u209, u210, u211, u212, u213, u214, u215, u216, u217, u218, u219, u220, u221, u222, u223, u224, u225, u226, u227, u228, u229, u230, u231, u232, u233, u234, u235, u236, u237, u238, u239, u240, u241, u242, u243, u244, u245, u246, u247, u248, u249, u250, u251, u252, u253, u254, u255, u256, u257, u258, u259, u260, u261, u262, u263, u264, u265, u266, u267, u268, u269, u270, u271, u272, u273, u274, u275, u276, u277, u278, u279, u280, u281, u282, u283, u284, u285, u286, u287, u288, u289, u290, u291, u292, u293, u294, u295, u296, u297, u298, u299], []⟩ W := by
  have H5 := hid (fun (W' : World) (marks' cand' : List Nat) (cv' : Value) (hq : JQ w W' base bx jb mb cx ax ay rs qx jc n mc made ca cb va vb marks' cand' cv' q0 q1 Q0 Q1) (hsub : ∀ x, x ∈ cand → x ∈ cand') (hqc : QComp fr Q0 Q1 cand') =>
    @rowJ5 w W' base bx jb mb cx ax ay rs n mc made g ca cb cm na nb jc marks' cand' cv' fromv atv of0 of1 va vb fr L0 L1 U0 U1 la lb opf hq.jc hq.fr hq.hax hq.hay hq.hrs hq.wb.2 (hD W' hq.fr) j0 j1 j5 hop heg hS.len hoa hob hna hnb hn hcm RR (fun e w' h => hRR cand' e w' hsub hqc h))
  have HJ := hid hJ
  have HD := hid hD
  have HS := hid hS
  have k0 : W.cell? ⟨qx, 0, none⟩ = some q0 := by simp [World.cell?, hJ.hqx]
  have k1 : W.cell? ⟨qx, 1, none⟩ = some q1 := by simp [World.cell?, hJ.hqx]
  obtain ⟨a0, p0, hv0⟩ := owns_shape hJ.o0
  obtain ⟨a1, p1, hv1⟩ := owns_shape hJ.o1
  subst hv0
  subst hv1
  have HQN := hid hqn
  have HI0 := hid hi0
  have HI1 := hid hi1
  have HQ0 := hid hq0
  have HQ1 := hid hq1
  clear hJ hD hS hRR hop hoa hob hqn hi0 hi1 hq0 hq1
  generalize hQ : bodyPost Yba.prog Yba.f25 RR = Q
  have HQ := hid hQ
  clear hQ
  simp only [dropC, codeOf, Yba.f25, Option.getD_some]
  refine wp_seq_k (fun K hK => ?_)
  have HK := hid hK
  clear hK
  rcases Nat.eq_zero_or_pos Q0.length with z0 | z0
  · have hnil : Q0 = [] := List.eq_nil_of_length_eq_zero z0
    have t1 : ¬ (0 : Int) < (Q0.length : Int) := by omega
    have HQC := hid (show QComp fr Q0 Q1 cand from fun x k m _ hk => by rw [hnil] at hk; simp at hk)
    clear hnil
    go_wp2_with fail
    refine HK.out _ _ ?_
    rw [← HQ.out]
    exact H5.out W marks cand cv HJ.out (fun x h => h) HQC.out
  · have t1 : (0 : Int) < (Q0.length : Int) := by omega
    rcases Nat.eq_zero_or_pos Q1.length with z1 | z1
    · have hnil : Q1 = [] := List.eq_nil_of_length_eq_zero z1
      have t2 : ¬ (0 : Int) < (Q1.length : Int) := by omega
      have HQC := hid (show QComp fr Q0 Q1 cand from fun x k m _ _ hk => by rw [hnil] at hk; simp at hk)
      clear hnil
      go_wp2_with fail
      refine HK.out _ _ ?_
      rw [← HQ.out]
      exact H5.out W marks cand cv HJ.out (fun x h => h) HQC.out
    · have t2 : (0 : Int) < (Q1.length : Int) := by omega
      have HNN := hid (HQN.out (fun e => by rw [e] at z0; simp at z0) (fun e => by rw [e] at z1; simp at z1))
      go_upto_region 24 with fail
      have hb1 : Below W.heap.size W (W.alloc (.cells #[.int .i64 0, .int .i64 0] 86)) := below_al (Below.refl _ _) _
      have HS0 := hid (HJ.out.below hb1)
      have HT0 := hid (show (W.alloc (.cells #[.int .i64 0, .int .i64 0] 86)).heap[W.heap.size]? = some (.cells #[.int .i64 ((0 : Nat) : Int), .int .i64 ((0 : Nat) : Int)] 86 (0, 0)) from heap_new W _)
      have htb : base ≤ W.heap.size := HJ.out.jc.far.2.2.2
      have k0' : (W.alloc (.cells #[.int .i64 0, .int .i64 0] 86)).cell? ⟨qx, 0, none⟩ = some (.slice a0 Q0.length p0) := (hb1.cell (block_lt_of_cell k0)).trans k0
      have k1' : (W.alloc (.cells #[.int .i64 0, .int .i64 0] 86)).cell? ⟨qx, 1, none⟩ = some (.slice a1 Q1.length p1) := (hb1.cell (block_lt_of_cell k1)).trans k1
      clear hb1 k0 k1
      generalize W.alloc (.cells #[.int .i64 0, .int .i64 0] 86) = Wa at HS0 HT0 k0' k1' ⊢
      generalize W.heap.size = tx at HT0 htb ⊢
      go_upto_block 6 with fail
      clear k0' k1'
      go_cut [127] from 127 to 153 (fun _ wx => ∃ A Bt : Nat, A + Bt ≤ 512 ∧ JQ w wx base bx jb mb cx ax ay rs qx jc n mc made ca cb va vb marks cand cv (.slice a0 Q0.length p0) (.slice a1 Q1.length p1) Q0 Q1 ∧ wx.heap[tx]? = some (.cells #[.int .i64 (A : Nat), .int .i64 (Bt : Nat)] 86 (0, 0)))
      case first =>
        go_wp2_with fail
        go_loopw [127] (fun vs wr => ∃ sd A Bt : Nat, sd ≤ 2 ∧ A + Bt ≤ 256 * sd ∧ vs = .int .i64 sd ∧ JQ w wr base bx jb mb cx ax ay rs qx jc n mc made ca cb va vb marks cand cv (.slice a0 Q0.length p0) (.slice a1 Q1.length p1) Q0 Q1 ∧ wr.heap[tx]? = some (.cells #[.int .i64 (A : Nat), .int .i64 (Bt : Nat)] 86 (0, 0))) (fun vs _ => 2 - (intOf vs).toNat)
        case atStart => exact ⟨0, 0, 0, by omega, by omega, rfl, HS0.out, HT0.out⟩
        case round =>
          obtain ⟨sd, A, Bt, hsd, hAB, rfl, hjq, htx⟩ := hrel
          clear HS0 HT0
          have HS1 := hid hjq
          have HT1 := hid htx
          clear hjq htx
          have hix0 := idx84_0
          have hix1 := idx84_1
          match sd, hsd with
          | 0, _ =>
            have hAB := hAB
            go_upto_block 7 with fail
            go_cut [133] from 129 to 152 (fun _ wx => ∃ A Bt : Nat, A + Bt ≤ 256 ∧ JQ w wx base bx jb mb cx ax ay rs qx jc n mc made ca cb va vb marks cand cv (.slice a0 Q0.length p0) (.slice a1 Q1.length p1) Q0 Q1 ∧ wx.heap[tx]? = some (.cells #[.int .i64 (A : Nat), .int .i64 (Bt : Nat)] 86 (0, 0)))
            case first =>
              go_wp2_with fail
              go_loopw [133] (fun vi wr => ∃ i X : Nat, i ≤ Q0.length ∧ X ≤ A + i * 16 ∧ vi = .int .i64 i ∧ JQ w wr base bx jb mb cx ax ay rs qx jc n mc made ca cb va vb marks cand cv (.slice a0 Q0.length p0) (.slice a1 Q1.length p1) Q0 Q1 ∧ wr.heap[tx]? = some (.cells #[.int .i64 (X : Nat), .int .i64 (Bt : Nat)] 86 (0, 0))) (fun vi _ => Q0.length - (intOf vi).toNat)
              case atStart => exact ⟨0, A, by omega, by omega, rfl, HS1.out, HT1.out⟩
              case round =>
                obtain ⟨i, X, hi, hX, rfl, hjq, htx⟩ := hrel
                clear HS1 HT1
                have HS1 := hid hjq
                have HT1 := hid htx
                clear hjq htx
                rcases Nat.lt_or_ge i Q0.length with hlt2 | hge2
                · have t4 : (i : Int) < (Q0.length : Int) := by omega
                  have hx : Q0[i]? = some Q0[i] := by simp [hlt2]
                  obtain ⟨b1, o1, rfl, y0⟩ := (own_ints HS1.out.o0).one hx
                  have hkn := HQ0.out _ (List.mem_of_getElem? hx)
                  clear hx
                  generalize Q0[i] = k at *
                  obtain ⟨ob, oc, hov, hoe⟩ := (HD.out _ HS1.out.fr).o0
                  obtain ⟨hu, hiu⟩ := hoe k hkn
                  obtain ⟨ua, uc, hu2⟩ := hiu.shape
                  rw [hu2] at hu
                  have hls := HS.out.s0 k hkn
                  have hll : (L0 k).length ≤ 16 := hls
                  generalize (L0 k).length = ll at *
                  obtain ⟨X2, hX2⟩ : ∃ X2, X2 = X + ll := ⟨_, rfl⟩
                  have hw := wrap64p hX2 (by omega)
                  have t5 : (k : Int) < (na : Int) := by omega
                  have v1 : wr.drew.cell? ⟨bx, 0, none⟩ = some (.pointer (some ⟨jb, 0, none⟩)) := by show wr.cell? _ = _; simp [World.cell?, HS1.out.jc.bxk]
                  have v2 : wr.drew.cell? ⟨jb, 3, none⟩ = some (.slice (some ⟨ob, 0, none⟩) na oc) := by show wr.cell? _ = _; simp [World.cell?, HS1.out.jc.jbk, j3, hov]
                  have v3 : wr.drew.cell? ⟨ob, k, none⟩ = some (.slice ua ll uc) := hu
                  have v4 : wr.drew.cell? ⟨tx, 0, none⟩ = some (.int .i64 (X : Nat)) := by show wr.cell? _ = _; simp [World.cell?, HT1.out]
                  have v5 : ∀ j, wr.drew.frozen? ⟨tx, j, none⟩ = false := fun j => by show wr.frozen? _ = _; simp [World.frozen?, HT1.out]
                  have hg : wr.grownBy (wr.setCell ⟨tx, 0, none⟩ (.int .i64 (X2 : Nat))) (some tx) := grown_setCell (World.grownBy.refl wr _)
                  have hdr : Below (wr.setCell ⟨tx, 0, none⟩ (.int .i64 (X2 : Nat))).heap.size (wr.setCell ⟨tx, 0, none⟩ (.int .i64 (X2 : Nat))) (wr.setCell ⟨tx, 0, none⟩ (.int .i64 (X2 : Nat))).drew := Below.drew (Below.refl _ _)
                  have HS2 := hid ((HS1.out.turn hg HT1.out htb).below hdr)
                  have HT2 := hid (show (wr.setCell ⟨tx, 0, none⟩ (.int .i64 (X2 : Nat))).drew.heap[tx]? = some (.cells #[.int .i64 (X2 : Nat), .int .i64 (Bt : Nat)] 86 (0, 0)) from heap_setCell_same wr tx 0 _ 86 (.int .i64 (X2 : Nat)) HT1.out)
                  have HX2 := hid hX2
                  have n1' : (wr.setCell ⟨tx, 0, none⟩ (.int .i64 (X2 : Nat))).drew.cell? ⟨bx, 0, none⟩ = some (.pointer (some ⟨jb, 0, none⟩)) := (show (wr.setCell ⟨tx, 0, none⟩ (.int .i64 (X2 : Nat))).cell? ⟨bx, 0, none⟩ = some (.pointer (some ⟨jb, 0, none⟩)) from cell_kept (grown_setCell (World.grownBy.refl wr (some tx))) (show wr.cell? ⟨bx, 0, none⟩ = some (.pointer (some ⟨jb, 0, none⟩)) from v1) (ne_cc HS1.out.jc.bxk HT1.out (by decide)))
                  have n2' : (wr.setCell ⟨tx, 0, none⟩ (.int .i64 (X2 : Nat))).drew.cell? ⟨jb, 3, none⟩ = some (.slice (some ⟨ob, 0, none⟩) na oc) := (show (wr.setCell ⟨tx, 0, none⟩ (.int .i64 (X2 : Nat))).cell? ⟨jb, 3, none⟩ = some (.slice (some ⟨ob, 0, none⟩) na oc) from cell_kept (grown_setCell (World.grownBy.refl wr (some tx))) (show wr.cell? ⟨jb, 3, none⟩ = some (.slice (some ⟨ob, 0, none⟩) na oc) from v2) (ne_cc HS1.out.jc.jbk HT1.out (by decide)))
                  have n3' : (wr.setCell ⟨tx, 0, none⟩ (.int .i64 (X2 : Nat))).drew.cell? ⟨ob, k, none⟩ = some (.slice ua ll uc) := by
                    obtain ⟨ob2, oc2, hov2, hoe2⟩ := (HD.out _ HS2.out.fr).o0
                    have e := hov.symm.trans hov2
                    simp only [Value.slice.injEq, Option.some.injEq, Addr.mk.injEq, true_and, and_true] at e
                    obtain ⟨rfl, rfl⟩ := e
                    rw [← hu2]
                    exact (hoe2 k hkn).1
                  clear hg hdr hoe hu hiu hov hX2 hls hu2
                  go_upto_region 30 with fail
                  refine wp_region_noPanic ?_
                  refine wp_region_held_drew (S := fun W' => W'.cell? ⟨bx, 0, none⟩ = some (.pointer (some ⟨jb, 0, none⟩)) ∧ W'.cell? ⟨jb, 3, none⟩ = some (.slice (some ⟨ob, 0, none⟩) na oc) ∧ W'.cell? ⟨ob, k, none⟩ = some (.slice ua ll uc)) (by kernel_rfl) ⟨v1, v2, v3⟩ (fun hHeld => ?_)
                  refine wpAnyH_take (i := 0) (v := .int .i64 0) rfl (by kernel_rfl) (by kernel_rfl) (by kernel_rfl) (fun _ _ _ h => h) (Or.inl ⟨by rfl, fun W' hSw => by obtain ⟨hS1, hS2, hS3⟩ := hSw; go_simp⟩) hHeld ?_
                  simp only [Act.put, List.setIfInBounds_toArray, List.set_cons_zero, List.set_cons_succ]
                  refine wpAnyH_take (i := 1) (v := .pointer (some ⟨tx, 0, none⟩)) rfl (by kernel_rfl) (by kernel_rfl) (by kernel_rfl) (fun _ _ _ h => h) (Or.inl ⟨by rfl, fun W' hSw => by obtain ⟨hS1, hS2, hS3⟩ := hSw; go_simp⟩) hHeld ?_
                  simp only [Act.put, List.setIfInBounds_toArray, List.set_cons_zero, List.set_cons_succ]
                  refine wpAnyH_take (i := 3) (v := .pointer (some ⟨jb, 0, none⟩)) rfl (by kernel_rfl) (by kernel_rfl) (by kernel_rfl) (fun _ _ _ h => h) (Or.inl ⟨by rfl, fun W' hSw => by obtain ⟨hS1, hS2, hS3⟩ := hSw; go_simp⟩) hHeld ?_
                  simp only [Act.put, List.setIfInBounds_toArray, List.set_cons_zero, List.set_cons_succ]
                  refine wpAnyH_take (i := 4) (v := .int .i64 0) rfl (by kernel_rfl) (by kernel_rfl) (by kernel_rfl) (fun _ _ _ h => h) (Or.inl ⟨by rfl, fun W' hSw => by obtain ⟨hS1, hS2, hS3⟩ := hSw; go_simp⟩) hHeld ?_
                  simp only [Act.put, List.setIfInBounds_toArray, List.set_cons_zero, List.set_cons_succ]
                  refine wpAnyH_take (i := 5) (v := .pointer (some ⟨jb, 0, none⟩)) rfl (by kernel_rfl) (by kernel_rfl) (by kernel_rfl) (fun _ _ _ h => h) (Or.inl ⟨by rfl, fun W' hSw => by obtain ⟨hS1, hS2, hS3⟩ := hSw; go_simp⟩) hHeld ?_
                  simp only [Act.put, List.setIfInBounds_toArray, List.set_cons_zero, List.set_cons_succ]
                  refine wpAnyH_take (i := 6) (v := .pointer (some ⟨jb, 3, none⟩)) rfl (by kernel_rfl) (by kernel_rfl) (by kernel_rfl) (fun _ _ _ h => h) (Or.inl ⟨by rfl, fun W' hSw => by obtain ⟨hS1, hS2, hS3⟩ := hSw; go_simp⟩) hHeld ?_
                  simp only [Act.put, List.setIfInBounds_toArray, List.set_cons_zero, List.set_cons_succ]
                  refine wpAnyH_take (i := 7) (v := .pointer (some ⟨jb, 3, none⟩)) rfl (by kernel_rfl) (by kernel_rfl) (by kernel_rfl) (fun _ _ _ h => h) (Or.inl ⟨by rfl, fun W' hSw => by obtain ⟨hS1, hS2, hS3⟩ := hSw; go_simp⟩) hHeld ?_
                  simp only [Act.put, List.setIfInBounds_toArray, List.set_cons_zero, List.set_cons_succ]
                  refine wpAnyH_take (i := 8) (v := .slice (some ⟨ob, 0, none⟩) na oc) rfl (by kernel_rfl) (by kernel_rfl) (by kernel_rfl) (fun _ _ _ h => h) (Or.inl ⟨by rfl, fun W' hSw => by obtain ⟨hS1, hS2, hS3⟩ := hSw; go_simp⟩) hHeld ?_
                  simp only [Act.put, List.setIfInBounds_toArray, List.set_cons_zero, List.set_cons_succ]
                  refine wpAnyH_take (i := 9) (v := .int .i32 (k : Nat)) rfl (by kernel_rfl) (by kernel_rfl) (by kernel_rfl) (fun _ _ _ h => h) (Or.inl ⟨by rfl, fun W' hSw => by obtain ⟨hS1, hS2, hS3⟩ := hSw; go_simp⟩) hHeld ?_
                  simp only [Act.put, List.setIfInBounds_toArray, List.set_cons_zero, List.set_cons_succ]
                  refine wpAnyH_take (i := 10) (v := .pointer (some ⟨ob, k, none⟩)) rfl (by kernel_rfl) (by kernel_rfl) (by kernel_rfl) (fun _ _ _ h => h) (Or.inl ⟨by rfl, fun W' hSw => by obtain ⟨hS1, hS2, hS3⟩ := hSw; go_simp⟩) hHeld ?_
                  simp only [Act.put, List.setIfInBounds_toArray, List.set_cons_zero, List.set_cons_succ]
                  refine wpAnyH_take (i := 11) (v := .slice ua ll uc) rfl (by kernel_rfl) (by kernel_rfl) (by kernel_rfl) (fun _ _ _ h => h) (Or.inl ⟨by rfl, fun W' hSw => by obtain ⟨hS1, hS2, hS3⟩ := hSw; go_simp⟩) hHeld ?_
                  simp only [Act.put, List.setIfInBounds_toArray, List.set_cons_zero, List.set_cons_succ]
                  refine wpAnyH_take (i := 12) (v := .int .i64 (ll : Nat)) rfl (by kernel_rfl) (by kernel_rfl) (by kernel_rfl) (fun _ _ _ h => h) (Or.inl ⟨by rfl, fun W' hSw => by obtain ⟨hS1, hS2, hS3⟩ := hSw; go_simp⟩) hHeld ?_
                  simp only [Act.put, List.setIfInBounds_toArray, List.set_cons_zero, List.set_cons_succ]
                  refine wpAnyH_ready (rs := [2]) (by kernel_rfl) (by simp) ?_
                  refine AllReadyH.cons rfl (fun K hK => ?_) AllReadyH.nil
                  go_simp
                  refine hK.out _ _ ?_ (fun hHeld2 => ?_)
                  · exact ⟨v1, v2, v3⟩
                  clear hK K hHeld
                  have hHeld := hHeld2
                  clear hHeld2
                  try simp only [Act.put, List.setIfInBounds_toArray, List.set_cons_zero, List.set_cons_succ]
                  refine wpAnyH_take (i := 13) (v := .int .i64 (X2 : Nat)) rfl (by kernel_rfl) (by kernel_rfl) (by kernel_rfl) (fun _ _ _ h => h) (Or.inl ⟨by rfl, fun W' hSw => by obtain ⟨hS1, hS2, hS3⟩ := hSw; go_simp⟩) hHeld ?_
                  simp only [Act.put, List.setIfInBounds_toArray, List.set_cons_zero, List.set_cons_succ]
                  refine wpAnyH_take (i := 14) (v := .pointer (some ⟨tx, 0, none⟩)) rfl (by kernel_rfl) (by kernel_rfl) (by kernel_rfl) (fun _ _ _ h => h) (Or.inl ⟨by rfl, fun W' hSw => by obtain ⟨hS1, hS2, hS3⟩ := hSw; go_simp⟩) hHeld ?_
                  simp only [Act.put, List.setIfInBounds_toArray, List.set_cons_zero, List.set_cons_succ]
                  refine wpAnyH_ready (rs := [15]) (by kernel_rfl) (by simp) ?_
                  refine AllReadyH.cons rfl (fun K hK => ?_) AllReadyH.nil
                  go_simp
                  refine hK.out _ _ ?_ (fun hHeld2 => ?_)
                  · exact ⟨n1', n2', n3'⟩
                  clear hK K hHeld
                  have hHeld := hHeld2
                  clear hHeld2
                  try simp only [Act.put, List.setIfInBounds_toArray, List.set_cons_zero, List.set_cons_succ]
                  refine wpAnyH_done (by kernel_rfl) ?_ _
                  refine NoPanic.normal ?_
                  go_wp2_with fail
                  exact ⟨⟨_, _, _, _, _, _, _, _, _, _, _, _, _, _, _, _, _, _, _, _, _, ⟨i + 1, X2, by omega, by have := HX2.out; omega, rfl, HS2.out, HT2.out⟩, rfl⟩, by simp [intOf]; omega⟩
                · have : i = Q0.length := by omega
                  have t4 : ¬ (i : Int) < (Q0.length : Int) := by omega
                  go_wp2_with fail
                  go_meet
                  case rel => exact ⟨X, Bt, by omega, HS1.out, HT1.out⟩
            case rest =>
              obtain ⟨A2, B2, hA2, hjq, htx⟩ := hcut
              have HS2 := hid hjq
              have HT2 := hid htx
              clear hjq htx HS1 HT1
              go_wp2_with fail
              go_roundw
              case rel => exact ⟨1, A2, B2, by omega, by omega, rfl, HS2.out, HT2.out⟩
              case measure => simp [intOf]
          | 1, _ =>
            have hAB := hAB
            go_upto_block 7 with fail
            go_cut [133] from 129 to 152 (fun _ wx => ∃ A Bt : Nat, A + Bt ≤ 512 ∧ JQ w wx base bx jb mb cx ax ay rs qx jc n mc made ca cb va vb marks cand cv (.slice a0 Q0.length p0) (.slice a1 Q1.length p1) Q0 Q1 ∧ wx.heap[tx]? = some (.cells #[.int .i64 (A : Nat), .int .i64 (Bt : Nat)] 86 (0, 0)))
            case first =>
              go_wp2_with fail
              go_loopw [133] (fun vi wr => ∃ i X : Nat, i ≤ Q1.length ∧ X ≤ Bt + i * 16 ∧ vi = .int .i64 i ∧ JQ w wr base bx jb mb cx ax ay rs qx jc n mc made ca cb va vb marks cand cv (.slice a0 Q0.length p0) (.slice a1 Q1.length p1) Q0 Q1 ∧ wr.heap[tx]? = some (.cells #[.int .i64 (A : Nat), .int .i64 (X : Nat)] 86 (0, 0))) (fun vi _ => Q1.length - (intOf vi).toNat)
              case atStart => exact ⟨0, Bt, by omega, by omega, rfl, HS1.out, HT1.out⟩
              case round =>
                obtain ⟨i, X, hi, hX, rfl, hjq, htx⟩ := hrel
                clear HS1 HT1
                have HS1 := hid hjq
                have HT1 := hid htx
                clear hjq htx
                rcases Nat.lt_or_ge i Q1.length with hlt2 | hge2
                · have t4 : (i : Int) < (Q1.length : Int) := by omega
                  have hx : Q1[i]? = some Q1[i] := by simp [hlt2]
                  obtain ⟨b1, o1, rfl, y0⟩ := (own_ints HS1.out.o1).one hx
                  have hkn := HQ1.out _ (List.mem_of_getElem? hx)
                  clear hx
                  generalize Q1[i] = k at *
                  obtain ⟨ob, oc, hov, hoe⟩ := (HD.out _ HS1.out.fr).o1
                  obtain ⟨hu, hiu⟩ := hoe k hkn
                  obtain ⟨ua, uc, hu2⟩ := hiu.shape
                  rw [hu2] at hu
                  have hls := HS.out.s1 k hkn
                  have hll : (L1 k).length ≤ 16 := hls
                  generalize (L1 k).length = ll at *
                  obtain ⟨X2, hX2⟩ : ∃ X2, X2 = X + ll := ⟨_, rfl⟩
                  have hw := wrap64p hX2 (by omega)
                  have t5 : (k : Int) < (nb : Int) := by omega
                  have v1 : wr.drew.cell? ⟨bx, 0, none⟩ = some (.pointer (some ⟨jb, 0, none⟩)) := by show wr.cell? _ = _; simp [World.cell?, HS1.out.jc.bxk]
                  have v2 : wr.drew.cell? ⟨jb, 4, none⟩ = some (.slice (some ⟨ob, 0, none⟩) nb oc) := by show wr.cell? _ = _; simp [World.cell?, HS1.out.jc.jbk, j4, hov]
                  have v3 : wr.drew.cell? ⟨ob, k, none⟩ = some (.slice ua ll uc) := hu
                  have v4 : wr.drew.cell? ⟨tx, 1, none⟩ = some (.int .i64 (X : Nat)) := by show wr.cell? _ = _; simp [World.cell?, HT1.out]
                  have v5 : ∀ j, wr.drew.frozen? ⟨tx, j, none⟩ = false := fun j => by show wr.frozen? _ = _; simp [World.frozen?, HT1.out]
                  have hg : wr.grownBy (wr.setCell ⟨tx, 1, none⟩ (.int .i64 (X2 : Nat))) (some tx) := grown_setCell (World.grownBy.refl wr _)
                  have hdr : Below (wr.setCell ⟨tx, 1, none⟩ (.int .i64 (X2 : Nat))).heap.size (wr.setCell ⟨tx, 1, none⟩ (.int .i64 (X2 : Nat))) (wr.setCell ⟨tx, 1, none⟩ (.int .i64 (X2 : Nat))).drew := Below.drew (Below.refl _ _)
                  have HS2 := hid ((HS1.out.turn hg HT1.out htb).below hdr)
                  have HT2 := hid (show (wr.setCell ⟨tx, 1, none⟩ (.int .i64 (X2 : Nat))).drew.heap[tx]? = some (.cells #[.int .i64 (A : Nat), .int .i64 (X2 : Nat)] 86 (0, 0)) from heap_setCell_same wr tx 1 _ 86 (.int .i64 (X2 : Nat)) HT1.out)
                  have HX2 := hid hX2
                  have n1' : (wr.setCell ⟨tx, 1, none⟩ (.int .i64 (X2 : Nat))).drew.cell? ⟨bx, 0, none⟩ = some (.pointer (some ⟨jb, 0, none⟩)) := (show (wr.setCell ⟨tx, 1, none⟩ (.int .i64 (X2 : Nat))).cell? ⟨bx, 0, none⟩ = some (.pointer (some ⟨jb, 0, none⟩)) from cell_kept (grown_setCell (World.grownBy.refl wr (some tx))) (show wr.cell? ⟨bx, 0, none⟩ = some (.pointer (some ⟨jb, 0, none⟩)) from v1) (ne_cc HS1.out.jc.bxk HT1.out (by decide)))
                  have n2' : (wr.setCell ⟨tx, 1, none⟩ (.int .i64 (X2 : Nat))).drew.cell? ⟨jb, 4, none⟩ = some (.slice (some ⟨ob, 0, none⟩) nb oc) := (show (wr.setCell ⟨tx, 1, none⟩ (.int .i64 (X2 : Nat))).cell? ⟨jb, 4, none⟩ = some (.slice (some ⟨ob, 0, none⟩) nb oc) from cell_kept (grown_setCell (World.grownBy.refl wr (some tx))) (show wr.cell? ⟨jb, 4, none⟩ = some (.slice (some ⟨ob, 0, none⟩) nb oc) from v2) (ne_cc HS1.out.jc.jbk HT1.out (by decide)))
                  have n3' : (wr.setCell ⟨tx, 1, none⟩ (.int .i64 (X2 : Nat))).drew.cell? ⟨ob, k, none⟩ = some (.slice ua ll uc) := by
                    obtain ⟨ob2, oc2, hov2, hoe2⟩ := (HD.out _ HS2.out.fr).o1
                    have e := hov.symm.trans hov2
                    simp only [Value.slice.injEq, Option.some.injEq, Addr.mk.injEq, true_and, and_true] at e
                    obtain ⟨rfl, rfl⟩ := e
                    rw [← hu2]
                    exact (hoe2 k hkn).1
                  clear hg hdr hoe hu hiu hov hX2 hls hu2
                  go_upto_region 30 with fail
                  refine wp_region_noPanic ?_
                  refine wp_region_held_drew (S := fun W' => W'.cell? ⟨bx, 0, none⟩ = some (.pointer (some ⟨jb, 0, none⟩)) ∧ W'.cell? ⟨jb, 4, none⟩ = some (.slice (some ⟨ob, 0, none⟩) nb oc) ∧ W'.cell? ⟨ob, k, none⟩ = some (.slice ua ll uc)) (by kernel_rfl) ⟨v1, v2, v3⟩ (fun hHeld => ?_)
                  refine wpAnyH_take (i := 0) (v := .int .i64 1) rfl (by kernel_rfl) (by kernel_rfl) (by kernel_rfl) (fun _ _ _ h => h) (Or.inl ⟨by rfl, fun W' hSw => by obtain ⟨hS1, hS2, hS3⟩ := hSw; go_simp⟩) hHeld ?_
                  simp only [Act.put, List.setIfInBounds_toArray, List.set_cons_zero, List.set_cons_succ]
                  refine wpAnyH_take (i := 1) (v := .pointer (some ⟨tx, 1, none⟩)) rfl (by kernel_rfl) (by kernel_rfl) (by kernel_rfl) (fun _ _ _ h => h) (Or.inl ⟨by rfl, fun W' hSw => by obtain ⟨hS1, hS2, hS3⟩ := hSw; go_simp⟩) hHeld ?_
                  simp only [Act.put, List.setIfInBounds_toArray, List.set_cons_zero, List.set_cons_succ]
                  refine wpAnyH_take (i := 3) (v := .pointer (some ⟨jb, 0, none⟩)) rfl (by kernel_rfl) (by kernel_rfl) (by kernel_rfl) (fun _ _ _ h => h) (Or.inl ⟨by rfl, fun W' hSw => by obtain ⟨hS1, hS2, hS3⟩ := hSw; go_simp⟩) hHeld ?_
                  simp only [Act.put, List.setIfInBounds_toArray, List.set_cons_zero, List.set_cons_succ]
                  refine wpAnyH_take (i := 4) (v := .int .i64 1) rfl (by kernel_rfl) (by kernel_rfl) (by kernel_rfl) (fun _ _ _ h => h) (Or.inl ⟨by rfl, fun W' hSw => by obtain ⟨hS1, hS2, hS3⟩ := hSw; go_simp⟩) hHeld ?_
                  simp only [Act.put, List.setIfInBounds_toArray, List.set_cons_zero, List.set_cons_succ]
                  refine wpAnyH_take (i := 5) (v := .pointer (some ⟨jb, 0, none⟩)) rfl (by kernel_rfl) (by kernel_rfl) (by kernel_rfl) (fun _ _ _ h => h) (Or.inl ⟨by rfl, fun W' hSw => by obtain ⟨hS1, hS2, hS3⟩ := hSw; go_simp⟩) hHeld ?_
                  simp only [Act.put, List.setIfInBounds_toArray, List.set_cons_zero, List.set_cons_succ]
                  refine wpAnyH_take (i := 6) (v := .pointer (some ⟨jb, 3, none⟩)) rfl (by kernel_rfl) (by kernel_rfl) (by kernel_rfl) (fun _ _ _ h => h) (Or.inl ⟨by rfl, fun W' hSw => by obtain ⟨hS1, hS2, hS3⟩ := hSw; go_simp⟩) hHeld ?_
                  simp only [Act.put, List.setIfInBounds_toArray, List.set_cons_zero, List.set_cons_succ]
                  refine wpAnyH_take (i := 7) (v := .pointer (some ⟨jb, 4, none⟩)) rfl (by kernel_rfl) (by kernel_rfl) (by kernel_rfl) (fun _ _ _ h => h) (Or.inl ⟨by rfl, fun W' hSw => by obtain ⟨hS1, hS2, hS3⟩ := hSw; go_simp⟩) hHeld ?_
                  simp only [Act.put, List.setIfInBounds_toArray, List.set_cons_zero, List.set_cons_succ]
                  refine wpAnyH_take (i := 8) (v := .slice (some ⟨ob, 0, none⟩) nb oc) rfl (by kernel_rfl) (by kernel_rfl) (by kernel_rfl) (fun _ _ _ h => h) (Or.inl ⟨by rfl, fun W' hSw => by obtain ⟨hS1, hS2, hS3⟩ := hSw; go_simp⟩) hHeld ?_
                  simp only [Act.put, List.setIfInBounds_toArray, List.set_cons_zero, List.set_cons_succ]
                  refine wpAnyH_take (i := 9) (v := .int .i32 (k : Nat)) rfl (by kernel_rfl) (by kernel_rfl) (by kernel_rfl) (fun _ _ _ h => h) (Or.inl ⟨by rfl, fun W' hSw => by obtain ⟨hS1, hS2, hS3⟩ := hSw; go_simp⟩) hHeld ?_
                  simp only [Act.put, List.setIfInBounds_toArray, List.set_cons_zero, List.set_cons_succ]
                  refine wpAnyH_take (i := 10) (v := .pointer (some ⟨ob, k, none⟩)) rfl (by kernel_rfl) (by kernel_rfl) (by kernel_rfl) (fun _ _ _ h => h) (Or.inl ⟨by rfl, fun W' hSw => by obtain ⟨hS1, hS2, hS3⟩ := hSw; go_simp⟩) hHeld ?_
                  simp only [Act.put, List.setIfInBounds_toArray, List.set_cons_zero, List.set_cons_succ]
                  refine wpAnyH_take (i := 11) (v := .slice ua ll uc) rfl (by kernel_rfl) (by kernel_rfl) (by kernel_rfl) (fun _ _ _ h => h) (Or.inl ⟨by rfl, fun W' hSw => by obtain ⟨hS1, hS2, hS3⟩ := hSw; go_simp⟩) hHeld ?_
                  simp only [Act.put, List.setIfInBounds_toArray, List.set_cons_zero, List.set_cons_succ]
                  refine wpAnyH_take (i := 12) (v := .int .i64 (ll : Nat)) rfl (by kernel_rfl) (by kernel_rfl) (by kernel_rfl) (fun _ _ _ h => h) (Or.inl ⟨by rfl, fun W' hSw => by obtain ⟨hS1, hS2, hS3⟩ := hSw; go_simp⟩) hHeld ?_
                  simp only [Act.put, List.setIfInBounds_toArray, List.set_cons_zero, List.set_cons_succ]
                  refine wpAnyH_ready (rs := [2]) (by kernel_rfl) (by simp) ?_
                  refine AllReadyH.cons rfl (fun K hK => ?_) AllReadyH.nil
                  go_simp
                  refine hK.out _ _ ?_ (fun hHeld2 => ?_)
                  · exact ⟨v1, v2, v3⟩
                  clear hK K hHeld
                  have hHeld := hHeld2
                  clear hHeld2
                  try simp only [Act.put, List.setIfInBounds_toArray, List.set_cons_zero, List.set_cons_succ]
                  refine wpAnyH_take (i := 13) (v := .int .i64 (X2 : Nat)) rfl (by kernel_rfl) (by kernel_rfl) (by kernel_rfl) (fun _ _ _ h => h) (Or.inl ⟨by rfl, fun W' hSw => by obtain ⟨hS1, hS2, hS3⟩ := hSw; go_simp⟩) hHeld ?_
                  simp only [Act.put, List.setIfInBounds_toArray, List.set_cons_zero, List.set_cons_succ]
                  refine wpAnyH_take (i := 14) (v := .pointer (some ⟨tx, 1, none⟩)) rfl (by kernel_rfl) (by kernel_rfl) (by kernel_rfl) (fun _ _ _ h => h) (Or.inl ⟨by rfl, fun W' hSw => by obtain ⟨hS1, hS2, hS3⟩ := hSw; go_simp⟩) hHeld ?_
                  simp only [Act.put, List.setIfInBounds_toArray, List.set_cons_zero, List.set_cons_succ]
                  refine wpAnyH_ready (rs := [15]) (by kernel_rfl) (by simp) ?_
                  refine AllReadyH.cons rfl (fun K hK => ?_) AllReadyH.nil
                  go_simp
                  refine hK.out _ _ ?_ (fun hHeld2 => ?_)
                  · exact ⟨n1', n2', n3'⟩
                  clear hK K hHeld
                  have hHeld := hHeld2
                  clear hHeld2
                  try simp only [Act.put, List.setIfInBounds_toArray, List.set_cons_zero, List.set_cons_succ]
                  refine wpAnyH_done (by kernel_rfl) ?_ _
                  refine NoPanic.normal ?_
                  go_wp2_with fail
                  exact ⟨⟨_, _, _, _, _, _, _, _, _, _, _, _, _, _, _, _, _, _, _, _, _, ⟨i + 1, X2, by omega, by have := HX2.out; omega, rfl, HS2.out, HT2.out⟩, rfl⟩, by simp [intOf]; omega⟩
                · have : i = Q1.length := by omega
                  have t4 : ¬ (i : Int) < (Q1.length : Int) := by omega
                  go_wp2_with fail
                  go_meet
                  case rel => exact ⟨A, X, by omega, HS1.out, HT1.out⟩
            case rest =>
              obtain ⟨A2, B2, hA2, hjq, htx⟩ := hcut
              have HS2 := hid hjq
              have HT2 := hid htx
              clear hjq htx HS1 HT1
              go_wp2_with fail
              go_roundw
              case rel => exact ⟨2, A2, B2, by omega, by omega, rfl, HS2.out, HT2.out⟩
              case measure => simp [intOf]
          | 2, _ =>
            have hAB := hAB
            go_wp2_with fail
            go_meet
            case rel => exact ⟨A, Bt, by omega, HS1.out, HT1.out⟩
      case rest =>
        obtain ⟨A, Bt, hAB, hjq, htx⟩ := hcut
        have HS1 := hid hjq
        have HT1 := hid htx
        have ta : wc.cell? ⟨tx, 0, none⟩ = some (.int .i64 (A : Nat)) := by simp [World.cell?, htx]
        have tb : wc.cell? ⟨tx, 1, none⟩ = some (.int .i64 (Bt : Nat)) := by simp [World.cell?, htx]
        have k0 : wc.cell? ⟨qx, 0, none⟩ = some (.slice a0 Q0.length p0) := by simp [World.cell?, hjq.hqx]
        have k1 : wc.cell? ⟨qx, 1, none⟩ = some (.slice a1 Q1.length p1) := by simp [World.cell?, hjq.hqx]
        clear hjq htx HS0 HT0
        obtain ⟨PP, hPP⟩ : ∃ PP, PP = Q0.length * Q1.length := ⟨_, rfl⟩
        have hPP2 : PP ≤ 256 := by rw [hPP]; exact Nat.le_trans (Nat.mul_le_mul hl0 hl1) (by omega)
        have hwm : IntKind.i64.wrap ((Q0.length : Int) * (Q1.length : Int)) = (PP : Int) := by
          rw [hPP, ← Int.natCast_mul]
          simp [IntKind.wrap, IntKind.bits, IntKind.signed]
          omega
        clear hPP
        generalize wc = wz at HS1 HT1 ta tb k0 k1 ⊢
        go_upto_if 158 with fail
        go_cut [23] from 23 to 23 (fun v wx => ∃ sd : Nat, (sd = 0 ∨ sd = 1) ∧ v = .int .i64 (sd : Nat) ∧ wx = wz)
        case first =>
          rcases Nat.lt_or_ge Bt A with hba | hba
          · have t5 : (Bt : Int) < (A : Int) := by omega
            go_wp2_with fail
            go_meet
            case rel => exact ⟨1, .inr rfl, rfl, rfl⟩
          · have t5 : ¬ (Bt : Int) < (A : Int) := by omega
            go_wp2_with fail
            go_meet
            case rel => exact ⟨0, .inl rfl, rfl, rfl⟩
        case rest =>
          obtain ⟨sd, hsd, rfl, hwx⟩ := hcut
          subst hwx
          generalize hwc2 : wc = wc2 at HS1 HT1 ta tb k0 k1 ⊢
          clear hwc2
          obtain ⟨T, hT, hT2⟩ : ∃ T : Nat, wc2.cell? ⟨tx, sd, none⟩ = some (.int .i64 (T : Nat)) ∧ T ≤ 512 := by
            rcases hsd with rfl | rfl
            · exact ⟨A, ta, by omega⟩
            · exact ⟨Bt, tb, by omega⟩
          have t6 : (sd : Int) < 2 := by omega
          clear ta tb
          rcases Nat.lt_or_ge T PP with hTP | hTP
          · have t7 : ¬ (PP : Int) ≤ (T : Int) := by omega
            rcases hsd with rfl | rfl
            · simp only [show ((0 : Nat) : Int) = 0 from rfl] at hT t6 ⊢
              have hw10 : IntKind.i64.wrap (1 : Int) = 1 := by decide
              go_wp2_with fail
              go_quiet (fail)
              have hbq : Below wc2.heap.size wc2 (wc2.drewN nq) := below_drewN (Below.refl _ _) nq
              have HS2 := hid (HS1.out.below hbq)
              have k0' : (wc2.drewN nq).cell? ⟨qx, 0, none⟩ = some (.slice a0 Q0.length p0) := k0
              clear HS1 HT1 hbq k0 k1 hT
              generalize wc2.drewN nq = wd at HS2 k0' ⊢
              go_wp2_with fail
              clear k0'
              go_loopw [205] (fun vi wr => ∃ (i : Nat) (marks' cand' : List Nat) (cv' : Value), i ≤ Q0.length ∧ vi = .int .i64 i ∧ JQ w wr base bx jb mb cx ax ay rs qx jc n mc made ca cb va vb marks' cand' cv' (.slice a0 Q0.length p0) (.slice a1 Q1.length p1) Q0 Q1 ∧ (∀ x, x ∈ cand → x ∈ cand') ∧ ∀ x k m : Nat, fr[x]? = some (k, m) → k ∈ Q0.take i → m ∈ Q1 → x ∈ cand') (fun vi _ => Q0.length - (intOf vi).toNat)
              case atStart => exact ⟨0, marks, cand, cv, by omega, rfl, HS2.out, fun x h => h, fun x k m _ hk => by simp at hk⟩
              case round =>
                obtain ⟨i, marks', cand', cv', hi, rfl, hjq, hsub, hqc⟩ := hrel
                clear HS2
                have HS2 := hid hjq
                have HSUB := hid hsub
                have HQC := hid hqc
                clear hjq hsub hqc
                rcases Nat.lt_or_ge i Q0.length with hlt2 | hge2
                · have t8 : (i : Int) < (Q0.length : Int) := by omega
                  have hx : Q0[i]? = some Q0[i] := by simp [hlt2]
                  have own0 := own_ints HS2.out.o0
                  obtain ⟨b1, o1, rfl, y0⟩ := own0.one hx
                  have hkn := HQ0.out _ (List.mem_of_getElem? hx)
                  have HTK := hid (show Q0.take (i + 1) = Q0.take i ++ [Q0[i]] from by rw [List.take_add_one, hx]; rfl)
                  clear hx own0
                  generalize Q0[i] = k at *
                  obtain ⟨ob, oc, hov, hoe⟩ := (HD.out _ HS2.out.fr).o0
                  obtain ⟨hu, hiu⟩ := hoe k hkn
                  obtain ⟨ua, uc, hu2⟩ := hiu.shape
                  rw [hu2] at hu
                  have HIU := hid (show ∀ W', Fr2 jb mb w W' → IntsAt W' (.slice ua (L0 k).length uc) (L0 k) from fun W' hf => by
                    obtain ⟨ob', oc', _, hoe'⟩ := (HD.out _ hf).o0
                    have := (hoe' k hkn).2
                    rw [hu2] at this
                    exact this)
                  have t5 : (k : Int) < (na : Int) := by omega
                  have v1 : wr.cell? ⟨bx, 0, none⟩ = some (.pointer (some ⟨jb, 0, none⟩)) := by simp [World.cell?, HS2.out.jc.bxk]
                  have v2 : wr.cell? ⟨jb, 3, none⟩ = some (.slice (some ⟨ob, 0, none⟩) na oc) := by simp [World.cell?, HS2.out.jc.jbk, j3, hov]
                  have hls := HS.out.s0 k hkn
                  have HLM := hid (fun x => HS.out.l0 k x hkn)
                  clear hoe hiu hu2 hov
                  go_upto_block 15 with fail
                  go_cut [219] from 207 to 245 (fun _ wx => ∃ (marks2 cand2 : List Nat) (cv2 : Value), JQ w wx base bx jb mb cx ax ay rs qx jc n mc made ca cb va vb marks2 cand2 cv2 (.slice (some ⟨b1, o1, none⟩) Q0.length p0) (.slice a1 Q1.length p1) Q0 Q1 ∧ (∀ x, x ∈ cand' → x ∈ cand2) ∧ ∀ x m : Nat, fr[x]? = some (k, m) → m ∈ Q1 → x ∈ cand2)
                  case first =>
                    go_wp2_with fail
                    clear y0 v1 v2 hu
                    go_loopw [219] (fun vi wr => ∃ (i2 : Nat) (marks2 cand2 : List Nat) (cv2 : Value), i2 ≤ (L0 k).length ∧ vi = .int .i64 i2 ∧ JQ w wr base bx jb mb cx ax ay rs qx jc n mc made ca cb va vb marks2 cand2 cv2 (.slice (some ⟨b1, o1, none⟩) Q0.length p0) (.slice a1 Q1.length p1) Q0 Q1 ∧ (∀ x, x ∈ cand' → x ∈ cand2) ∧ ∀ x m : Nat, x ∈ (L0 k).take i2 → fr[x]? = some (k, m) → m ∈ Q1 → x ∈ cand2) (fun vi _ => (L0 k).length - (intOf vi).toNat)
                    case atStart => exact ⟨0, marks', cand', cv', by omega, rfl, HS2.out, fun x h => h, fun x m hm => by simp at hm⟩
                    case round =>
                      obtain ⟨i2, marks2, cand2, cv2, hi2, rfl, hjq, hsub, hqc⟩ := hrel
                      clear HS2
                      generalize wr = wo at hjq ⊢
                      have HS2 := hid hjq
                      have HSUB2 := hid hsub
                      have HQC2 := hid hqc
                      clear hjq hsub hqc
                      rcases Nat.lt_or_ge i2 (L0 k).length with hlt3 | hge3
                      · have t9 : (i2 : Int) < ((L0 k).length : Int) := by omega
                        have hx : (L0 k)[i2]? = some (L0 k)[i2] := by simp [hlt3]
                        obtain ⟨b2, o2, rfl, y0⟩ := (HIU.out _ HS2.out.fr).one hx
                        obtain ⟨mm, hfl⟩ := (HLM.out _).1 (List.mem_of_getElem? hx)
                        have HTK2 := hid (show (L0 k).take (i2 + 1) = (L0 k).take i2 ++ [(L0 k)[i2]] from by rw [List.take_add_one, hx]; rfl)
                        clear hx
                        generalize (L0 k)[i2] = l at *
                        have hln : l < n := by have := (List.getElem?_eq_some_iff.1 hfl).1; have := HS.out.len; omega
                        obtain ⟨fb, fc, fcur, hfv, hfk, hfe⟩ := (HD.out _ HS2.out.fr).prs
                        rw [HS.out.len] at hfv
                        obtain ⟨y1, y2⟩ := hfe l _ hfl
                        have x1 : wo.cell? ⟨bx, 0, none⟩ = some (.pointer (some ⟨jb, 0, none⟩)) := by simp [World.cell?, HS2.out.jc.bxk]
                        have x2 : wo.cell? ⟨jb, 1, none⟩ = some (.slice (some ⟨fb, 0, none⟩) n fc) := by simp [World.cell?, HS2.out.jc.jbk, j1, hfv]
                        have x3 : wo.cell? ⟨qx, 1, none⟩ = some (.slice a1 Q1.length p1) := by simp [World.cell?, HS2.out.hqx]
                        have x4 : wo.cell? ⟨fb, l * 2 + 1, none⟩ = some (.int .i32 (mm : Nat)) := y2
                        have t10 : (l : Int) < (n : Int) := by omega
                        have HFI := hid (fun W' (hb : Below wo.heap.size wo W') => find31 ((own_ints HS2.out.o1).below hb) HI1.out (by omega) mm)
                        have KP := hid (fun W' (hb : Below wo.heap.size wo W') => (⟨(hb.cell (block_lt_of_cell x1)).trans x1, (hb.cell (block_lt_of_cell x2)).trans x2, (hb.cell (block_lt_of_cell x3)).trans x3, (hb.cell (block_lt_of_cell x4)).trans x4, hb⟩ : W'.cell? ⟨bx, 0, none⟩ = some (.pointer (some ⟨jb, 0, none⟩)) ∧ W'.cell? ⟨jb, 1, none⟩ = some (.slice (some ⟨fb, 0, none⟩) n fc) ∧ W'.cell? ⟨qx, 1, none⟩ = some (.slice a1 Q1.length p1) ∧ W'.cell? ⟨fb, l * 2 + 1, none⟩ = some (.int .i32 (mm : Nat)) ∧ Below wo.heap.size wo W'))
                        have hb0 : Below wo.heap.size wo wo.drew := (Below.refl _ _).drew
                        have HFL := hid hfl
                        clear hfe hfk y1 y2 hfv hfl x1 x2 x3 x4
                        go_upto_region 54 with fail
                        go_cut [35] from 223 to 240 (fun v wx => ∃ f : Bool, v = .bool f ∧ (f = true ↔ mm ∈ Q1) ∧ Below wo.heap.size wo wx)
                        case first =>
                          refine wp_region_noPanic ?_
                          refine wp_region_held_drew (S := fun W' => W'.cell? ⟨bx, 0, none⟩ = some (.pointer (some ⟨jb, 0, none⟩)) ∧ W'.cell? ⟨jb, 1, none⟩ = some (.slice (some ⟨fb, 0, none⟩) n fc) ∧ W'.cell? ⟨qx, 1, none⟩ = some (.slice a1 Q1.length p1) ∧ W'.cell? ⟨fb, l * 2 + 1, none⟩ = some (.int .i32 (mm : Nat)) ∧ Below wo.heap.size wo W') (by kernel_rfl) (KP.out _ hb0) (fun hHeld => ?_)
                          refine wpAnyH_take (i := 0) (v := .int .i64 0) rfl (by kernel_rfl) (by kernel_rfl) (by kernel_rfl) (fun _ _ _ h => h) (Or.inl ⟨by rfl, fun W' hSw => by obtain ⟨z1, z2, z3, z4, z5⟩ := hSw; go_simp⟩) hHeld ?_
                          simp only [Act.put, List.setIfInBounds_toArray, List.set_cons_zero, List.set_cons_succ]
                          refine wpAnyH_take (i := 1) (v := .int .i64 1) rfl (by kernel_rfl) (by kernel_rfl) (by kernel_rfl) (fun _ _ _ h => h) (Or.inl ⟨by rfl, fun W' hSw => by obtain ⟨z1, z2, z3, z4, z5⟩ := hSw; go_simp⟩) hHeld ?_
                          simp only [Act.put, List.setIfInBounds_toArray, List.set_cons_zero, List.set_cons_succ]
                          refine wpAnyH_take (i := 2) (v := .pointer (some ⟨qx, 1, none⟩)) rfl (by kernel_rfl) (by kernel_rfl) (by kernel_rfl) (fun _ _ _ h => h) (Or.inl ⟨by rfl, fun W' hSw => by obtain ⟨z1, z2, z3, z4, z5⟩ := hSw; go_simp⟩) hHeld ?_
                          simp only [Act.put, List.setIfInBounds_toArray, List.set_cons_zero, List.set_cons_succ]
                          refine wpAnyH_take (i := 3) (v := .slice a1 Q1.length p1) rfl (by kernel_rfl) (by kernel_rfl) (by kernel_rfl) (fun _ _ _ h => h) (Or.inl ⟨by rfl, fun W' hSw => by obtain ⟨z1, z2, z3, z4, z5⟩ := hSw; go_simp⟩) hHeld ?_
                          simp only [Act.put, List.setIfInBounds_toArray, List.set_cons_zero, List.set_cons_succ]
                          refine wpAnyH_take (i := 4) (v := .pointer (some ⟨jb, 0, none⟩)) rfl (by kernel_rfl) (by kernel_rfl) (by kernel_rfl) (fun _ _ _ h => h) (Or.inl ⟨by rfl, fun W' hSw => by obtain ⟨z1, z2, z3, z4, z5⟩ := hSw; go_simp⟩) hHeld ?_
                          simp only [Act.put, List.setIfInBounds_toArray, List.set_cons_zero, List.set_cons_succ]
                          refine wpAnyH_take (i := 5) (v := .pointer (some ⟨jb, 0, none⟩)) rfl (by kernel_rfl) (by kernel_rfl) (by kernel_rfl) (fun _ _ _ h => h) (Or.inl ⟨by rfl, fun W' hSw => by obtain ⟨z1, z2, z3, z4, z5⟩ := hSw; go_simp⟩) hHeld ?_
                          simp only [Act.put, List.setIfInBounds_toArray, List.set_cons_zero, List.set_cons_succ]
                          refine wpAnyH_take (i := 6) (v := .pointer (some ⟨jb, 1, none⟩)) rfl (by kernel_rfl) (by kernel_rfl) (by kernel_rfl) (fun _ _ _ h => h) (Or.inl ⟨by rfl, fun W' hSw => by obtain ⟨z1, z2, z3, z4, z5⟩ := hSw; go_simp⟩) hHeld ?_
                          simp only [Act.put, List.setIfInBounds_toArray, List.set_cons_zero, List.set_cons_succ]
                          refine wpAnyH_take (i := 7) (v := .slice (some ⟨fb, 0, none⟩) n fc) rfl (by kernel_rfl) (by kernel_rfl) (by kernel_rfl) (fun _ _ _ h => h) (Or.inl ⟨by rfl, fun W' hSw => by obtain ⟨z1, z2, z3, z4, z5⟩ := hSw; go_simp⟩) hHeld ?_
                          simp only [Act.put, List.setIfInBounds_toArray, List.set_cons_zero, List.set_cons_succ]
                          refine wpAnyH_take (i := 8) (v := .int .i32 (l : Nat)) rfl (by kernel_rfl) (by kernel_rfl) (by kernel_rfl) (fun _ _ _ h => h) (Or.inl ⟨by rfl, fun W' hSw => by obtain ⟨z1, z2, z3, z4, z5⟩ := hSw; go_simp⟩) hHeld ?_
                          simp only [Act.put, List.setIfInBounds_toArray, List.set_cons_zero, List.set_cons_succ]
                          refine wpAnyH_take (i := 9) (v := .int .i64 0) rfl (by kernel_rfl) (by kernel_rfl) (by kernel_rfl) (fun _ _ _ h => h) (Or.inl ⟨by rfl, fun W' hSw => by obtain ⟨z1, z2, z3, z4, z5⟩ := hSw; go_simp⟩) hHeld ?_
                          simp only [Act.put, List.setIfInBounds_toArray, List.set_cons_zero, List.set_cons_succ]
                          refine wpAnyH_take (i := 10) (v := .int .i64 1) rfl (by kernel_rfl) (by kernel_rfl) (by kernel_rfl) (fun _ _ _ h => h) (Or.inl ⟨by rfl, fun W' hSw => by obtain ⟨z1, z2, z3, z4, z5⟩ := hSw; go_simp⟩) hHeld ?_
                          simp only [Act.put, List.setIfInBounds_toArray, List.set_cons_zero, List.set_cons_succ]
                          refine wpAnyH_take (i := 11) (v := .pointer (some ⟨fb, l * 2, none⟩)) rfl (by kernel_rfl) (by kernel_rfl) (by kernel_rfl) (fun _ _ _ h => h) (Or.inl ⟨by rfl, fun W' hSw => by obtain ⟨z1, z2, z3, z4, z5⟩ := hSw; go_simp⟩) hHeld ?_
                          simp only [Act.put, List.setIfInBounds_toArray, List.set_cons_zero, List.set_cons_succ]
                          refine wpAnyH_take (i := 12) (v := .pointer (some ⟨fb, l * 2 + 1, none⟩)) rfl (by kernel_rfl) (by kernel_rfl) (by kernel_rfl) (fun _ _ _ h => h) (Or.inl ⟨by rfl, fun W' hSw => by obtain ⟨z1, z2, z3, z4, z5⟩ := hSw; go_simp⟩) hHeld ?_
                          simp only [Act.put, List.setIfInBounds_toArray, List.set_cons_zero, List.set_cons_succ]
                          refine wpAnyH_take (i := 13) (v := .int .i32 (mm : Nat)) rfl (by kernel_rfl) (by kernel_rfl) (by kernel_rfl) (fun _ _ _ h => h) (Or.inl ⟨by rfl, fun W' hSw => by obtain ⟨z1, z2, z3, z4, z5⟩ := hSw; go_simp⟩) hHeld ?_
                          simp only [Act.put, List.setIfInBounds_toArray, List.set_cons_zero, List.set_cons_succ]
                          refine wpAnyH_ready (rs := [14]) (by kernel_rfl) (by simp) ?_
                          refine AllReadyH.cons rfl (fun K2 hK2 => ?_) AllReadyH.nil
                          go_simp
                          refine (HFI.out _ hb0).mono ?_
                          rintro e w' ⟨ii, f, rfl, hff, rfl⟩
                          dsimp only
                          refine hK2.out _ _ ?_ (fun hHeld2 => ?_)
                          · exact KP.out _ hb0
                          clear hK2 K2 hHeld
                          have hHeld := hHeld2
                          clear hHeld2
                          try simp only [Act.put, List.setIfInBounds_toArray, List.set_cons_zero, List.set_cons_succ]
                          refine wpAnyH_take (i := 15) (v := .tuple #[.int .i64 (ii : Nat), .bool f]) rfl (by kernel_rfl) (by kernel_rfl) (by kernel_rfl) (fun _ _ _ h => h) (Or.inl ⟨by rfl, fun W' hSw => by obtain ⟨z1, z2, z3, z4, z5⟩ := hSw; go_simp⟩) hHeld ?_
                          simp only [Act.put, List.setIfInBounds_toArray, List.set_cons_zero, List.set_cons_succ]
                          refine wpAnyH_take (i := 16) (v := .int .i64 (ii : Nat)) rfl (by kernel_rfl) (by kernel_rfl) (by kernel_rfl) (fun _ _ _ h => h) (Or.inl ⟨by rfl, fun W' hSw => by obtain ⟨z1, z2, z3, z4, z5⟩ := hSw; go_simp⟩) hHeld ?_
                          simp only [Act.put, List.setIfInBounds_toArray, List.set_cons_zero, List.set_cons_succ]
                          refine wpAnyH_take (i := 17) (v := .bool f) rfl (by kernel_rfl) (by kernel_rfl) (by kernel_rfl) (fun _ _ _ h => h) (Or.inl ⟨by rfl, fun W' hSw => by obtain ⟨z1, z2, z3, z4, z5⟩ := hSw; go_simp⟩) hHeld ?_
                          simp only [Act.put, List.setIfInBounds_toArray, List.set_cons_zero, List.set_cons_succ]
                          refine wpAnyH_ready (rs := [18]) (by kernel_rfl) (by simp) ?_
                          refine AllReadyH.cons rfl (fun K2 hK2 => ?_) AllReadyH.nil
                          go_simp
                          refine hK2.out _ _ ?_ (fun hHeld2 => ?_)
                          · exact KP.out _ hb0
                          clear hK2 K2 hHeld
                          have hHeld := hHeld2
                          clear hHeld2
                          try simp only [Act.put, List.setIfInBounds_toArray, List.set_cons_zero, List.set_cons_succ]
                          refine wpAnyH_ready (rs := [19]) (by kernel_rfl) (by simp) ?_
                          refine AllReadyH.cons rfl (fun K2 hK2 => ?_) AllReadyH.nil
                          go_simp
                          refine hK2.out _ _ ?_ (fun hHeld2 => ?_)
                          · exact KP.out _ hb0
                          clear hK2 K2 hHeld
                          have hHeld := hHeld2
                          clear hHeld2
                          try simp only [Act.put, List.setIfInBounds_toArray, List.set_cons_zero, List.set_cons_succ]
                          refine wpAnyH_done (by kernel_rfl) ?_ _
                          refine NoPanic.normal ?_
                          go_wp2_with fail
                          go_meet
                          exact ⟨f, rfl, hff, hb0⟩
                        case rest =>
                          obtain ⟨f, rfl, hff, hbc⟩ := hcut
                          have HS3 := hid (HS2.out.below hbc)
                          have HFF := hid hff
                          clear hbc hff KP HFI hb0
                          cases f
                          · go_wp2_with fail
                            go_roundw
                            case rel =>
                              refine ⟨i2 + 1, marks2, cand2, cv2, by omega, rfl, HS3.out, HSUB2.out, fun x m hx hfx hm => ?_⟩
                              rw [HTK2.out] at hx
                              rcases List.mem_append.1 hx with h1 | h1
                              · exact HQC2.out x m h1 hfx hm
                              · simp only [List.mem_singleton] at h1
                                subst h1
                                have h3 := HFL.out
                                rw [hfx] at h3
                                simp only [Option.some.injEq, Prod.mk.injEq, true_and, and_true] at h3
                                subst h3
                                exact absurd (HFF.out.2 hm) (by simp)
                            case measure => simp [intOf]; omega
                          · have hcl : cand2.length ≤ n := nodup_le n cand2 HS3.out.jc.ok.nodup (fun x hx => ((HS3.out.jc.ok.iff x).1 hx).1)
                            have HTAKE := hid (take30 HS3.out.jc hln (by omega) (by omega))
                            go_wp2_with fail
                            refine HTAKE.out.mono ?_
                            rintro e wt hp
                            obtain ⟨rfl, marks3, cand3, cv3, hjq3, hin3, hsub3⟩ := HS3.out.take hp
                            have HS4 := hid hjq3
                            have HIN := hid hin3
                            have HSB3 := hid hsub3
                            clear hp hjq3 hin3 hsub3
                            go_wp2_with fail
                            go_roundw
                            case rel =>
                              refine ⟨i2 + 1, marks3, cand3, cv3, by omega, rfl, HS4.out, fun x hx => HSB3.out x (HSUB2.out x hx), fun x m hx hfx hm => ?_⟩
                              rw [HTK2.out] at hx
                              rcases List.mem_append.1 hx with h1 | h1
                              · exact HSB3.out x (HQC2.out x m h1 hfx hm)
                              · simp only [List.mem_singleton] at h1
                                subst h1
                                exact HIN.out
                            case measure => simp [intOf]; omega
                      · have : i2 = (L0 k).length := by omega
                        have t9 : ¬ (i2 : Int) < ((L0 k).length : Int) := by omega
                        have HQC3 := hid (show ∀ x m : Nat, fr[x]? = some (k, m) → m ∈ Q1 → x ∈ cand2 from fun x m hx hm => HQC2.out x m (by rw [this, List.take_length]; exact (HLM.out x).2 ⟨m, hx⟩) hx hm)
                        go_wp2_with fail
                        go_meet
                        case rel => exact ⟨marks2, cand2, cv2, HS2.out, HSUB2.out, HQC3.out⟩
                  case rest =>
                    obtain ⟨marks2, cand2, cv2, hjq, hsub2, hqc2⟩ := hcut
                    have HS3 := hid hjq
                    have HR := hid (show ∀ x k' m : Nat, fr[x]? = some (k', m) → k' ∈ Q0.take (i + 1) → m ∈ Q1 → x ∈ cand2 from fun x k' m hx hk hm => by
                      rw [HTK.out] at hk
                      rcases List.mem_append.1 hk with h1 | h1
                      · exact hsub2 x (HQC.out x k' m hx h1 hm)
                      · simp only [List.mem_singleton] at h1
                        subst h1
                        exact hqc2 x m hx hm)
                    have HSB := hid (fun x (hx : x ∈ cand) => hsub2 x (HSUB.out x hx))
                    clear hjq hsub2 hqc2 HS2 HSUB HQC
                    go_wp2_with fail
                    go_roundw
                    case rel => exact ⟨i + 1, marks2, cand2, cv2, by omega, rfl, HS3.out, HSB.out, HR.out⟩
                    case measure => simp [intOf]; omega
                · have : i = Q0.length := by omega
                  have t8 : ¬ (i : Int) < (Q0.length : Int) := by omega
                  have HR := hid (show QComp fr Q0 Q1 cand' from fun x k m hx hk hm => HQC.out x k m hx (by rw [this, List.take_length]; exact hk) hm)
                  go_wp2_with fail
                  refine HK.out _ _ ?_
                  rw [← HQ.out]
                  exact H5.out wr marks' cand' cv' HS2.out HSUB.out HR.out
            · simp only [show ((1 : Nat) : Int) = 1 from rfl] at hT t6 ⊢
              have hw11 : IntKind.i64.wrap (0 : Int) = 0 := by decide
              go_wp2_with fail
              go_quiet (fail)
              have hbq : Below wc2.heap.size wc2 (wc2.drewN nq) := below_drewN (Below.refl _ _) nq
              have HS2 := hid (HS1.out.below hbq)
              have k0' : (wc2.drewN nq).cell? ⟨qx, 1, none⟩ = some (.slice a1 Q1.length p1) := k1
              clear HS1 HT1 hbq k0 k1 hT
              generalize wc2.drewN nq = wd at HS2 k0' ⊢
              go_wp2_with fail
              clear k0'
              go_loopw [205] (fun vi wr => ∃ (i : Nat) (marks' cand' : List Nat) (cv' : Value), i ≤ Q1.length ∧ vi = .int .i64 i ∧ JQ w wr base bx jb mb cx ax ay rs qx jc n mc made ca cb va vb marks' cand' cv' (.slice a0 Q0.length p0) (.slice a1 Q1.length p1) Q0 Q1 ∧ (∀ x, x ∈ cand → x ∈ cand') ∧ ∀ x k m : Nat, fr[x]? = some (m, k) → k ∈ Q1.take i → m ∈ Q0 → x ∈ cand') (fun vi _ => Q1.length - (intOf vi).toNat)
              case atStart => exact ⟨0, marks, cand, cv, by omega, rfl, HS2.out, fun x h => h, fun x k m _ hk => by simp at hk⟩
              case round =>
                obtain ⟨i, marks', cand', cv', hi, rfl, hjq, hsub, hqc⟩ := hrel
                clear HS2
                have HS2 := hid hjq
                have HSUB := hid hsub
                have HQC := hid hqc
                clear hjq hsub hqc
                rcases Nat.lt_or_ge i Q1.length with hlt2 | hge2
                · have t8 : (i : Int) < (Q1.length : Int) := by omega
                  have hx : Q1[i]? = some Q1[i] := by simp [hlt2]
                  have own0 := own_ints HS2.out.o1
                  obtain ⟨b1, o1, rfl, y0⟩ := own0.one hx
                  have hkn := HQ1.out _ (List.mem_of_getElem? hx)
                  have HTK := hid (show Q1.take (i + 1) = Q1.take i ++ [Q1[i]] from by rw [List.take_add_one, hx]; rfl)
                  clear hx own0
                  generalize Q1[i] = k at *
                  obtain ⟨ob, oc, hov, hoe⟩ := (HD.out _ HS2.out.fr).o1
                  obtain ⟨hu, hiu⟩ := hoe k hkn
                  obtain ⟨ua, uc, hu2⟩ := hiu.shape
                  rw [hu2] at hu
                  have HIU := hid (show ∀ W', Fr2 jb mb w W' → IntsAt W' (.slice ua (L1 k).length uc) (L1 k) from fun W' hf => by
                    obtain ⟨ob', oc', _, hoe'⟩ := (HD.out _ hf).o1
                    have := (hoe' k hkn).2
                    rw [hu2] at this
                    exact this)
                  have t5 : (k : Int) < (nb : Int) := by omega
                  have v1 : wr.cell? ⟨bx, 0, none⟩ = some (.pointer (some ⟨jb, 0, none⟩)) := by simp [World.cell?, HS2.out.jc.bxk]
                  have v2 : wr.cell? ⟨jb, 4, none⟩ = some (.slice (some ⟨ob, 0, none⟩) nb oc) := by simp [World.cell?, HS2.out.jc.jbk, j4, hov]
                  have hls := HS.out.s1 k hkn
                  have HLM := hid (fun x => HS.out.l1 k x hkn)
                  clear hoe hiu hu2 hov
                  go_upto_block 15 with fail
                  go_cut [219] from 207 to 245 (fun _ wx => ∃ (marks2 cand2 : List Nat) (cv2 : Value), JQ w wx base bx jb mb cx ax ay rs qx jc n mc made ca cb va vb marks2 cand2 cv2 (.slice a0 Q0.length p0) (.slice (some ⟨b1, o1, none⟩) Q1.length p1) Q0 Q1 ∧ (∀ x, x ∈ cand' → x ∈ cand2) ∧ ∀ x m : Nat, fr[x]? = some (m, k) → m ∈ Q0 → x ∈ cand2)
                  case first =>
                    go_wp2_with fail
                    clear y0 v1 v2 hu
                    go_loopw [219] (fun vi wr => ∃ (i2 : Nat) (marks2 cand2 : List Nat) (cv2 : Value), i2 ≤ (L1 k).length ∧ vi = .int .i64 i2 ∧ JQ w wr base bx jb mb cx ax ay rs qx jc n mc made ca cb va vb marks2 cand2 cv2 (.slice a0 Q0.length p0) (.slice (some ⟨b1, o1, none⟩) Q1.length p1) Q0 Q1 ∧ (∀ x, x ∈ cand' → x ∈ cand2) ∧ ∀ x m : Nat, x ∈ (L1 k).take i2 → fr[x]? = some (m, k) → m ∈ Q0 → x ∈ cand2) (fun vi _ => (L1 k).length - (intOf vi).toNat)
                    case atStart => exact ⟨0, marks', cand', cv', by omega, rfl, HS2.out, fun x h => h, fun x m hm => by simp at hm⟩
                    case round =>
                      obtain ⟨i2, marks2, cand2, cv2, hi2, rfl, hjq, hsub, hqc⟩ := hrel
                      clear HS2
                      generalize wr = wo at hjq ⊢
                      have HS2 := hid hjq
                      have HSUB2 := hid hsub
                      have HQC2 := hid hqc
                      clear hjq hsub hqc
                      rcases Nat.lt_or_ge i2 (L1 k).length with hlt3 | hge3
                      · have t9 : (i2 : Int) < ((L1 k).length : Int) := by omega
                        have hx : (L1 k)[i2]? = some (L1 k)[i2] := by simp [hlt3]
                        obtain ⟨b2, o2, rfl, y0⟩ := (HIU.out _ HS2.out.fr).one hx
                        obtain ⟨mm, hfl⟩ := (HLM.out _).1 (List.mem_of_getElem? hx)
                        have HTK2 := hid (show (L1 k).take (i2 + 1) = (L1 k).take i2 ++ [(L1 k)[i2]] from by rw [List.take_add_one, hx]; rfl)
                        clear hx
                        generalize (L1 k)[i2] = l at *
                        have hln : l < n := by have := (List.getElem?_eq_some_iff.1 hfl).1; have := HS.out.len; omega
                        obtain ⟨fb, fc, fcur, hfv, hfk, hfe⟩ := (HD.out _ HS2.out.fr).prs
                        rw [HS.out.len] at hfv
                        obtain ⟨y1, y2⟩ := hfe l _ hfl
                        have x1 : wo.cell? ⟨bx, 0, none⟩ = some (.pointer (some ⟨jb, 0, none⟩)) := by simp [World.cell?, HS2.out.jc.bxk]
                        have x2 : wo.cell? ⟨jb, 1, none⟩ = some (.slice (some ⟨fb, 0, none⟩) n fc) := by simp [World.cell?, HS2.out.jc.jbk, j1, hfv]
                        have x3 : wo.cell? ⟨qx, 0, none⟩ = some (.slice a0 Q0.length p0) := by simp [World.cell?, HS2.out.hqx]
                        have x4 : wo.cell? ⟨fb, l * 2, none⟩ = some (.int .i32 (mm : Nat)) := y1
                        have t10 : (l : Int) < (n : Int) := by omega
                        have HFI := hid (fun W' (hb : Below wo.heap.size wo W') => find31 ((own_ints HS2.out.o0).below hb) HI0.out (by omega) mm)
                        have KP := hid (fun W' (hb : Below wo.heap.size wo W') => (⟨(hb.cell (block_lt_of_cell x1)).trans x1, (hb.cell (block_lt_of_cell x2)).trans x2, (hb.cell (block_lt_of_cell x3)).trans x3, (hb.cell (block_lt_of_cell x4)).trans x4, hb⟩ : W'.cell? ⟨bx, 0, none⟩ = some (.pointer (some ⟨jb, 0, none⟩)) ∧ W'.cell? ⟨jb, 1, none⟩ = some (.slice (some ⟨fb, 0, none⟩) n fc) ∧ W'.cell? ⟨qx, 0, none⟩ = some (.slice a0 Q0.length p0) ∧ W'.cell? ⟨fb, l * 2, none⟩ = some (.int .i32 (mm : Nat)) ∧ Below wo.heap.size wo W'))
                        have hb0 : Below wo.heap.size wo wo.drew := (Below.refl _ _).drew
                        have HFL := hid hfl
                        clear hfe hfk y1 y2 hfv hfl x1 x2 x3 x4
                        go_upto_region 54 with fail
                        go_cut [35] from 223 to 240 (fun v wx => ∃ f : Bool, v = .bool f ∧ (f = true ↔ mm ∈ Q0) ∧ Below wo.heap.size wo wx)
                        case first =>
                          refine wp_region_noPanic ?_
                          refine wp_region_held_drew (S := fun W' => W'.cell? ⟨bx, 0, none⟩ = some (.pointer (some ⟨jb, 0, none⟩)) ∧ W'.cell? ⟨jb, 1, none⟩ = some (.slice (some ⟨fb, 0, none⟩) n fc) ∧ W'.cell? ⟨qx, 0, none⟩ = some (.slice a0 Q0.length p0) ∧ W'.cell? ⟨fb, l * 2, none⟩ = some (.int .i32 (mm : Nat)) ∧ Below wo.heap.size wo W') (by kernel_rfl) (KP.out _ hb0) (fun hHeld => ?_)
                          refine wpAnyH_take (i := 0) (v := .int .i64 1) rfl (by kernel_rfl) (by kernel_rfl) (by kernel_rfl) (fun _ _ _ h => h) (Or.inl ⟨by rfl, fun W' hSw => by obtain ⟨z1, z2, z3, z4, z5⟩ := hSw; go_simp⟩) hHeld ?_
                          simp only [Act.put, List.setIfInBounds_toArray, List.set_cons_zero, List.set_cons_succ]
                          refine wpAnyH_take (i := 1) (v := .int .i64 0) rfl (by kernel_rfl) (by kernel_rfl) (by kernel_rfl) (fun _ _ _ h => h) (Or.inl ⟨by rfl, fun W' hSw => by obtain ⟨z1, z2, z3, z4, z5⟩ := hSw; go_simp⟩) hHeld ?_
                          simp only [Act.put, List.setIfInBounds_toArray, List.set_cons_zero, List.set_cons_succ]
                          refine wpAnyH_take (i := 2) (v := .pointer (some ⟨qx, 0, none⟩)) rfl (by kernel_rfl) (by kernel_rfl) (by kernel_rfl) (fun _ _ _ h => h) (Or.inl ⟨by rfl, fun W' hSw => by obtain ⟨z1, z2, z3, z4, z5⟩ := hSw; go_simp⟩) hHeld ?_
                          simp only [Act.put, List.setIfInBounds_toArray, List.set_cons_zero, List.set_cons_succ]
                          refine wpAnyH_take (i := 3) (v := .slice a0 Q0.length p0) rfl (by kernel_rfl) (by kernel_rfl) (by kernel_rfl) (fun _ _ _ h => h) (Or.inl ⟨by rfl, fun W' hSw => by obtain ⟨z1, z2, z3, z4, z5⟩ := hSw; go_simp⟩) hHeld ?_
                          simp only [Act.put, List.setIfInBounds_toArray, List.set_cons_zero, List.set_cons_succ]
                          refine wpAnyH_take (i := 4) (v := .pointer (some ⟨jb, 0, none⟩)) rfl (by kernel_rfl) (by kernel_rfl) (by kernel_rfl) (fun _ _ _ h => h) (Or.inl ⟨by rfl, fun W' hSw => by obtain ⟨z1, z2, z3, z4, z5⟩ := hSw; go_simp⟩) hHeld ?_
                          simp only [Act.put, List.setIfInBounds_toArray, List.set_cons_zero, List.set_cons_succ]
                          refine wpAnyH_take (i := 5) (v := .pointer (some ⟨jb, 0, none⟩)) rfl (by kernel_rfl) (by kernel_rfl) (by kernel_rfl) (fun _ _ _ h => h) (Or.inl ⟨by rfl, fun W' hSw => by obtain ⟨z1, z2, z3, z4, z5⟩ := hSw; go_simp⟩) hHeld ?_
                          simp only [Act.put, List.setIfInBounds_toArray, List.set_cons_zero, List.set_cons_succ]
                          refine wpAnyH_take (i := 6) (v := .pointer (some ⟨jb, 1, none⟩)) rfl (by kernel_rfl) (by kernel_rfl) (by kernel_rfl) (fun _ _ _ h => h) (Or.inl ⟨by rfl, fun W' hSw => by obtain ⟨z1, z2, z3, z4, z5⟩ := hSw; go_simp⟩) hHeld ?_
                          simp only [Act.put, List.setIfInBounds_toArray, List.set_cons_zero, List.set_cons_succ]
                          refine wpAnyH_take (i := 7) (v := .slice (some ⟨fb, 0, none⟩) n fc) rfl (by kernel_rfl) (by kernel_rfl) (by kernel_rfl) (fun _ _ _ h => h) (Or.inl ⟨by rfl, fun W' hSw => by obtain ⟨z1, z2, z3, z4, z5⟩ := hSw; go_simp⟩) hHeld ?_
                          simp only [Act.put, List.setIfInBounds_toArray, List.set_cons_zero, List.set_cons_succ]
                          refine wpAnyH_take (i := 8) (v := .int .i32 (l : Nat)) rfl (by kernel_rfl) (by kernel_rfl) (by kernel_rfl) (fun _ _ _ h => h) (Or.inl ⟨by rfl, fun W' hSw => by obtain ⟨z1, z2, z3, z4, z5⟩ := hSw; go_simp⟩) hHeld ?_
                          simp only [Act.put, List.setIfInBounds_toArray, List.set_cons_zero, List.set_cons_succ]
                          refine wpAnyH_take (i := 9) (v := .int .i64 1) rfl (by kernel_rfl) (by kernel_rfl) (by kernel_rfl) (fun _ _ _ h => h) (Or.inl ⟨by rfl, fun W' hSw => by obtain ⟨z1, z2, z3, z4, z5⟩ := hSw; go_simp⟩) hHeld ?_
                          simp only [Act.put, List.setIfInBounds_toArray, List.set_cons_zero, List.set_cons_succ]
                          refine wpAnyH_take (i := 10) (v := .int .i64 0) rfl (by kernel_rfl) (by kernel_rfl) (by kernel_rfl) (fun _ _ _ h => h) (Or.inl ⟨by rfl, fun W' hSw => by obtain ⟨z1, z2, z3, z4, z5⟩ := hSw; go_simp⟩) hHeld ?_
                          simp only [Act.put, List.setIfInBounds_toArray, List.set_cons_zero, List.set_cons_succ]
                          refine wpAnyH_take (i := 11) (v := .pointer (some ⟨fb, l * 2, none⟩)) rfl (by kernel_rfl) (by kernel_rfl) (by kernel_rfl) (fun _ _ _ h => h) (Or.inl ⟨by rfl, fun W' hSw => by obtain ⟨z1, z2, z3, z4, z5⟩ := hSw; go_simp⟩) hHeld ?_
                          simp only [Act.put, List.setIfInBounds_toArray, List.set_cons_zero, List.set_cons_succ]
                          refine wpAnyH_take (i := 12) (v := .pointer (some ⟨fb, l * 2, none⟩)) rfl (by kernel_rfl) (by kernel_rfl) (by kernel_rfl) (fun _ _ _ h => h) (Or.inl ⟨by rfl, fun W' hSw => by obtain ⟨z1, z2, z3, z4, z5⟩ := hSw; go_simp⟩) hHeld ?_
                          simp only [Act.put, List.setIfInBounds_toArray, List.set_cons_zero, List.set_cons_succ]
                          refine wpAnyH_take (i := 13) (v := .int .i32 (mm : Nat)) rfl (by kernel_rfl) (by kernel_rfl) (by kernel_rfl) (fun _ _ _ h => h) (Or.inl ⟨by rfl, fun W' hSw => by obtain ⟨z1, z2, z3, z4, z5⟩ := hSw; go_simp⟩) hHeld ?_
                          simp only [Act.put, List.setIfInBounds_toArray, List.set_cons_zero, List.set_cons_succ]
                          refine wpAnyH_ready (rs := [14]) (by kernel_rfl) (by simp) ?_
                          refine AllReadyH.cons rfl (fun K2 hK2 => ?_) AllReadyH.nil
                          go_simp
                          refine (HFI.out _ hb0).mono ?_
                          rintro e w' ⟨ii, f, rfl, hff, rfl⟩
                          dsimp only
                          refine hK2.out _ _ ?_ (fun hHeld2 => ?_)
                          · exact KP.out _ hb0
                          clear hK2 K2 hHeld
                          have hHeld := hHeld2
                          clear hHeld2
                          try simp only [Act.put, List.setIfInBounds_toArray, List.set_cons_zero, List.set_cons_succ]
                          refine wpAnyH_take (i := 15) (v := .tuple #[.int .i64 (ii : Nat), .bool f]) rfl (by kernel_rfl) (by kernel_rfl) (by kernel_rfl) (fun _ _ _ h => h) (Or.inl ⟨by rfl, fun W' hSw => by obtain ⟨z1, z2, z3, z4, z5⟩ := hSw; go_simp⟩) hHeld ?_
                          simp only [Act.put, List.setIfInBounds_toArray, List.set_cons_zero, List.set_cons_succ]
                          refine wpAnyH_take (i := 16) (v := .int .i64 (ii : Nat)) rfl (by kernel_rfl) (by kernel_rfl) (by kernel_rfl) (fun _ _ _ h => h) (Or.inl ⟨by rfl, fun W' hSw => by obtain ⟨z1, z2, z3, z4, z5⟩ := hSw; go_simp⟩) hHeld ?_
                          simp only [Act.put, List.setIfInBounds_toArray, List.set_cons_zero, List.set_cons_succ]
                          refine wpAnyH_take (i := 17) (v := .bool f) rfl (by kernel_rfl) (by kernel_rfl) (by kernel_rfl) (fun _ _ _ h => h) (Or.inl ⟨by rfl, fun W' hSw => by obtain ⟨z1, z2, z3, z4, z5⟩ := hSw; go_simp⟩) hHeld ?_
                          simp only [Act.put, List.setIfInBounds_toArray, List.set_cons_zero, List.set_cons_succ]
                          refine wpAnyH_ready (rs := [18]) (by kernel_rfl) (by simp) ?_
                          refine AllReadyH.cons rfl (fun K2 hK2 => ?_) AllReadyH.nil
                          go_simp
                          refine hK2.out _ _ ?_ (fun hHeld2 => ?_)
                          · exact KP.out _ hb0
                          clear hK2 K2 hHeld
                          have hHeld := hHeld2
                          clear hHeld2
                          try simp only [Act.put, List.setIfInBounds_toArray, List.set_cons_zero, List.set_cons_succ]
                          refine wpAnyH_ready (rs := [19]) (by kernel_rfl) (by simp) ?_
                          refine AllReadyH.cons rfl (fun K2 hK2 => ?_) AllReadyH.nil
                          go_simp
                          refine hK2.out _ _ ?_ (fun hHeld2 => ?_)
                          · exact KP.out _ hb0
                          clear hK2 K2 hHeld
                          have hHeld := hHeld2
                          clear hHeld2
                          try simp only [Act.put, List.setIfInBounds_toArray, List.set_cons_zero, List.set_cons_succ]
                          refine wpAnyH_done (by kernel_rfl) ?_ _
                          refine NoPanic.normal ?_
                          go_wp2_with fail
                          go_meet
                          exact ⟨f, rfl, hff, hb0⟩
                        case rest =>
                          obtain ⟨f, rfl, hff, hbc⟩ := hcut
                          have HS3 := hid (HS2.out.below hbc)
                          have HFF := hid hff
                          clear hbc hff KP HFI hb0
                          cases f
                          · go_wp2_with fail
                            go_roundw
                            case rel =>
                              refine ⟨i2 + 1, marks2, cand2, cv2, by omega, rfl, HS3.out, HSUB2.out, fun x m hx hfx hm => ?_⟩
                              rw [HTK2.out] at hx
                              rcases List.mem_append.1 hx with h1 | h1
                              · exact HQC2.out x m h1 hfx hm
                              · simp only [List.mem_singleton] at h1
                                subst h1
                                have h3 := HFL.out
                                rw [hfx] at h3
                                simp only [Option.some.injEq, Prod.mk.injEq, true_and, and_true] at h3
                                subst h3
                                exact absurd (HFF.out.2 hm) (by simp)
                            case measure => simp [intOf]; omega
                          · have hcl : cand2.length ≤ n := nodup_le n cand2 HS3.out.jc.ok.nodup (fun x hx => ((HS3.out.jc.ok.iff x).1 hx).1)
                            have HTAKE := hid (take30 HS3.out.jc hln (by omega) (by omega))
                            go_wp2_with fail
                            refine HTAKE.out.mono ?_
                            rintro e wt hp
                            obtain ⟨rfl, marks3, cand3, cv3, hjq3, hin3, hsub3⟩ := HS3.out.take hp
                            have HS4 := hid hjq3
                            have HIN := hid hin3
                            have HSB3 := hid hsub3
                            clear hp hjq3 hin3 hsub3
                            go_wp2_with fail
                            go_roundw
                            case rel =>
                              refine ⟨i2 + 1, marks3, cand3, cv3, by omega, rfl, HS4.out, fun x hx => HSB3.out x (HSUB2.out x hx), fun x m hx hfx hm => ?_⟩
                              rw [HTK2.out] at hx
                              rcases List.mem_append.1 hx with h1 | h1
                              · exact HSB3.out x (HQC2.out x m h1 hfx hm)
                              · simp only [List.mem_singleton] at h1
                                subst h1
                                exact HIN.out
                            case measure => simp [intOf]; omega
                      · have : i2 = (L1 k).length := by omega
                        have t9 : ¬ (i2 : Int) < ((L1 k).length : Int) := by omega
                        have HQC3 := hid (show ∀ x m : Nat, fr[x]? = some (m, k) → m ∈ Q0 → x ∈ cand2 from fun x m hx hm => HQC2.out x m (by rw [this, List.take_length]; exact (HLM.out x).2 ⟨m, hx⟩) hx hm)
                        go_wp2_with fail
                        go_meet
                        case rel => exact ⟨marks2, cand2, cv2, HS2.out, HSUB2.out, HQC3.out⟩
                  case rest =>
                    obtain ⟨marks2, cand2, cv2, hjq, hsub2, hqc2⟩ := hcut
                    have HS3 := hid hjq
                    have HR := hid (show ∀ x k' m : Nat, fr[x]? = some (m, k') → k' ∈ Q1.take (i + 1) → m ∈ Q0 → x ∈ cand2 from fun x k' m hx hk hm => by
                      rw [HTK.out] at hk
                      rcases List.mem_append.1 hk with h1 | h1
                      · exact hsub2 x (HQC.out x k' m hx h1 hm)
                      · simp only [List.mem_singleton] at h1
                        subst h1
                        exact hqc2 x m hx hm)
                    have HSB := hid (fun x (hx : x ∈ cand) => hsub2 x (HSUB.out x hx))
                    clear hjq hsub2 hqc2 HS2 HSUB HQC
                    go_wp2_with fail
                    go_roundw
                    case rel => exact ⟨i + 1, marks2, cand2, cv2, by omega, rfl, HS3.out, HSB.out, HR.out⟩
                    case measure => simp [intOf]; omega
                · have : i = Q1.length := by omega
                  have t8 : ¬ (i : Int) < (Q1.length : Int) := by omega
                  have HR := hid (show QComp fr Q0 Q1 cand' from fun x k m hx hk hm => HQC.out x m k hx (by rw [this, List.take_length]; exact hm) hk)
                  go_wp2_with fail
                  refine HK.out _ _ ?_
                  rw [← HQ.out]
                  exact H5.out wr marks' cand' cv' HS2.out HSUB.out HR.out
          · have t7 : (PP : Int) ≤ (T : Int) := by omega
            go_wp2_with fail
            go_quiet (fail)
            have hbq : Below wc2.heap.size wc2 (wc2.drewN nq) := below_drewN (Below.refl _ _) nq
            have HS2 := hid (HS1.out.below hbq)
            have k0' : (wc2.drewN nq).cell? ⟨qx, 0, none⟩ = some (.slice a0 Q0.length p0) := k0
            clear HS1 HT1 hbq k0 k1 hT
            generalize wc2.drewN nq = wd at HS2 k0' ⊢
            go_upto_block 10 with fail
            clear k0'
            go_wp2_with fail
            go_loopw [173] (fun vi wr => ∃ (i : Nat) (marks' cand' : List Nat) (cv' : Value), i ≤ Q0.length ∧ vi = .int .i64 i ∧ JQ w wr base bx jb mb cx ax ay rs qx jc n mc made ca cb va vb marks' cand' cv' (.slice a0 Q0.length p0) (.slice a1 Q1.length p1) Q0 Q1 ∧ (∀ x, x ∈ cand → x ∈ cand') ∧ QComp fr (Q0.take i) Q1 cand') (fun vi _ => Q0.length - (intOf vi).toNat)
            case atStart => exact ⟨0, marks, cand, cv, by omega, rfl, HS2.out, fun x h => h, fun x k m _ hk => by simp at hk⟩
            case round =>
              obtain ⟨i, marks', cand', cv', hi, rfl, hjq, hsub, hqc⟩ := hrel
              clear HS2
              have HS2 := hid hjq
              have HSUB := hid hsub
              have HQC := hid hqc
              clear hjq hsub hqc
              rcases Nat.lt_or_ge i Q0.length with hlt2 | hge2
              · have t8 : (i : Int) < (Q0.length : Int) := by omega
                have hx : Q0[i]? = some Q0[i] := by simp [hlt2]
                have own0 := own_ints HS2.out.o0
                obtain ⟨b1, o1, rfl, y0⟩ := own0.one hx
                have hkn := HQ0.out _ (List.mem_of_getElem? hx)
                have HTK := hid (show Q0.take (i + 1) = Q0.take i ++ [Q0[i]] from by rw [List.take_add_one, hx]; rfl)
                have k1 : wr.cell? ⟨qx, 1, none⟩ = some (.slice a1 Q1.length p1) := by simp [World.cell?, HS2.out.hqx]
                clear hx own0
                generalize Q0[i] = k at *
                go_upto_block 11 with fail
                go_cut [180] from 175 to 199 (fun _ wx => ∃ (marks2 cand2 : List Nat) (cv2 : Value), JQ w wx base bx jb mb cx ax ay rs qx jc n mc made ca cb va vb marks2 cand2 cv2 (.slice (some ⟨b1, o1, none⟩) Q0.length p0) (.slice a1 Q1.length p1) Q0 Q1 ∧ (∀ x, x ∈ cand' → x ∈ cand2) ∧ ∀ x m : Nat, fr[x]? = some (k, m) → m ∈ Q1 → x ∈ cand2)
                case first =>
                  go_wp2_with fail
                  clear y0 k1
                  go_loopw [180] (fun vi wr => ∃ (i2 : Nat) (marks2 cand2 : List Nat) (cv2 : Value), i2 ≤ Q1.length ∧ vi = .int .i64 i2 ∧ JQ w wr base bx jb mb cx ax ay rs qx jc n mc made ca cb va vb marks2 cand2 cv2 (.slice (some ⟨b1, o1, none⟩) Q0.length p0) (.slice a1 Q1.length p1) Q0 Q1 ∧ (∀ x, x ∈ cand' → x ∈ cand2) ∧ ∀ x m : Nat, fr[x]? = some (k, m) → m ∈ Q1.take i2 → x ∈ cand2) (fun vi _ => Q1.length - (intOf vi).toNat)
                  case atStart => exact ⟨0, marks', cand', cv', by omega, rfl, HS2.out, fun x h => h, fun x m _ hm => by simp at hm⟩
                  case round =>
                    obtain ⟨i2, marks2, cand2, cv2, hi2, rfl, hjq, hsub, hqc⟩ := hrel
                    clear HS2
                    have HS2 := hid hjq
                    have HSUB2 := hid hsub
                    have HQC2 := hid hqc
                    clear hjq hsub hqc
                    rcases Nat.lt_or_ge i2 Q1.length with hlt3 | hge3
                    · have t9 : (i2 : Int) < (Q1.length : Int) := by omega
                      have hx : Q1[i2]? = some Q1[i2] := by simp [hlt3]
                      obtain ⟨b2, o2, rfl, y0⟩ := (own_ints HS2.out.o1).one hx
                      have hln := HQ1.out _ (List.mem_of_getElem? hx)
                      have HTK2 := hid (show Q1.take (i2 + 1) = Q1.take i2 ++ [Q1[i2]] from by rw [List.take_add_one, hx]; rfl)
                      clear hx
                      generalize Q1[i2] = l at *
                      rcases (HD.out _ HS2.out.fr).atm with ⟨_, hbad⟩ | ⟨ab, aN, aD, hav, haown, hanum⟩
                      · exact absurd hbad HNN.out
                      obtain ⟨lv, ps, hlk, hlv⟩ := haown.look_ok nlaw Yba.underlying67 (zero21 _) (plainElem_int Yba.underlying21 (wf_i32 (k := 0) (by omega))) (key75 (k := k) (l := l) (by omega) (by omega))
                      obtain ⟨lc, rfl, hlc, _⟩ := plainElem_int_inv Yba.underlying21 hlv
                      simp only [Prod.mk.injEq] at hlc
                      have hlc := hlc.1
                      obtain ⟨hm1, hm2⟩ := hanum k l (by omega) (by omega)
                      have v1 : wr.cell? ⟨bx, 0, none⟩ = some (.pointer (some ⟨jb, 0, none⟩)) := by simp [World.cell?, HS2.out.jc.bxk]
                      have v2 : wr.cell? ⟨jb, 2, none⟩ = some (.map (some ab)) := by simp [World.cell?, HS2.out.jc.jbk, j2, hav]
                      cases hf : Maps.has aD (pk2 k l)
                      · rw [hf] at hlk
                        have HNO := hid (show (k, l) ∉ fr from fun hm => by rw [hm1.2 hm] at hf; cases hf)
                        clear hm1 hm2 hlc hlv haown hanum hf hav
                        go_wp2_with fail
                        go_roundw
                        case rel =>
                          refine ⟨i2 + 1, marks2, cand2, cv2, by omega, rfl, HS2.out, HSUB2.out, fun x m hx hm => ?_⟩
                          rw [HTK2.out] at hm
                          rcases List.mem_append.1 hm with h1 | h1
                          · exact HQC2.out x m hx h1
                          · simp only [List.mem_singleton] at h1
                            subst h1
                            exact absurd (List.mem_of_getElem? hx) HNO.out
                        case measure => simp [intOf]; omega
                      · rw [hf] at hlk
                        obtain ⟨jj, hjj, hje⟩ := List.getElem_of_mem (hm1.1 hf)
                        have hjg : fr[jj]? = some (k, l) := by rw [← hje]; simp [hjj]
                        have hat := hm2 jj hjg
                        rw [hlc] at hat
                        simp only [DataW.lit.injEq, Lit.int.injEq, true_and] at hat
                        subst hat
                        have HU := hid (show ∀ x : Nat, fr[x]? = some (k, l) → x = jj from fun x hx => by
                          have h1 := hm2 x hx
                          have h2 := hm2 jj hjg
                          rw [h1] at h2
                          simp only [DataW.lit.injEq, Lit.int.injEq, true_and] at h2
                          omega)
                        have hjn : jj < n := by have := HS.out.len; omega
                        have hcl : cand2.length ≤ n := nodup_le n cand2 HS2.out.jc.ok.nodup (fun x hx => ((HS2.out.jc.ok.iff x).1 hx).1)
                        have HTAKE := hid (take30 HS2.out.jc hjn (by omega) (by omega))
                        clear hm1 hm2 hlc hlv haown hanum hf hav hjj hje hjg
                        go_wp2_with fail
                        refine HTAKE.out.mono ?_
                        rintro e wt hp
                        obtain ⟨rfl, marks3, cand3, cv3, hjq3, hin3, hsub3⟩ := HS2.out.take hp
                        have HS3 := hid hjq3
                        have HIN := hid hin3
                        have HSB3 := hid hsub3
                        clear hp hjq3 hin3 hsub3
                        go_wp2_with fail
                        go_roundw
                        case rel =>
                          refine ⟨i2 + 1, marks3, cand3, cv3, by omega, rfl, HS3.out, fun x hx => HSB3.out x (HSUB2.out x hx), fun x m hx hm => ?_⟩
                          rw [HTK2.out] at hm
                          rcases List.mem_append.1 hm with h1 | h1
                          · exact HSB3.out x (HQC2.out x m hx h1)
                          · simp only [List.mem_singleton] at h1
                            subst h1
                            rw [HU.out x hx]
                            exact HIN.out
                        case measure => simp [intOf]; omega
                    · have : i2 = Q1.length := by omega
                      have t9 : ¬ (i2 : Int) < (Q1.length : Int) := by omega
                      have HQC3 := hid (show ∀ x m : Nat, fr[x]? = some (k, m) → m ∈ Q1 → x ∈ cand2 from fun x m hx hm => HQC2.out x m hx (by rw [this, List.take_length]; exact hm))
                      go_wp2_with fail
                      go_meet
                      case rel => exact ⟨marks2, cand2, cv2, HS2.out, HSUB2.out, HQC3.out⟩
                case rest =>
                  obtain ⟨marks2, cand2, cv2, hjq, hsub2, hqc2⟩ := hcut
                  have HS3 := hid hjq
                  have HR := hid (show QComp fr (Q0.take (i + 1)) Q1 cand2 from fun x k' m hx hk hm => by
                    rw [HTK.out] at hk
                    rcases List.mem_append.1 hk with h1 | h1
                    · exact hsub2 x (HQC.out x k' m hx h1 hm)
                    · simp only [List.mem_singleton] at h1
                      subst h1
                      exact hqc2 x m hx hm)
                  have HSB := hid (fun x (hx : x ∈ cand) => hsub2 x (HSUB.out x hx))
                  clear hjq hsub2 hqc2 HS2 HSUB HQC
                  go_wp2_with fail
                  go_roundw
                  case rel => exact ⟨i + 1, marks2, cand2, cv2, by omega, rfl, HS3.out, HSB.out, HR.out⟩
                  case measure => simp [intOf]; omega
              · have : i = Q0.length := by omega
                have t8 : ¬ (i : Int) < (Q0.length : Int) := by omega
                have HR := hid (show QComp fr Q0 Q1 cand' from by have h := HQC.out; rw [this, List.take_length] at h; exact h)
                go_wp2_with fail
                refine HK.out _ _ ?_
                rw [← HQ.out]
                exact H5.out wr marks' cand' cv' HS2.out HSUB.out HR.out
end Go.Proofs.Ybulkatiq
