/-
  combine: the rows.
-/
import Derived.Test.YbulkatiqComb2
import Derived.Test.YbulkatiqCombE
namespace Go.Proofs.Ybulkatiq
open Go.ChangeShapes Go.WideShapes Go.ChangeAt Go.RowKit Go.Maps Go.WideMaps

/-- k rows are made. -/
structure LD (w W : World) (c : CP) (rb : Nat) (Ra Rb : Rel) (both : Bool) (k : Nat) (marks : List Nat) (rows : List (Nat × List (Nat × Nat))) : Prop where
  cj : CJ w W c k marks (.slice (some ⟨rb, 0, none⟩) c.frR.length c.frR.length) Ra Rb
  blk : ∃ cur, W.heap[rb]? = some (.cells cur 57 (0, 0)) ∧ cur.size = c.frR.length * 2
  rws : RowsAt W rb 0 c.fr.length rows
  len : rows.length = c.frR.length
  said : Said Ra Rb both c.frR c.fr rows k
  far : w.heap.size ≤ rb

theorem LD.below {w W W' : World} {c : CP} {rb : Nat} {Ra Rb : Rel} {both : Bool} {k : Nat} {marks : List Nat} {rows : List (Nat × List (Nat × Nat))} (h : LD w W c rb Ra Rb both k marks rows) (hb : Below W.heap.size W W') : LD w W' c rb Ra Rb both k marks rows := by
  obtain ⟨cur, h1, h2⟩ := h.blk
  exact ⟨h.cj.below hb, ⟨cur, (hb.block _ (lt_of_block h1)).trans h1, h2⟩, h.rws.below hb, h.len, h.said, h.far⟩

theorem LD.joined {w W W' : World} {c : CP} {rb : Nat} {Ra Rb : Rel} {both : Bool} {k : Nat} {marks marks' : List Nat} {rows : List (Nat × List (Nat × Nat))} {c' : Nat} {v' : Value} {l' : List (Nat × Nat)} {p : Nat × Nat} {ra rb' : Nat × List (Nat × Nat)} (h : LD w W c rb Ra Rb both k marks rows) (hk : k < c.frR.length) (hf : Fr2 c.jb c.mb W W') (hj : W'.heap[c.jb]? = some (.cells ((c.jc Ra Rb k).setIfInBounds 7 (.int .i32 ((k + 1 : Nat) : Int))) 72 (0, 0))) (hm : RowI W' c.mb marks') (hl : marks'.length = c.fr.length) (hle : ∀ l, marks'.getD l 0 ≤ k + 1) (hd : DiffAt W' v' l') (hok : RowOk c.fr.length c' l') (hat : ∀ x, x < c.fr.length → atL c' l' x = cellJ (opB both) c.fr ra.1 rb'.1 ra.2 rb'.2 x) (hp : c.frR[k]? = some p) (ha : Ra.rows[p.1]? = some ra) (hb : Rb.rows[p.2]? = some rb') :
    LD w ((W'.setCell ⟨rb, k * 2, none⟩ (.int .u8 (c' : Nat))).setCell ⟨rb, k * 2 + 1, none⟩ v') c rb Ra Rb both (k + 1) marks' (rows.set k (c', l')) := by
  obtain ⟨cur, h1, h2⟩ := h.blk
  obtain ⟨mcur, hm1, _⟩ := h.cj.mrk.blk
  obtain ⟨hr2, h1'⟩ := h.rws.fr2 hf h.cj.jbk hm1 h1
  have hg : W'.grownBy ((W'.setCell ⟨rb, k * 2, none⟩ (.int .u8 (c' : Nat))).setCell ⟨rb, k * 2 + 1, none⟩ v') (some rb) := grown_setCell (grown_setCell (World.grownBy.refl _ _))
  have g1 := heap_setCell_same W' rb (k * 2) _ 57 (.int .u8 (c' : Nat)) h1'
  have g2 := heap_setCell_same _ rb (k * 2 + 1) _ 57 v' g1
  exact ⟨(h.cj.fr2 hf hj hm hl hle).turn hg h1' h.far, ⟨_, g2, by simp [h2]⟩, hr2.put h1' (by rw [h2, h.len]) (by rw [h.len]; exact hk) hok hd, by rw [List.length_set]; exact h.len, h.said.snoc hp ha hb hat, h.far⟩

theorem Fr2.cell {W W' : World} {jb mb b o : Nat} {v : Value} (hf : Fr2 jb mb W W') (h : W.cell? ⟨b, o, none⟩ = some v) (h1 : b ≠ jb) (h2 : b ≠ mb) : W'.cell? ⟨b, o, none⟩ = some v := by
  rw [← h]
  unfold World.cell?
  rw [hf.block b (block_lt_of_cell h) h1 h2]

theorem LD.slot {w W W' : World} {c : CP} {rb : Nat} {Ra Rb : Rel} {both : Bool} {k : Nat} {marks : List Nat} {rows : List (Nat × List (Nat × Nat))} (h : LD w W c rb Ra Rb both k marks rows) (hk : k < c.frR.length) (hf : Fr2 c.jb c.mb W W') : (∃ y, W'.cell? ⟨rb, k * 2, none⟩ = some y) ∧ (∃ y, W'.cell? ⟨rb, k * 2 + 1, none⟩ = some y) ∧ ∀ j, W'.frozen? ⟨rb, j, none⟩ = false := by
  obtain ⟨cur, h1, h2⟩ := h.blk
  obtain ⟨mcur, hm1, _⟩ := h.cj.mrk.blk
  obtain ⟨_, h1'⟩ := h.rws.fr2 hf h.cj.jbk hm1 h1
  refine ⟨⟨cur[k * 2]'(by omega), ?_⟩, ⟨cur[k * 2 + 1]'(by omega), ?_⟩, fun j => by simp [World.frozen?, h1']⟩
  · simp [World.cell?, h1', show k * 2 < cur.size by omega]
  · simp [World.cell?, h1', show k * 2 + 1 < cur.size by omega]

set_option maxRecDepth 100000 in
set_option maxHeartbeats 12800000 in
theorem combD2 {w W : World} {pa pb xa xe rb : Nat} {both : Bool} {c : CP} {marks : List Nat} {rows : List (Nat × List (Nat × Nat))} {Ra Rb : Rel} (h : LD w W c rb Ra Rb both 0 marks rows) (ha : RelAt w pa Ra) (hB : RelAt w pb Rb) (hxa : Ra.ex = .map (some xa)) (hxe : Rb.ex = .map (some xe)) (hea : Ra.eb ≤ 4096) (heb : Rb.eb ≤ 4096) (hna : Ra.n1 ≤ 4) (hnb : Rb.n1 ≤ 4) (hca : Can Ra.n1 Ra.rows) (hcb : Can Rb.n1 Rb.rows) (hg : c.g = if both then 22 else 23)
    {RR : Ending → World → Prop} (hRR : ∀ (R Rx : Rel) (w' : World), Below w.heap.size w w' → (∀ x y, x.size ≤ maxLen → y.size ≤ maxLen → Rx.holds x y = bop both (Ra.holds x y) (Rb.holds x y)) → (∃ W p, RelAt W p Rx) → Merged Rx R → RelAt w' c.cb R → 0 < R.n0 → 0 < R.n1 → RR (.returned (.pointer (some ⟨c.cb, 0, none⟩))) w')
    {u3 u4 u5 u6 u7 u8 u9 u10 u14 u15 u16 u17 u18 u19 u20 u21 u22 u23 u24 u25 u26 u27 u28 u29 u30 u31 u32 u33 u34 u35 u36 u37 u38 u39 u40 u41 u42 u43 u44 u45 u46 u47 u48 u49 u50 u51 u52 u53 u54 u55 u56 u57 u58 u59 u60 u61 u62 u63 u64 u65 u66 u67 u68 u69 u70 u71 u72 u73 u74 u75 u76 u77 u78 u79 u80 u81 u82 u83 u84 u85 u86 u87 u88 u89 u90 u91 u92 u93 u94 u95 u96 u97 u98 u99 u100 u101 u102 u103 u104 u105 u106 u107 u108 u109 u110 u111 u112 u113 u114 u115 u116 u117 u118 u119 u120 u121 u122 u123 u124 u125 u126 u127 u128 u129 u130 u131 u132 u133 u134 u135 u136 u137 u138 u139 u140 u141 u142 u143 u144 u145 u146 u147 u148 u149 u150 u151 u152 u153 u154 u155 u156 u157 u158 u159 u160 u161 u162 u163 u164 u165 u166 u167 u168 u169 u170 u171 u172 u173 u174 u175 u176 u177 u178 u179 u180 u181 u182 u183 u184 u185 u186 u187 u188 u189 u190 u191 u192 u193 u194 u195 u196 u197 u198 u199 u200 u201 u202 u203 u204 u205 u206 u207 u208 u209 u210 u211 u212 u213 u214 u215 u216 u217 u218 u219 u220 u221 u222 u223 u224 u225 u226 u227 u228 u229 u230 u231 u232 u233 u234 u235 u236 u237 u238 u239 u240 u241 u242 u243 u244 u245 u246 u247 u248 u249 : Value} :
    Code.wp Yba.prog (dropC 11 (codeOf Yba.f14)) (bodyPost Yba.prog Yba.f14 RR) ⟨#[.pointer (some ⟨pa, 0, none⟩), .pointer (some ⟨pb, 0, none⟩), .bool both, u3, u4, u5, u6, u7, u8, u9, u10, .pointer (some ⟨c.jb, 0, none⟩), .pointer (some ⟨c.cb, 0, none⟩), c.rv, u14, u15, u16, u17, u18, u19, u20, u21, u22, u23, u24, u25, u26, u27, u28, u29, u30, u31, u32, u33, u34, u35, u36, u37, u38, u39, u40, u41, u42, u43, u44, u45, u46, u47, u48, u49, u50, u51, u52, u53, u54, u55, u56, u57, u58, u59, u60, u61, u62, u63, u64, u65, u66, u67, u68, u69, u70, u71, u72, u73, u74, u75, u76, u77, u78, u79, u80, u81, u82, u83, u84, u85, u86, u87, u88, u89, u90, u91, u92, u93, u94, u95, u96, u97, u98, u99, u100, u101, u102, u103, u104, u105, u106, u107, u108, u109, u110, u111, u112, u113, u114, u115, u116, u117, u118, u119, u120, u121, u122, u123, u124, u125, u126, u127, u128, u129, u130, u131, u132, u133, u134, u135, u136, u137, u138, u139, u140, u141, u142, u143, u144, u145, u146, u147, u148, u149, u150, u151, u152, u153, u154, u155, u156, u157, u158, u159, u160, u161, u162, u163, u164, u165, u166, u167, u168, u169, u170, u171, u172, u173, u174, u175, u176, u177, u178, u179, u180, u181, u182, u183, u184, u185, u186, u187, u188, u189, u190, u191, u192, u193, u194, u195, u196, u197, u198, u199, u200, u201, u202, u203, u204, u205, u206, u207, u208, u209, u210, u211, u212, u213, u214, u215, u216, u217, u218, u219, u220, u221, u222, u223, u224, u225, u226, u227, u228, u229, u230, u231, u232, u233, u234, u235, u236, u237, u238, u239, u240, u241, u242, u243, u244, u245, u246, u247, u248, u249], []⟩ W := by
  obtain ⟨fb, fcap, fcur, hrv, _, _⟩ := h.cj.s0.prs
  have hop := opB_ok both
  rw [← hg] at hop
  have HOP := hid hop
  have HEG := hid (show ∀ args w, (callFunc c.g args).run Yba.prog w = .ok (.enter c.g args) w from by
    rw [hg]
    cases both
    · intro args w; rfl
    · intro args w; rfl)
  have HFAR := hid h.far
  have HE := hid (fun (W' : World) (marks' : List Nat) (rows' : List (Nat × List (Nat × Nat))) (h' : LD w W' c rb Ra Rb both c.frR.length marks' rows') => by
    obtain ⟨cur, h1, h2⟩ := h'.blk
    exact (⟨h'.cj.relOn h1 h2 h'.rws h'.len, h'.cj.bel, h'.cj.far.2.1, h'.cj.s0.pos, h'.cj.s1.pos, Nat.le_trans h'.cj.s1.le (by omega), fun x y _ _ => said_byC h'.cj ha hB h'.len h'.said x y⟩ : RelOn W' c.cb (c.rel rb rows') ∧ Below w.heap.size w W' ∧ w.heap.size ≤ c.cb ∧ 0 < (c.rel rb rows').n0 ∧ 0 < (c.rel rb rows').n1 ∧ (c.rel rb rows').n1 ≤ 12 ∧ ∀ x y, x.size ≤ maxLen → y.size ≤ maxLen → (c.rel rb rows').byC x y = bop both (Ra.byC x y) (Rb.byC x y)))
  have HRV := hid hrv
  have HL := hid h
  have HRA := hid ha
  have HRB := hid hB
  have HCA := hid hca
  have HCB := hid hcb
  have HRR := hid hRR
  rw [hrv]
  have h9 := h.cj.s0.le
  clear hrv hop hRR h ha hB hca hcb hg
  generalize hQ : bodyPost Yba.prog Yba.f14 RR = Q
  have HQ := hid hQ
  clear hQ
  simp only [dropC, codeOf, Yba.f14, Option.getD_some]
  refine wp_seq_k (fun K hK => ?_)
  have HK := hid hK
  clear hK
  go_wp2_with fail
  go_loopw [165] (fun vi wr => ∃ (k : Nat) (marks' : List Nat) (rows' : List (Nat × List (Nat × Nat))), k ≤ c.frR.length ∧ vi = .int .i64 k ∧ LD w wr c rb Ra Rb both k marks' rows') (fun vi _ => c.frR.length - (intOf vi).toNat)
  case atStart => exact ⟨0, marks, rows, by omega, rfl, HL.out⟩
  case round =>
    obtain ⟨k, marks', rows', hk, rfl, hld⟩ := hrel
    clear HL
    have HL := hid hld
    clear hld
    rcases Nat.lt_or_ge k c.frR.length with hlt | hge
    · have t1 : (k : Int) < (c.frR.length : Int) := by omega
      obtain ⟨fb', fcap', fcur', hrv', hfk, hfe⟩ := HL.out.cj.s0.prs
      have hrv2 := HRV.out.symm.trans hrv'
      simp only [Value.slice.injEq, Option.some.injEq, Addr.mk.injEq, true_and, and_true] at hrv2
      obtain ⟨rfl, rfl⟩ := hrv2
      obtain ⟨p, hp⟩ : ∃ p, c.frR[k]? = some p := ⟨c.frR[k], by simp [hlt]⟩
      obtain ⟨f0, f1⟩ := hfe k p hp
      obtain ⟨p1, p2⟩ := p
      obtain ⟨hp1, hp2⟩ := HL.out.cj.s0.each k p1 p2 hp
      have hrl := HRA.out.len
      have hrl2 := HRB.out.len
      obtain ⟨ra, hra⟩ : ∃ ra, Ra.rows[p1]? = some ra := ⟨Ra.rows[p1]'(by omega), by simp⟩
      obtain ⟨rbb, hrbb⟩ : ∃ rbb, Rb.rows[p2]? = some rbb := ⟨Rb.rows[p2]'(by omega), by simp⟩
      obtain ⟨oka, a0, va, a1, hda⟩ := HRA.out.rows _ _ hra
      obtain ⟨okb, b0, vb, b1, hdb⟩ := HRB.out.rows _ _ hrbb
      have hcan := HCA.out
      have hcbn := HCB.out
      have HP := hid hp
      have HRA1 := hid hra
      have HRB1 := hid hrbb
      have hal : Ra.rb < w.heap.size := block_lt_of_cell a0
      have hbl : Rb.rb < w.heap.size := block_lt_of_cell b0
      have pa4 := HRA.out.c4
      have pb4 := HRB.out.c4
      have hpl : pa < w.heap.size := block_lt_of_cell pa4
      have hpl2 : pb < w.heap.size := block_lt_of_cell pb4
      obtain ⟨ra1, ra2⟩ := ra
      obtain ⟨rb1, rb2⟩ := rbb
      simp only at f0 f1 a0 a1 b0 b1 hda hdb oka okb
      have hma := List.mem_of_getElem? hra
      have hmb := List.mem_of_getElem? hrbb
      have HJ := hid (fun (W' : World) (marks'' : List Nat) (h' : CJ w W' c k marks'' (.slice (some ⟨rb, 0, none⟩) c.frR.length c.frR.length) Ra Rb) => join25 (h'.jin (ra := (ra1, ra2)) (rb := (rb1, rb2)) (opf := opB both) (by omega) hda hdb HOP.out HEG.out (fun u v _ _ => opB_comm both u v) oka okb hna hnb (fun e => hcan e _ hma) (fun e => hcbn e _ hmb)))
      obtain ⟨aa, acp, rfl⟩ := hda.shape
      obtain ⟨ba, bcp, rfl⟩ := hdb.shape
      clear hp hra hrbb hda hdb hma hmb hcan hcbn hfe hrv' hfk
      have t2 : (p1 : Int) < (Ra.n0 : Int) := by omega
      have t3 : (p2 : Int) < (Rb.n0 : Int) := by omega
      have hb2 : Below wr.heap.size wr (wr.alloc (.cells #[.int .i32 (p1 : Nat), .int .i32 (p2 : Nat)] 75)) := below_al (Below.refl _ _) _
      have HL2 := hid (HL.out.below hb2)
      have z0 := new2_0' wr (.int .i32 (p1 : Nat)) (.int .i32 (p2 : Nat)) 75
      have z1 := new2_1' wr (.int .i32 (p1 : Nat)) (.int .i32 (p2 : Nat)) 75
      have ZB := hid (heap_new wr (.cells #[.int .i32 (p1 : Nat), .int .i32 (p2 : Nat)] 75))
      clear hb2
      go_upto_region 32 with fail
      clear f0 f1
      generalize wr.alloc (.cells #[.int .i32 (p1 : Nat), .int .i32 (p2 : Nat)] 75) = W2 at HL2 ZB z0 z1 ⊢
      generalize wr.heap.size = Z at ZB z0 z1 ⊢
      obtain ⟨fw1, fw2, fw3, fw4, fw5⟩ := HL2.out.cj.far
      have hfr := HL2.out.far
      obtain ⟨rcur, hrb1, _⟩ := HL2.out.blk
      obtain ⟨mcur, hmb1, _⟩ := HL2.out.cj.mrk.blk
      have c4 : W2.cell? ⟨c.cb, 4, none⟩ = some (.slice (some ⟨rb, 0, none⟩) c.frR.length c.frR.length) := by simp [World.cell?, HL2.out.cj.cbk, CP.cc]
      have bel := HL2.out.cj.bel
      have n1 : c.cb ≠ c.jb := ne_cc HL2.out.cj.cbk HL2.out.cj.jbk (by decide)
      have n2 : c.cb ≠ c.mb := ne_cc HL2.out.cj.cbk hmb1 (by decide)
      have n3 : Z ≠ c.jb := ne_cc ZB.out HL2.out.cj.jbk (by decide)
      have n4 : Z ≠ c.mb := ne_cc ZB.out hmb1 (by decide)
      have n5 : c.cb ≠ rb := ne_cc HL2.out.cj.cbk hrb1 (by decide)
      have n6 : Z ≠ rb := ne_cc ZB.out hrb1 (by decide)
      have KP := hid (fun (W' : World) (hf : Fr2 c.jb c.mb W2 W') => (⟨hf.cell c4 n1 n2, hf.cell ((bel.cell hpl).trans pa4) (by omega) (by omega), hf.cell ((bel.cell hpl2).trans pb4) (by omega) (by omega), hf.cell z0 n3 n4, hf.cell z1 n3 n4, hf.cell ((bel.cell hal).trans a0) (by omega) (by omega), hf.cell ((bel.cell (block_lt_of_cell a1)).trans a1) (by omega) (by omega), hf.cell ((bel.cell hbl).trans b0) (by omega) (by omega), hf.cell ((bel.cell (block_lt_of_cell b1)).trans b1) (by omega) (by omega)⟩ : W'.cell? ⟨c.cb, 4, none⟩ = some (.slice (some ⟨rb, 0, none⟩) c.frR.length c.frR.length) ∧ W'.cell? ⟨pa, 4, none⟩ = some (.slice (some ⟨Ra.rb, Ra.ro, none⟩) Ra.n0 Ra.rc) ∧ W'.cell? ⟨pb, 4, none⟩ = some (.slice (some ⟨Rb.rb, Rb.ro, none⟩) Rb.n0 Rb.rc) ∧ W'.cell? ⟨Z, 0, none⟩ = some (.int .i32 (p1 : Nat)) ∧ W'.cell? ⟨Z, 1, none⟩ = some (.int .i32 (p2 : Nat)) ∧ W'.cell? ⟨Ra.rb, Ra.ro + p1 * 2, none⟩ = some (.int .u8 (ra1 : Nat)) ∧ W'.cell? ⟨Ra.rb, Ra.ro + p1 * 2 + 1, none⟩ = some (.slice aa ra2.length acp) ∧ W'.cell? ⟨Rb.rb, Rb.ro + p2 * 2, none⟩ = some (.int .u8 (rb1 : Nat)) ∧ W'.cell? ⟨Rb.rb, Rb.ro + p2 * 2 + 1, none⟩ = some (.slice ba rb2.length bcp)))
      have KS := hid (fun (W' : World) (u v : Value) (hs : W'.cell? ⟨c.cb, 4, none⟩ = some (.slice (some ⟨rb, 0, none⟩) c.frR.length c.frR.length) ∧ W'.cell? ⟨pa, 4, none⟩ = some (.slice (some ⟨Ra.rb, Ra.ro, none⟩) Ra.n0 Ra.rc) ∧ W'.cell? ⟨pb, 4, none⟩ = some (.slice (some ⟨Rb.rb, Rb.ro, none⟩) Rb.n0 Rb.rc) ∧ W'.cell? ⟨Z, 0, none⟩ = some (.int .i32 (p1 : Nat)) ∧ W'.cell? ⟨Z, 1, none⟩ = some (.int .i32 (p2 : Nat)) ∧ W'.cell? ⟨Ra.rb, Ra.ro + p1 * 2, none⟩ = some (.int .u8 (ra1 : Nat)) ∧ W'.cell? ⟨Ra.rb, Ra.ro + p1 * 2 + 1, none⟩ = some (.slice aa ra2.length acp) ∧ W'.cell? ⟨Rb.rb, Rb.ro + p2 * 2, none⟩ = some (.int .u8 (rb1 : Nat)) ∧ W'.cell? ⟨Rb.rb, Rb.ro + p2 * 2 + 1, none⟩ = some (.slice ba rb2.length bcp)) => (⟨cell_kept (grown_setCell (grown_setCell (World.grownBy.refl _ _))) hs.1 n5, cell_kept (grown_setCell (grown_setCell (World.grownBy.refl _ _))) hs.2.1 (by omega), cell_kept (grown_setCell (grown_setCell (World.grownBy.refl _ _))) hs.2.2.1 (by omega), cell_kept (grown_setCell (grown_setCell (World.grownBy.refl _ _))) hs.2.2.2.1 n6, cell_kept (grown_setCell (grown_setCell (World.grownBy.refl _ _))) hs.2.2.2.2.1 n6, cell_kept (grown_setCell (grown_setCell (World.grownBy.refl _ _))) hs.2.2.2.2.2.1 (by omega), cell_kept (grown_setCell (grown_setCell (World.grownBy.refl _ _))) hs.2.2.2.2.2.2.1 (by omega), cell_kept (grown_setCell (grown_setCell (World.grownBy.refl _ _))) hs.2.2.2.2.2.2.2.1 (by omega), cell_kept (grown_setCell (grown_setCell (World.grownBy.refl _ _))) hs.2.2.2.2.2.2.2.2 (by omega)⟩ : ((W'.setCell ⟨rb, k * 2, none⟩ u).setCell ⟨rb, k * 2 + 1, none⟩ v).cell? ⟨c.cb, 4, none⟩ = some (.slice (some ⟨rb, 0, none⟩) c.frR.length c.frR.length) ∧ ((W'.setCell ⟨rb, k * 2, none⟩ u).setCell ⟨rb, k * 2 + 1, none⟩ v).cell? ⟨pa, 4, none⟩ = some (.slice (some ⟨Ra.rb, Ra.ro, none⟩) Ra.n0 Ra.rc) ∧ ((W'.setCell ⟨rb, k * 2, none⟩ u).setCell ⟨rb, k * 2 + 1, none⟩ v).cell? ⟨pb, 4, none⟩ = some (.slice (some ⟨Rb.rb, Rb.ro, none⟩) Rb.n0 Rb.rc) ∧ ((W'.setCell ⟨rb, k * 2, none⟩ u).setCell ⟨rb, k * 2 + 1, none⟩ v).cell? ⟨Z, 0, none⟩ = some (.int .i32 (p1 : Nat)) ∧ ((W'.setCell ⟨rb, k * 2, none⟩ u).setCell ⟨rb, k * 2 + 1, none⟩ v).cell? ⟨Z, 1, none⟩ = some (.int .i32 (p2 : Nat)) ∧ ((W'.setCell ⟨rb, k * 2, none⟩ u).setCell ⟨rb, k * 2 + 1, none⟩ v).cell? ⟨Ra.rb, Ra.ro + p1 * 2, none⟩ = some (.int .u8 (ra1 : Nat)) ∧ ((W'.setCell ⟨rb, k * 2, none⟩ u).setCell ⟨rb, k * 2 + 1, none⟩ v).cell? ⟨Ra.rb, Ra.ro + p1 * 2 + 1, none⟩ = some (.slice aa ra2.length acp) ∧ ((W'.setCell ⟨rb, k * 2, none⟩ u).setCell ⟨rb, k * 2 + 1, none⟩ v).cell? ⟨Rb.rb, Rb.ro + p2 * 2, none⟩ = some (.int .u8 (rb1 : Nat)) ∧ ((W'.setCell ⟨rb, k * 2, none⟩ u).setCell ⟨rb, k * 2 + 1, none⟩ v).cell? ⟨Rb.rb, Rb.ro + p2 * 2 + 1, none⟩ = some (.slice ba rb2.length bcp)))
      have KQ := hid (fun (W' : World) (hf : Fr2 c.jb c.mb W2 W') => HL2.out.slot hlt hf)
      have hb0 : Below W2.heap.size W2 W2.drew := (Below.refl _ _).drew
      have hf0 : Fr2 c.jb c.mb W2 W2.drew := (Fr2.refl _ _ _).belowS hb0
      clear c4 bel n1 n2 n3 n4 n5 n6 pa4 pb4 z0 z1 a0 a1 b0 b1 hal hbl hpl hpl2 hrb1 hmb1 fw1 fw2 fw3 fw4 fw5 hfr ZB oka okb hrl hrl2 HL
      go_region_held3 (fun W' => W'.cell? ⟨c.cb, 4, none⟩ = some (.slice (some ⟨rb, 0, none⟩) c.frR.length c.frR.length) ∧ W'.cell? ⟨pa, 4, none⟩ = some (.slice (some ⟨Ra.rb, Ra.ro, none⟩) Ra.n0 Ra.rc) ∧ W'.cell? ⟨pb, 4, none⟩ = some (.slice (some ⟨Rb.rb, Rb.ro, none⟩) Rb.n0 Rb.rc) ∧ W'.cell? ⟨Z, 0, none⟩ = some (.int .i32 (p1 : Nat)) ∧ W'.cell? ⟨Z, 1, none⟩ = some (.int .i32 (p2 : Nat)) ∧ W'.cell? ⟨Ra.rb, Ra.ro + p1 * 2, none⟩ = some (.int .u8 (ra1 : Nat)) ∧ W'.cell? ⟨Ra.rb, Ra.ro + p1 * 2 + 1, none⟩ = some (.slice aa ra2.length acp) ∧ W'.cell? ⟨Rb.rb, Rb.ro + p2 * 2, none⟩ = some (.int .u8 (rb1 : Nat)) ∧ W'.cell? ⟨Rb.rb, Rb.ro + p2 * 2 + 1, none⟩ = some (.slice ba rb2.length bcp))
        (first | exact KP.out _ hf0 | exact KP.out _ (by assumption) | exact KS.out _ _ _ (KP.out _ (by assumption)))
        ((go_at_call 25; refine (HJ.out _ _ (HL2.out.cj.below hb0)).mono ?_; rintro e w4 ⟨c', v', l', rfl, hd4, hok4, hat4, hfr4, hjb4, marks4, hmk4, hml4, hmm4⟩; have hfn : Fr2 c.jb c.mb W2 w4 := hf0.trans hfr4; obtain ⟨a4, cap4, hv4⟩ := hd4.shape; subst hv4; obtain ⟨⟨y0, s0⟩, ⟨y1, s1⟩, sf⟩ := KQ.out w4 hfn; dsimp only))
      all_goals have HL3 := hid (HL2.out.joined hlt hfn hjb4 hmk4 hml4 hmm4 hd4 hok4 hat4 HP.out HRA1.out HRB1.out)
      all_goals clear hd4 hok4 hat4 hfr4 hjb4 hmk4 hml4 hmm4 s0 s1 sf
      all_goals go_wp2_with fail
      all_goals go_roundw
      all_goals first
        | exact ⟨k + 1, _, _, by omega, by simp, HL3.out⟩
        | (simp [intOf]; omega)
    · have : k = c.frR.length := by omega
      subst this
      have t1 : ¬ (c.frR.length : Int) < (c.frR.length : Int) := by omega
      go_wp2_with fail
      refine HK.out _ _ ?_
      rw [← HQ.out]
      obtain ⟨e1, e2, e3, e4, e5, e6, e7⟩ := HE.out wr marks' rows' HL.out
      exact combE (both := both) e1 e2 e3 HFAR.out HRA.out HRB.out hxa hxe hea heb e4 e5 e6 (by show 8 ≤ 4096; omega) e7 HRR.out

set_option maxRecDepth 100000 in
set_option maxHeartbeats 12800000 in
theorem combD {w W : World} {pa pb xa xe : Nat} {both : Bool} {c : CP} {marks : List Nat} {Ra Rb : Rel} (h : CJ w W c 0 marks (.slice none 0 0) Ra Rb) (ha : RelAt w pa Ra) (hB : RelAt w pb Rb) (hxa : Ra.ex = .map (some xa)) (hxe : Rb.ex = .map (some xe)) (hea : Ra.eb ≤ 4096) (heb : Rb.eb ≤ 4096) (hna : Ra.n1 ≤ 4) (hnb : Rb.n1 ≤ 4) (hca : Can Ra.n1 Ra.rows) (hcb : Can Rb.n1 Rb.rows) (hg : c.g = if both then 22 else 23)
    {RR : Ending → World → Prop} (hRR : ∀ (R Rx : Rel) (w' : World), Below w.heap.size w w' → (∀ x y, x.size ≤ maxLen → y.size ≤ maxLen → Rx.holds x y = bop both (Ra.holds x y) (Rb.holds x y)) → (∃ W p, RelAt W p Rx) → Merged Rx R → RelAt w' c.cb R → 0 < R.n0 → 0 < R.n1 → RR (.returned (.pointer (some ⟨c.cb, 0, none⟩))) w')
    {u3 u4 u5 u6 u7 u8 u9 u10 u14 u15 u16 u17 u18 u19 u20 u21 u22 u23 u24 u25 u26 u27 u28 u29 u30 u31 u32 u33 u34 u35 u36 u37 u38 u39 u40 u41 u42 u43 u44 u45 u46 u47 u48 u49 u50 u51 u52 u53 u54 u55 u56 u57 u58 u59 u60 u61 u62 u63 u64 u65 u66 u67 u68 u69 u70 u71 u72 u73 u74 u75 u76 u77 u78 u79 u80 u81 u82 u83 u84 u85 u86 u87 u88 u89 u90 u91 u92 u93 u94 u95 u96 u97 u98 u99 u100 u101 u102 u103 u104 u105 u106 u107 u108 u109 u110 u111 u112 u113 u114 u115 u116 u117 u118 u119 u120 u121 u122 u123 u124 u125 u126 u127 u128 u129 u130 u131 u132 u133 u134 u135 u136 u137 u138 u139 u140 u141 u142 u143 u144 u145 u146 u147 u148 u149 u150 u151 u152 u153 u154 u155 u156 u157 u158 u159 u160 u161 u162 u163 u164 u165 u166 u167 u168 u169 u170 u171 u172 u173 u174 u175 u176 u177 u178 u179 u180 u181 u182 u183 u184 u185 u186 u187 u188 u189 u190 u191 u192 u193 u194 u195 u196 u197 u198 u199 u200 u201 u202 u203 u204 u205 u206 u207 u208 u209 u210 u211 u212 u213 u214 u215 u216 u217 u218 u219 u220 u221 u222 u223 u224 u225 u226 u227 u228 u229 u230 u231 u232 u233 u234 u235 u236 u237 u238 u239 u240 u241 u242 u243 u244 u245 u246 u247 u248 u249 : Value} :
    Code.wp Yba.prog (dropC 10 (codeOf Yba.f14)) (bodyPost Yba.prog Yba.f14 RR) ⟨#[.pointer (some ⟨pa, 0, none⟩), .pointer (some ⟨pb, 0, none⟩), .bool both, u3, u4, u5, u6, u7, u8, u9, u10, .pointer (some ⟨c.jb, 0, none⟩), .pointer (some ⟨c.cb, 0, none⟩), c.rv, u14, u15, u16, u17, u18, u19, u20, u21, u22, u23, u24, u25, u26, u27, u28, u29, u30, u31, u32, u33, u34, u35, u36, u37, u38, u39, u40, u41, u42, u43, u44, u45, u46, u47, u48, u49, u50, u51, u52, u53, u54, u55, u56, u57, u58, u59, u60, u61, u62, u63, u64, u65, u66, u67, u68, u69, u70, u71, u72, u73, u74, u75, u76, u77, u78, u79, u80, u81, u82, u83, u84, u85, u86, u87, u88, u89, u90, u91, u92, u93, u94, u95, u96, u97, u98, u99, u100, u101, u102, u103, u104, u105, u106, u107, u108, u109, u110, u111, u112, u113, u114, u115, u116, u117, u118, u119, u120, u121, u122, u123, u124, u125, u126, u127, u128, u129, u130, u131, u132, u133, u134, u135, u136, u137, u138, u139, u140, u141, u142, u143, u144, u145, u146, u147, u148, u149, u150, u151, u152, u153, u154, u155, u156, u157, u158, u159, u160, u161, u162, u163, u164, u165, u166, u167, u168, u169, u170, u171, u172, u173, u174, u175, u176, u177, u178, u179, u180, u181, u182, u183, u184, u185, u186, u187, u188, u189, u190, u191, u192, u193, u194, u195, u196, u197, u198, u199, u200, u201, u202, u203, u204, u205, u206, u207, u208, u209, u210, u211, u212, u213, u214, u215, u216, u217, u218, u219, u220, u221, u222, u223, u224, u225, u226, u227, u228, u229, u230, u231, u232, u233, u234, u235, u236, u237, u238, u239, u240, u241, u242, u243, u244, u245, u246, u247, u248, u249], []⟩ W := by
  obtain ⟨fb, fcap, fcur, hrv, _, _⟩ := h.s0.prs
  have h9 := h.s0.le
  have hpos := h.s0.pos
  obtain ⟨i0, hi0, hz0, hz1, hz2⟩ := info_parts info57
  have HST := hid (fun (w3 : World) (hgr : W.grownBy w3 none) (hrow : w3.ownsRow W.heap.size 57 2 (.slice (some ⟨W.heap.size, 0, none⟩) c.frR.length c.frR.length) c.frR.length (madeCells #[.int .u8 0, .slice none 0 0] (c.frR.length * 2)).toList) => by
    have hb : Below W.heap.size W w3 := (Below.refl _ _).grown hgr (Nat.le_refl _) (fun k hk => by cases hk)
    have h3 := h.below hb
    obtain ⟨hr1, cur, hr2, hr3⟩ := made_rows (n1 := c.fr.length) hrow
    have hcw := lt_of_block h.cbk
    have hg : w3.grownBy (w3.setCell ⟨c.cb, 4, none⟩ (.slice (some ⟨W.heap.size, 0, none⟩) c.frR.length c.frR.length)) (some c.cb) := grown_setCell (World.grownBy.refl _ _)
    exact (⟨h3.setRows, ⟨cur, (hg.block _ (lt_of_block hr2) (fun e => by have := Option.some.inj e; omega)).trans hr2, hr3⟩, hr1.kept2 hg h3.cbk (by decide) (by decide) (by omega), by simp, fun i p r ra rb hi => by omega, h.bel.size⟩ : LD w (w3.setCell ⟨c.cb, 4, none⟩ (.slice (some ⟨W.heap.size, 0, none⟩) c.frR.length c.frR.length)) c W.heap.size Ra Rb both 0 marks (List.replicate c.frR.length (0, []))))
  have HC4 := hid (fun (w3 : World) (hgr : W.grownBy w3 none) => (⟨by
    have h3 := (hgr.block _ (lt_of_block h.cbk) (by simp)).trans h.cbk
    simp [World.cell?, h3, CP.cc], fun j => by
    have h3 := (hgr.block _ (lt_of_block h.cbk) (by simp)).trans h.cbk
    simp [World.frozen?, h3]⟩ : w3.cell? ⟨c.cb, 4, none⟩ = some (.slice none 0 0) ∧ ∀ j, w3.frozen? ⟨c.cb, j, none⟩ = false))
  have HRV := hid hrv
  have HRA := hid ha
  have HRB := hid hB
  have HCA := hid hca
  have HCB := hid hcb
  have HRR := hid hRR
  have HG := hid hg
  rw [hrv]
  clear hrv hRR h ha hB hca hcb hg
  generalize hQ : bodyPost Yba.prog Yba.f14 RR = Q
  have HQ := hid hQ
  clear hQ
  simp only [dropC, codeOf, Yba.f14, Option.getD_some]
  refine wp_seq_k (fun K hK => ?_)
  have HK := hid hK
  clear hK
  obtain ⟨nn, hnn⟩ : ∃ nn, nn = c.frR.length := ⟨_, rfl⟩
  rw [← hnn] at HST h9
  rw [← hnn]
  have HNN := hid hnn
  clear hnn hpos
  go_wp2_with (at_make; refine wpList_make_full _ rfl _ _ 47 rfl W.heap.size 57 i0 _ 2 Yba.underlying47 hi0 hz0 hz1 .i64 .i64 (nn : Int) (nn : Int) nn rfl rfl rfl rfl ?b2 ?b3 ?b4 ?_)
  case b2 => rw [hz2]; omega
  case b3 => unfold maxLen; omega
  case b4 => exact Nat.le_refl _
  intro w3 hrow hgr
  obtain ⟨q4, qf⟩ := HC4.out w3 hgr
  have HL := hid (HST.out w3 hgr hrow)
  clear hrow hgr HST HC4 hi0 hz0 hz1 hz2
  go_wp2_with fail
  refine HK.out _ _ ?_
  rw [← HQ.out, HNN.out, ← HRV.out]
  exact combD2 (HNN.out ▸ HL.out) HRA.out HRB.out hxa hxe hea heb hna hnb HCA.out HCB.out HG.out HRR.out
end Go.Proofs.Ybulkatiq
