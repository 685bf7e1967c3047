/-
  combine: the classes are joined.
-/
import Derived.Test.YbulkatiqCombC
set_option linter.unusedVariables false
set_option linter.unusedSimpArgs false
namespace Go.Proofs.Ybulkatiq
open Go.ChangeShapes Go.WideShapes Go.ChangeAt Go.RowKit Go.Maps Go.WideMaps

theorem AtMap.isMap {W : World} {a : Value} {fr : List (Nat × Nat)} {n m : Nat} (h : AtMap W a fr n m) : ∃ o, a = .map o := by
  rcases h with ⟨h1, _⟩ | ⟨b, N, D, h1, _⟩
  · exact ⟨_, h1⟩
  · exact ⟨_, h1⟩

theorem bset {w W : World} {b o : Nat} {v : Value} (h : Below w.heap.size w W) (hb : w.heap.size ≤ b) : Below w.heap.size w (W.setCell ⟨b, o, none⟩ v) :=
  h.grown (grown_setCell (World.grownBy.refl W (some b))) h.size (fun k e => by have := Option.some.inj e; omega)

theorem heap_setCell_ne {W : World} {b o k : Nat} {v : Value} {x : Obj} (h : W.heap[k]? = some x) (hne : k ≠ b) : (W.setCell ⟨b, o, none⟩ v).heap[k]? = some x :=
  ((grown_setCell (World.grownBy.refl W (some b)) : W.grownBy (W.setCell ⟨b, o, none⟩ v) (some b)).block k (lt_of_block h) (fun e => hne (Option.some.inj e))).trans h

theorem KM.set {W : World} {b o : Nat} {v : Value} {cs : Array Value} {t : TypeId} (h : W.heap[b]? = some (.cells cs t (0, 0))) (h1 : t ≠ 75) (h2 : t ≠ 55) : KM W (W.setCell ⟨b, o, none⟩ v) := KM.grown (grown_setCell (World.grownBy.refl W (some b))) h h1 h2

theorem alloc_setCell {W : World} {b o : Nat} {v : Value} {x : Obj} (hb : b < W.heap.size) : (W.setCell ⟨b, o, none⟩ v).alloc x = (W.alloc x).setCell ⟨b, o, none⟩ v := by
  unfold World.setCell World.alloc
  simp only [World.mk.injEq, and_true]
  apply Array.ext_getElem?
  intro i
  rw [Array.getElem?_push, Array.getElem?_modify, Array.getElem?_modify, Array.getElem?_push, Array.size_modify]
  by_cases h1 : i = W.heap.size
  · rw [if_pos h1, if_neg (by omega), if_pos h1]
  · rw [if_neg h1, if_neg h1]

def j0 (g : Nat) (fv av : Value) : Array Value := #[.func (.func g) #[] #[], fv, av, .slice none 0 0, .slice none 0 0, .int .i32 0, .slice none 0 0, .int .i32 0]

/-- One side is joined. -/
structure SB (w W : World) (jb cb g : Nat) (mv0 rv av0 : Value) (frR : List (Nat × Nat)) (jr : ByteArray → Nat) (Ra Rb : Rel) : Prop where
  bel : Below w.heap.size w W
  jbk : W.heap[jb]? = some (.cells (j0 g (.slice none 0 0) (.map none)) 72 (0, 0))
  cbk : W.heap[cb]? = some (.cells #[mv0, .int .i32 (frR.length : Nat), .map none, .int .i32 0, .slice none 0 0, .map none] 50 (0, 0))
  s0 : SideJ W mv0 rv av0 Ra.n0 Rb.n0 Ra.of0 Rb.of0 frR jr
  far : w.heap.size ≤ jb ∧ w.heap.size ≤ cb

/-- Both are. -/
structure SC (w W : World) (jb cb g : Nat) (mv0 rv av0 mv1 fv av : Value) (frR fr : List (Nat × Nat)) (jr js : ByteArray → Nat) (Ra Rb : Rel) : Prop where
  bel : Below w.heap.size w W
  jbk : W.heap[jb]? = some (.cells (j0 g fv av) 72 (0, 0))
  cbk : W.heap[cb]? = some (.cells #[mv0, .int .i32 (frR.length : Nat), mv1, .int .i32 (fr.length : Nat), .slice none 0 0, .map none] 50 (0, 0))
  s0 : SideJ W mv0 rv av0 Ra.n0 Rb.n0 Ra.of0 Rb.of0 frR jr
  s1 : SideJ W mv1 fv av Ra.n1 Rb.n1 Ra.of1 Rb.of1 fr js
  far : w.heap.size ≤ jb ∧ w.heap.size ≤ cb

theorem SB.joined {w W W' : World} {jb cb g : Nat} {mv0 rv av0 mv1 fv av : Value} {frR fr : List (Nat × Nat)} {jr js : ByteArray → Nat} {Ra Rb : Rel} (h : SB w W jb cb g mv0 rv av0 frR jr Ra Rb) (hb : Below W.heap.size W W') (hs : SideJ W' mv1 fv av Ra.n1 Rb.n1 Ra.of1 Rb.of1 fr js) :
    SC w ((((W'.setCell ⟨cb, 2, none⟩ mv1).setCell ⟨cb, 3, none⟩ (.int .i32 (fr.length : Nat))).setCell ⟨jb, 1, none⟩ fv).setCell ⟨jb, 2, none⟩ av) jb cb g mv0 rv av0 mv1 fv av frR fr jr js Ra Rb := by
  have hjc := ne_cc h.jbk h.cbk (by decide)
  have b0 := h.bel.trans (hb.mono h.bel.size)
  have j := (hb.block _ (lt_of_block h.jbk)).trans h.jbk
  have c := (hb.block _ (lt_of_block h.cbk)).trans h.cbk
  have c1 := heap_setCell_same W' cb 2 _ 50 mv1 c
  have k1 : KM W' _ := KM.set (o := 2) (v := mv1) c (by decide) (by decide)
  have j1 := heap_setCell_ne (b := cb) (o := 2) (v := mv1) j hjc
  have c2 := heap_setCell_same _ cb 3 _ 50 (.int .i32 (fr.length : Nat)) c1
  have k2 := k1.trans (KM.set (o := 3) (v := .int .i32 (fr.length : Nat)) c1 (by decide) (by decide))
  have j2 := heap_setCell_ne (b := cb) (o := 3) (v := .int .i32 (fr.length : Nat)) j1 hjc
  have c3 := heap_setCell_ne (b := jb) (o := 1) (v := fv) c2 (fun e => hjc e.symm)
  have k3 := k2.trans (KM.set (o := 1) (v := fv) j2 (by decide) (by decide))
  have j3 := heap_setCell_same _ jb 1 _ 72 fv j2
  have c4 := heap_setCell_ne (b := jb) (o := 2) (v := av) c3 (fun e => hjc e.symm)
  have k4 := k3.trans (KM.set (o := 2) (v := av) j3 (by decide) (by decide))
  have j4 := heap_setCell_same _ jb 2 _ 72 av j3
  exact ⟨bset (bset (bset (bset b0 h.far.2) h.far.2) h.far.1) h.far.1, j4, c4, (h.s0.below hb).km k4, hs.km k4, h.far⟩

theorem SC.below {w W W' : World} {jb cb g : Nat} {mv0 rv av0 mv1 fv av : Value} {frR fr : List (Nat × Nat)} {jr js : ByteArray → Nat} {Ra Rb : Rel} (h : SC w W jb cb g mv0 rv av0 mv1 fv av frR fr jr js Ra Rb) (hb : Below W.heap.size W W') : SC w W' jb cb g mv0 rv av0 mv1 fv av frR fr jr js Ra Rb :=
  ⟨h.bel.trans (hb.mono h.bel.size), (hb.block _ (lt_of_block h.jbk)).trans h.jbk, (hb.block _ (lt_of_block h.cbk)).trans h.cbk, h.s0.below hb, h.s1.below hb, h.far⟩

abbrev made21 (n : Nat) : Obj := .cells (madeCells #[.int .i32 0] n) 21
theorem made21_row (X : World) (n : Nat) : RowI (X.alloc (made21 n)) X.heap.size (List.replicate n 0) := by
  have h : (X.alloc (made21 n)).heap[X.heap.size]? = some (.cells (madeCells #[.int .i32 0] n) 21 (0, 0)) := heap_new X (made21 n)
  refine ⟨⟨_, h, by simp [size_madeCells]⟩, fun i x hx => ?_⟩
  rw [List.getElem?_replicate] at hx
  split at hx
  · rename_i hi
    simp only [Option.some.injEq] at hx
    subst hx
    simp only [World.cell?, h]
    simp [madeCells, hi, Nat.mod_one]
  · cases hx

theorem SC.marked {w W X : World} {jb cb g : Nat} {mv0 rv av0 mv1 fv av : Value} {frR fr : List (Nat × Nat)} {jr js : ByteArray → Nat} {Ra Rb : Rel} (h : SC w W jb cb g mv0 rv av0 mv1 fv av frR fr jr js Ra Rb) (hb : Below W.heap.size W X) (hm : RowI X W.heap.size (List.replicate fr.length 0)) :
    CIn w ((X.setCell ⟨jb, 5, none⟩ (.int .i32 (fr.length : Nat))).setCell ⟨jb, 6, none⟩ (.slice (some ⟨W.heap.size, 0, none⟩) fr.length fr.length)) ⟨jb, cb, W.heap.size, fr.length, g, 0, 0, 0, 0, mv0, rv, av0, mv1, fv, av, frR, fr, jr, js, fun _ => .map none, fun _ => .map none⟩ (.slice none 0 0) (.slice none 0 0) Ra Rb := by
  have h1 := h.below hb
  have hjl := lt_of_block h.jbk
  have hsz := h.bel.size
  have hjc := ne_cc h1.cbk h1.jbk (by decide)
  have j5 := heap_setCell_same X jb 5 _ 72 (.int .i32 (fr.length : Nat)) h1.jbk
  have j6 := heap_setCell_same _ jb 6 _ 72 (.slice (some ⟨W.heap.size, 0, none⟩) fr.length fr.length) j5
  have c5 := heap_setCell_ne (b := jb) (o := 5) (v := .int .i32 (fr.length : Nat)) h1.cbk hjc
  have c6 := heap_setCell_ne (b := jb) (o := 6) (v := .slice (some ⟨W.heap.size, 0, none⟩) fr.length fr.length) c5 hjc
  have k := (KM.set (o := 5) (v := .int .i32 (fr.length : Nat)) h1.jbk (by decide) (by decide)).trans (KM.set (o := 6) (v := .slice (some ⟨W.heap.size, 0, none⟩) fr.length fr.length) j5 (by decide) (by decide))
  have m5 := hm.other (grown_setCell (World.grownBy.refl X (some jb)) : X.grownBy (X.setCell ⟨jb, 5, none⟩ (.int .i32 (fr.length : Nat))) (some jb)) (by omega)
  have m6 := m5.other (grown_setCell (World.grownBy.refl _ (some jb)) : (X.setCell ⟨jb, 5, none⟩ (.int .i32 (fr.length : Nat))).grownBy ((X.setCell ⟨jb, 5, none⟩ (.int .i32 (fr.length : Nat))).setCell ⟨jb, 6, none⟩ (.slice (some ⟨W.heap.size, 0, none⟩) fr.length fr.length)) (some jb)) (by omega)
  exact ⟨bset (bset h1.bel h.far.1) h.far.1, j6, c6, m6, h1.s0.km k, h1.s1.km k, h.far.1, h.far.2, hsz⟩

set_option maxRecDepth 100000 in
set_option maxHeartbeats 12800000 in
theorem combB2 {w W : World} {pa pb jb cb g : Nat} {both : Bool} {mv0 rv av0 mv1 fv av : Value} {frR fr : List (Nat × Nat)} {jr js : ByteArray → Nat} {Ra Rb : Rel} (h : SC w W jb cb g mv0 rv av0 mv1 fv av frR fr jr js Ra Rb) (ha : RelAt w pa Ra) (hB : RelAt w pb Rb) (hna : Ra.n1 ≤ 4) (hnb : Rb.n1 ≤ 4)
    {RR : Ending → World → Prop} {u3 u4 u5 u6 u7 u8 u9 u10 u14 u15 u16 u17 u18 u19 u20 u21 u22 u23 u24 u25 u26 u27 u28 u29 u30 u31 u32 u33 u34 u35 u36 u37 u38 u39 u40 u41 u42 u43 u44 u45 u46 u47 u48 u49 u50 u51 u52 u53 u54 u55 u56 u57 u58 u59 u60 u61 u62 u63 u64 u65 u66 u67 u68 u69 u70 u71 u72 u73 u74 u75 u76 u77 u78 u79 u80 u81 u82 u83 u84 u85 u86 u87 u88 u89 u90 u91 u92 u93 u94 u95 u96 u97 u98 u99 u100 u101 u102 u103 u104 u105 u106 u107 u108 u109 u110 u111 u112 u113 u114 u115 u116 u117 u118 u119 u120 u121 u122 u123 u124 u125 u126 u127 u128 u129 u130 u131 u132 u133 u134 u135 u136 u137 u138 u139 u140 u141 u142 u143 u144 u145 u146 u147 u148 u149 u150 u151 u152 u153 u154 u155 u156 u157 u158 u159 u160 u161 u162 u163 u164 u165 u166 u167 u168 u169 u170 u171 u172 u173 u174 u175 u176 u177 u178 u179 u180 u181 u182 u183 u184 u185 u186 u187 u188 u189 u190 u191 u192 u193 u194 u195 u196 u197 u198 u199 u200 u201 u202 u203 u204 u205 u206 u207 u208 u209 u210 u211 u212 u213 u214 u215 u216 u217 u218 u219 u220 u221 u222 u223 u224 u225 u226 u227 u228 u229 u230 u231 u232 u233 u234 u235 u236 u237 u238 u239 u240 u241 u242 u243 u244 u245 u246 u247 u248 u249 : Value} (hNext : NextD w pa pb jb cb g both Ra Rb RR) :
    Code.wp Yba.prog (dropC 8 (codeOf Yba.f14)) (bodyPost Yba.prog Yba.f14 RR) ⟨#[.pointer (some ⟨pa, 0, none⟩), .pointer (some ⟨pb, 0, none⟩), .bool both, u3, u4, u5, u6, u7, u8, u9, u10, .pointer (some ⟨jb, 0, none⟩), .pointer (some ⟨cb, 0, none⟩), rv, u14, u15, u16, u17, u18, u19, u20, u21, u22, u23, u24, u25, u26, u27, u28, u29, u30, u31, u32, u33, u34, u35, u36, u37, u38, u39, u40, u41, u42, u43, u44, u45, u46, u47, u48, u49, u50, u51, u52, u53, u54, u55, u56, u57, u58, u59, u60, u61, u62, u63, u64, u65, u66, u67, u68, u69, u70, u71, u72, u73, u74, u75, u76, u77, u78, u79, u80, u81, u82, u83, u84, u85, u86, u87, u88, u89, u90, u91, u92, u93, u94, u95, u96, u97, u98, u99, u100, u101, u102, u103, u104, u105, u106, u107, u108, u109, u110, u111, u112, u113, u114, u115, u116, u117, u118, u119, u120, u121, u122, u123, u124, u125, u126, u127, u128, u129, u130, u131, u132, u133, u134, u135, u136, u137, u138, u139, u140, u141, u142, u143, u144, u145, u146, u147, u148, u149, u150, u151, u152, u153, u154, u155, u156, u157, u158, u159, u160, u161, u162, u163, u164, u165, u166, u167, u168, u169, u170, u171, u172, u173, u174, u175, u176, u177, u178, u179, u180, u181, u182, u183, u184, u185, u186, u187, u188, u189, u190, u191, u192, u193, u194, u195, u196, u197, u198, u199, u200, u201, u202, u203, u204, u205, u206, u207, u208, u209, u210, u211, u212, u213, u214, u215, u216, u217, u218, u219, u220, u221, u222, u223, u224, u225, u226, u227, u228, u229, u230, u231, u232, u233, u234, u235, u236, u237, u238, u239, u240, u241, u242, u243, u244, u245, u246, u247, u248, u249], []⟩ W := by
  obtain ⟨j0, hj0, hy0, hy1, hy2⟩ := info_parts info21
  have h9 := h.s1.le
  have hmk : ∀ W : World, (Instr.makeSlice 70 (.int .i32 (fr.length : Nat)) (.int .i32 (fr.length : Nat))).run Yba.prog W = .ok (.slice (some ⟨W.heap.size, 0, none⟩) fr.length fr.length) (W.alloc (made21 fr.length)) := fun W => by
    have h := run_makeSlice (P := Yba.prog) W 70 21 j0 _ Yba.underlying70 hj0 hy0 .i32 .i32 (fr.length : Int) (fr.length : Int) (by omega) (by omega) (by rw [hy1]; simp; omega) (by rw [hy2]; simp; omega) (by omega)
    rw [hy1] at h
    simpa [Value.cells] using h
  have HN := hid hNext
  have HRA := hid ha
  have HRB := hid hB
  have hbn : Below W.heap.size W (W.alloc (made21 fr.length)).drew := Below.drew (below_al (Below.refl _ _) _)
  have HC := hid (h.marked hbn ((made21_row W fr.length).below (Below.refl _ _).drew))
  have c3 : W.cell? ⟨cb, 3, none⟩ = some (.int .i32 (fr.length : Nat)) := by simp [World.cell?, h.cbk]
  have c3' : (W.alloc (made21 fr.length)).drew.cell? ⟨cb, 3, none⟩ = some (.int .i32 (fr.length : Nat)) := (hbn.cell (block_lt_of_cell c3)).trans c3
  have hjb' := (hbn.block _ (lt_of_block h.jbk)).trans h.jbk
  have x5 : (W.alloc (made21 fr.length)).drew.cell? ⟨jb, 5, none⟩ = some (.int .i32 0) := by
    simp [World.cell?, hjb', Ybulkatiq.j0]
  have x6 : (W.alloc (made21 fr.length)).drew.cell? ⟨jb, 6, none⟩ = some (.slice none 0 0) := by
    simp [World.cell?, hjb', Ybulkatiq.j0]
  have xf : ∀ j, (W.alloc (made21 fr.length)).drew.frozen? ⟨jb, j, none⟩ = false := fun j => by
    simp [World.frozen?, hjb']
  have x5' : (W.alloc (made21 fr.length)).cell? ⟨jb, 5, none⟩ = some (.int .i32 0) := x5
  have x6' : (W.alloc (made21 fr.length)).cell? ⟨jb, 6, none⟩ = some (.slice none 0 0) := x6
  have xf' : ∀ j, (W.alloc (made21 fr.length)).frozen? ⟨jb, j, none⟩ = false := xf
  have y5 : W.cell? ⟨jb, 5, none⟩ = some (.int .i32 0) := by simp [World.cell?, h.jbk, Ybulkatiq.j0]
  have yf : ∀ j, W.frozen? ⟨jb, j, none⟩ = false := fun j => by simp [World.frozen?, h.jbk]
  have hjl := lt_of_block h.jbk
  have x6s : ∀ u, ((W.alloc (made21 fr.length)).drew.setCell ⟨jb, 5, none⟩ u).cell? ⟨jb, 6, none⟩ = some (.slice none 0 0) := fun u => by
    have e := heap_setCell_same _ jb 5 _ 72 u hjb'
    simp only [World.cell?, e]
    rfl
  have xfs : ∀ u j, ((W.alloc (made21 fr.length)).drew.setCell ⟨jb, 5, none⟩ u).frozen? ⟨jb, j, none⟩ = false := fun u j => by
    have e := heap_setCell_same _ jb 5 _ 72 u hjb'
    simp [World.frozen?, e]
  have z6 : ∀ u, ((W.setCell ⟨jb, 5, none⟩ u).alloc (made21 fr.length)).cell? ⟨jb, 6, none⟩ = some (.slice none 0 0) := fun u => by rw [alloc_setCell hjl]; exact x6s u
  have zf : ∀ u j, ((W.setCell ⟨jb, 5, none⟩ u).alloc (made21 fr.length)).frozen? ⟨jb, j, none⟩ = false := fun u j => by rw [alloc_setCell hjl]; exact xfs u j
  have HC3 := hid (show CIn w (((W.setCell ⟨jb, 5, none⟩ (.int .i32 (fr.length : Nat))).setCell ⟨jb, 6, none⟩ (.slice (some ⟨W.heap.size, 0, none⟩) fr.length fr.length)).alloc (made21 fr.length)).drew ⟨jb, cb, W.heap.size, fr.length, g, 0, 0, 0, 0, mv0, rv, av0, mv1, fv, av, frR, fr, jr, js, fun _ => .map none, fun _ => .map none⟩ (.slice none 0 0) (.slice none 0 0) Ra Rb from by rw [alloc_setCell (by simpa using hjl), alloc_setCell hjl]; exact HC.out)
  have hcj := ne_cc h.cbk h.jbk (by decide)
  clear hNext h ha hB hjb' hbn hj0 hy0 hy1 hy2 j0
  generalize hQ : bodyPost Yba.prog Yba.f14 RR = Q
  have HQ := hid hQ
  clear hQ
  simp only [dropC, codeOf, Yba.f14, Option.getD_some]
  refine wp_seq_k (fun K hK => ?_)
  have HK := hid hK
  clear hK
  have hkp : ∀ (u v : Value), (((W.alloc (made21 fr.length)).drew.setCell ⟨jb, 5, none⟩ u).setCell ⟨jb, 6, none⟩ v).cell? ⟨cb, 3, none⟩ = some (.int .i32 (fr.length : Nat)) := fun u v => cell_kept (grown_setCell (grown_setCell (World.grownBy.refl _ _))) c3' hcj
  have hkp1 : ∀ (u : Value), ((W.alloc (made21 fr.length)).drew.setCell ⟨jb, 5, none⟩ u).cell? ⟨cb, 3, none⟩ = some (.int .i32 (fr.length : Nat)) := fun u => cell_kept (grown_setCell (World.grownBy.refl _ _)) c3' hcj
  have hkr2 : ∀ (u v : Value), (((W.setCell ⟨jb, 5, none⟩ u).setCell ⟨jb, 6, none⟩ v).alloc (made21 fr.length)).cell? ⟨cb, 3, none⟩ = some (.int .i32 (fr.length : Nat)) := fun u v => by rw [alloc_setCell (by simpa using hjl), alloc_setCell hjl]; exact hkp u v
  have hkq : ∀ (u : Value), (W.setCell ⟨jb, 5, none⟩ u).cell? ⟨cb, 3, none⟩ = some (.int .i32 (fr.length : Nat)) := fun u => cell_kept (grown_setCell (World.grownBy.refl _ _)) c3 hcj
  have hkq1 : ∀ (u : Value), ((W.setCell ⟨jb, 5, none⟩ u).alloc (made21 fr.length)).cell? ⟨cb, 3, none⟩ = some (.int .i32 (fr.length : Nat)) := fun u => by rw [alloc_setCell hjl]; exact hkp1 u
  have hkq2 : ∀ (u v : Value), (((W.setCell ⟨jb, 5, none⟩ u).alloc (made21 fr.length)).setCell ⟨jb, 6, none⟩ v).cell? ⟨cb, 3, none⟩ = some (.int .i32 (fr.length : Nat)) := fun u v => by rw [alloc_setCell hjl]; exact hkp u v
  refine wp_region_noPanic ?_
  refine wp_region_held_drew (S := fun W' => W'.cell? ⟨cb, 3, none⟩ = some (.int .i32 (fr.length : Nat))) (by kernel_rfl) c3 (fun hHeld => ?_)
  refine wpAnyH_take (i := 0) (v := .pointer (some ⟨cb, 0, none⟩)) rfl (by kernel_rfl) (by kernel_rfl) (by kernel_rfl) (fun _ _ _ h => h) (Or.inl ⟨by rfl, fun W hSw => by go_simp⟩) hHeld ?_
  simp only [Act.put, List.setIfInBounds_toArray, List.set_cons_zero, List.set_cons_succ]
  refine wpAnyH_take (i := 1) (v := .pointer (some ⟨cb, 2, none⟩)) rfl (by kernel_rfl) (by kernel_rfl) (by kernel_rfl) (fun _ _ _ h => h) (Or.inl ⟨by rfl, fun W hSw => by go_simp⟩) hHeld ?_
  simp only [Act.put, List.setIfInBounds_toArray, List.set_cons_zero, List.set_cons_succ]
  refine wpAnyH_take (i := 2) (v := .pointer (some ⟨cb, 3, none⟩)) rfl (by kernel_rfl) (by kernel_rfl) (by kernel_rfl) (fun _ _ _ h => h) (Or.inl ⟨by rfl, fun W hSw => by go_simp⟩) hHeld ?_
  simp only [Act.put, List.setIfInBounds_toArray, List.set_cons_zero, List.set_cons_succ]
  refine wpAnyH_take (i := 3) (v := .int .i32 (fr.length : Nat)) rfl (by kernel_rfl) (by kernel_rfl) (by kernel_rfl) (fun _ _ _ h => h) (Or.inl ⟨by rfl, fun W hSw => by go_simp⟩) hHeld ?_
  simp only [Act.put, List.setIfInBounds_toArray, List.set_cons_zero, List.set_cons_succ]
  refine wpAnyH_take (i := 4) (v := .pointer (some ⟨cb, 0, none⟩)) rfl (by kernel_rfl) (by kernel_rfl) (by kernel_rfl) (fun _ _ _ h => h) (Or.inl ⟨by rfl, fun W hSw => by go_simp⟩) hHeld ?_
  simp only [Act.put, List.setIfInBounds_toArray, List.set_cons_zero, List.set_cons_succ]
  refine wpAnyH_take (i := 5) (v := .pointer (some ⟨cb, 2, none⟩)) rfl (by kernel_rfl) (by kernel_rfl) (by kernel_rfl) (fun _ _ _ h => h) (Or.inl ⟨by rfl, fun W hSw => by go_simp⟩) hHeld ?_
  simp only [Act.put, List.setIfInBounds_toArray, List.set_cons_zero, List.set_cons_succ]
  refine wpAnyH_take (i := 6) (v := .pointer (some ⟨cb, 3, none⟩)) rfl (by kernel_rfl) (by kernel_rfl) (by kernel_rfl) (fun _ _ _ h => h) (Or.inl ⟨by rfl, fun W hSw => by go_simp⟩) hHeld ?_
  simp only [Act.put, List.setIfInBounds_toArray, List.set_cons_zero, List.set_cons_succ]
  refine wpAnyH_take (i := 7) (v := .int .i32 (fr.length : Nat)) rfl (by kernel_rfl) (by kernel_rfl) (by kernel_rfl) (fun _ _ _ h => h) (Or.inl ⟨by rfl, fun W hSw => by go_simp⟩) hHeld ?_
  simp only [Act.put, List.setIfInBounds_toArray, List.set_cons_zero, List.set_cons_succ]
  refine wpAnyH_take (i := 9) (v := .pointer (some ⟨jb, 5, none⟩)) rfl (by kernel_rfl) (by kernel_rfl) (by kernel_rfl) (fun _ _ _ h => h) (Or.inl ⟨by rfl, fun W hSw => by go_simp⟩) hHeld ?_
  simp only [Act.put, List.setIfInBounds_toArray, List.set_cons_zero, List.set_cons_succ]
  refine wpAnyH_ready (rs := [8, 10]) (by kernel_rfl) (by simp) ?_
  refine AllReadyH.cons rfl (fun K hK => ?_) (AllReadyH.cons rfl (fun K hK => ?_) AllReadyH.nil)
  · go_simp
    refine hK.out _ _ ?_ (fun hHeld2 => ?_)
    · exact c3'
    clear hK K hHeld
    have hHeld := hHeld2
    clear hHeld2
    try simp only [Act.put, List.setIfInBounds_toArray, List.set_cons_zero, List.set_cons_succ]
    refine wpAnyH_ready (rs := [10]) (by kernel_rfl) (by simp) ?_
    refine AllReadyH.cons rfl (fun K hK => ?_) AllReadyH.nil
    go_simp
    refine hK.out _ _ ?_ (fun hHeld2 => ?_)
    · exact hkq1 _
    clear hK K hHeld
    have hHeld := hHeld2
    clear hHeld2
    try simp only [Act.put, List.setIfInBounds_toArray, List.set_cons_zero, List.set_cons_succ]
    refine wpAnyH_take (i := 11) (v := .pointer (some ⟨jb, 6, none⟩)) rfl (by kernel_rfl) (by kernel_rfl) (by kernel_rfl) (fun _ _ _ h => h) (Or.inl ⟨by rfl, fun W hSw => by go_simp⟩) hHeld ?_
    simp only [Act.put, List.setIfInBounds_toArray, List.set_cons_zero, List.set_cons_succ]
    refine wpAnyH_ready (rs := [12]) (by kernel_rfl) (by simp) ?_
    refine AllReadyH.cons rfl (fun K hK => ?_) AllReadyH.nil
    go_simp
    refine hK.out _ _ ?_ (fun hHeld2 => ?_)
    · exact hkr2 _ _
    clear hK K hHeld
    have hHeld := hHeld2
    clear hHeld2
    try simp only [Act.put, List.setIfInBounds_toArray, List.set_cons_zero, List.set_cons_succ]
    refine wpAnyH_done (by kernel_rfl) ?_ _
    refine NoPanic.normal ?_
    go_wp2_with fail
    refine HK.out _ _ ?_
    rw [← HQ.out]
    exact combC HC3.out HRA.out HRB.out hna hnb HN.out
  · go_simp
    refine hK.out _ _ ?_ (fun hHeld2 => ?_)
    · exact hkq _
    clear hK K hHeld
    have hHeld := hHeld2
    clear hHeld2
    try simp only [Act.put, List.setIfInBounds_toArray, List.set_cons_zero, List.set_cons_succ]
    refine wpAnyH_ready (rs := [8]) (by kernel_rfl) (by simp) ?_
    refine AllReadyH.cons rfl (fun K hK => ?_) AllReadyH.nil
    go_simp
    refine hK.out _ _ ?_ (fun hHeld2 => ?_)
    · exact hkq1 _
    clear hK K hHeld
    have hHeld := hHeld2
    clear hHeld2
    try simp only [Act.put, List.setIfInBounds_toArray, List.set_cons_zero, List.set_cons_succ]
    refine wpAnyH_take (i := 11) (v := .pointer (some ⟨jb, 6, none⟩)) rfl (by kernel_rfl) (by kernel_rfl) (by kernel_rfl) (fun _ _ _ h => h) (Or.inl ⟨by rfl, fun W hSw => by go_simp⟩) hHeld ?_
    simp only [Act.put, List.setIfInBounds_toArray, List.set_cons_zero, List.set_cons_succ]
    refine wpAnyH_ready (rs := [12]) (by kernel_rfl) (by simp) ?_
    refine AllReadyH.cons rfl (fun K hK => ?_) AllReadyH.nil
    go_simp
    refine hK.out _ _ ?_ (fun hHeld2 => ?_)
    · exact hkr2 _ _
    clear hK K hHeld
    have hHeld := hHeld2
    clear hHeld2
    try simp only [Act.put, List.setIfInBounds_toArray, List.set_cons_zero, List.set_cons_succ]
    refine wpAnyH_done (by kernel_rfl) ?_ _
    refine NoPanic.normal ?_
    go_wp2_with fail
    refine HK.out _ _ ?_
    rw [← HQ.out]
    exact combC HC3.out HRA.out HRB.out hna hnb HN.out

set_option maxRecDepth 100000 in
set_option maxHeartbeats 12800000 in
theorem combB1 {w W : World} {pa pb jb cb g : Nat} {both : Bool} {mv0 rv av0 : Value} {frR : List (Nat × Nat)} {jr : ByteArray → Nat} {Ra Rb : Rel} (h : SB w W jb cb g mv0 rv av0 frR jr Ra Rb) (ha : RelAt w pa Ra) (hB : RelAt w pb Rb) (hna : Ra.n1 ≤ 4) (hnb : Rb.n1 ≤ 4) (hnx : 1 ≤ Ra.n1 ∧ 1 ≤ Rb.n1) (hca : Ra.nb ≤ 4) (hcb : Rb.nb ≤ 4)
    {RR : Ending → World → Prop} {u3 u4 u5 u6 u7 u8 u9 u10 u14 u15 u16 u17 u18 u19 u20 u21 u22 u23 u24 u25 u26 u27 u28 u29 u30 u31 u32 u33 u34 u35 u36 u37 u38 u39 u40 u41 u42 u43 u44 u45 u46 u47 u48 u49 u50 u51 u52 u53 u54 u55 u56 u57 u58 u59 u60 u61 u62 u63 u64 u65 u66 u67 u68 u69 u70 u71 u72 u73 u74 u75 u76 u77 u78 u79 u80 u81 u82 u83 u84 u85 u86 u87 u88 u89 u90 u91 u92 u93 u94 u95 u96 u97 u98 u99 u100 u101 u102 u103 u104 u105 u106 u107 u108 u109 u110 u111 u112 u113 u114 u115 u116 u117 u118 u119 u120 u121 u122 u123 u124 u125 u126 u127 u128 u129 u130 u131 u132 u133 u134 u135 u136 u137 u138 u139 u140 u141 u142 u143 u144 u145 u146 u147 u148 u149 u150 u151 u152 u153 u154 u155 u156 u157 u158 u159 u160 u161 u162 u163 u164 u165 u166 u167 u168 u169 u170 u171 u172 u173 u174 u175 u176 u177 u178 u179 u180 u181 u182 u183 u184 u185 u186 u187 u188 u189 u190 u191 u192 u193 u194 u195 u196 u197 u198 u199 u200 u201 u202 u203 u204 u205 u206 u207 u208 u209 u210 u211 u212 u213 u214 u215 u216 u217 u218 u219 u220 u221 u222 u223 u224 u225 u226 u227 u228 u229 u230 u231 u232 u233 u234 u235 u236 u237 u238 u239 u240 u241 u242 u243 u244 u245 u246 u247 u248 u249 : Value} (hNext : NextD w pa pb jb cb g both Ra Rb RR) :
    Code.wp Yba.prog (dropC 7 (codeOf Yba.f14)) (bodyPost Yba.prog Yba.f14 RR) ⟨#[.pointer (some ⟨pa, 0, none⟩), .pointer (some ⟨pb, 0, none⟩), .bool both, u3, u4, u5, u6, u7, u8, u9, u10, .pointer (some ⟨jb, 0, none⟩), .pointer (some ⟨cb, 0, none⟩), rv, u14, u15, u16, u17, u18, u19, u20, u21, u22, u23, u24, u25, u26, u27, u28, u29, u30, u31, u32, u33, u34, u35, u36, u37, u38, u39, u40, u41, u42, u43, u44, u45, u46, u47, u48, u49, u50, u51, u52, u53, u54, u55, u56, u57, u58, u59, u60, u61, u62, u63, u64, u65, u66, u67, u68, u69, u70, u71, u72, u73, u74, u75, u76, u77, u78, u79, u80, u81, u82, u83, u84, u85, u86, u87, u88, u89, u90, u91, u92, u93, u94, u95, u96, u97, u98, u99, u100, u101, u102, u103, u104, u105, u106, u107, u108, u109, u110, u111, u112, u113, u114, u115, u116, u117, u118, u119, u120, u121, u122, u123, u124, u125, u126, u127, u128, u129, u130, u131, u132, u133, u134, u135, u136, u137, u138, u139, u140, u141, u142, u143, u144, u145, u146, u147, u148, u149, u150, u151, u152, u153, u154, u155, u156, u157, u158, u159, u160, u161, u162, u163, u164, u165, u166, u167, u168, u169, u170, u171, u172, u173, u174, u175, u176, u177, u178, u179, u180, u181, u182, u183, u184, u185, u186, u187, u188, u189, u190, u191, u192, u193, u194, u195, u196, u197, u198, u199, u200, u201, u202, u203, u204, u205, u206, u207, u208, u209, u210, u211, u212, u213, u214, u215, u216, u217, u218, u219, u220, u221, u222, u223, u224, u225, u226, u227, u228, u229, u230, u231, u232, u233, u234, u235, u236, u237, u238, u239, u240, u241, u242, u243, u244, u245, u246, u247, u248, u249], []⟩ W := by
  obtain ⟨o1, hm1⟩ := ha.s1.isMap
  obtain ⟨o2, hm2⟩ := hB.s1.isMap
  have HS := hid h
  have HN := hid hNext
  have HRA := hid ha
  have HRB := hid hB
  obtain ⟨f1, f2⟩ := h.far
  have hcj := ne_cc h.cbk h.jbk (by decide)
  have KP := hid (fun (W' : World) (hb : Below w.heap.size w W') => (⟨(ha.below hb).c2.trans (by rw [hm1]), (ha.below hb).c3, (hB.below hb).c2.trans (by rw [hm2]), (hB.below hb).c3⟩ : W'.cell? ⟨pa, 2, none⟩ = some (.map o1) ∧ W'.cell? ⟨pa, 3, none⟩ = some (.int .i32 (Ra.n1 : Nat)) ∧ W'.cell? ⟨pb, 2, none⟩ = some (.map o2) ∧ W'.cell? ⟨pb, 3, none⟩ = some (.int .i32 (Rb.n1 : Nat))))
  have HJ := hid (fun (W' : World) (hb : Below w.heap.size w W') => joinClasses24 (B := 4) ((hm1 ▸ (ha.below hb).s1).mono hca) ((hm2 ▸ (hB.below hb).s1).mono hcb) (Nat.le_refl _) hnx.1 hna hnx.2 hnb)
  have KQ := hid (fun (W' : World) (hb : Below W.heap.size W W') => by
    have c := (hb.block _ (lt_of_block h.cbk)).trans h.cbk
    have j := (hb.block _ (lt_of_block h.jbk)).trans h.jbk
    exact (⟨by simp [World.cell?, c], by simp [World.cell?, c], fun k => by simp [World.frozen?, c], fun u v => by
      have e := heap_setCell_ne (b := cb) (o := 3) (v := v) (heap_setCell_ne (b := cb) (o := 2) (v := u) j (fun e => hcj e.symm)) (fun e => hcj e.symm)
      simp [World.cell?, e, j0], fun u v k => by
      have e := heap_setCell_ne (b := cb) (o := 3) (v := v) (heap_setCell_ne (b := cb) (o := 2) (v := u) j (fun e => hcj e.symm)) (fun e => hcj e.symm)
      simp [World.frozen?, e], fun u v x => by
      have e := heap_setCell_same _ jb 1 _ 72 x (heap_setCell_ne (b := cb) (o := 3) (v := v) (heap_setCell_ne (b := cb) (o := 2) (v := u) j (fun e => hcj e.symm)) (fun e => hcj e.symm))
      simp [World.cell?, e, j0], fun u v x k => by
      have e := heap_setCell_same _ jb 1 _ 72 x (heap_setCell_ne (b := cb) (o := 3) (v := v) (heap_setCell_ne (b := cb) (o := 2) (v := u) j (fun e => hcj e.symm)) (fun e => hcj e.symm))
      simp [World.frozen?, e]⟩ : W'.cell? ⟨cb, 2, none⟩ = some (.map none) ∧ W'.cell? ⟨cb, 3, none⟩ = some (.int .i32 0) ∧ (∀ k, W'.frozen? ⟨cb, k, none⟩ = false) ∧ (∀ u v, ((W'.setCell ⟨cb, 2, none⟩ u).setCell ⟨cb, 3, none⟩ v).cell? ⟨jb, 1, none⟩ = some (.slice none 0 0)) ∧ (∀ u v k, ((W'.setCell ⟨cb, 2, none⟩ u).setCell ⟨cb, 3, none⟩ v).frozen? ⟨jb, k, none⟩ = false) ∧ (∀ u v x, (((W'.setCell ⟨cb, 2, none⟩ u).setCell ⟨cb, 3, none⟩ v).setCell ⟨jb, 1, none⟩ x).cell? ⟨jb, 2, none⟩ = some (.map none)) ∧ (∀ u v x k, (((W'.setCell ⟨cb, 2, none⟩ u).setCell ⟨cb, 3, none⟩ v).setCell ⟨jb, 1, none⟩ x).frozen? ⟨jb, k, none⟩ = false)))
  have hbw : Below W.heap.size W W.drew := (Below.refl _ _).drew
  have hb0 : Below w.heap.size w W.drew := h.bel.drew
  clear hNext h ha hB hm1 hm2
  generalize hQ : bodyPost Yba.prog Yba.f14 RR = Q
  have HQ := hid hQ
  clear hQ
  simp only [dropC, codeOf, Yba.f14, Option.getD_some]
  refine wp_seq_k (fun K hK => ?_)
  have HK := hid hK
  clear hK
  go_region_held3 (fun W' => W'.cell? ⟨pa, 2, none⟩ = some (.map o1) ∧ W'.cell? ⟨pa, 3, none⟩ = some (.int .i32 (Ra.n1 : Nat)) ∧ W'.cell? ⟨pb, 2, none⟩ = some (.map o2) ∧ W'.cell? ⟨pb, 3, none⟩ = some (.int .i32 (Rb.n1 : Nat)))
    (first | exact KP.out _ hb0 | exact KP.out _ (by assumption) | exact KP.out _ (bset (bset (by assumption) (by assumption)) (by assumption)) | exact KP.out _ (bset (bset (bset (by assumption) (by assumption)) (by assumption)) (by assumption)) | exact KP.out _ (bset (bset (bset (bset (by assumption) (by assumption)) (by assumption)) (by assumption)) (by assumption)))
    ((go_at_call 24; refine (HJ.out _ hb0).mono ?_; intro e w4 hp; obtain ⟨mv1, fv, av, fr, js, rfl, hs4, hb4⟩ := hp.side; have hbn : Below w.heap.size w w4 := hb0.trans (below_le hb4 hb0.size); have hb5 : Below W.heap.size W w4 := hbw.trans (below_le hb4 hbw.size); obtain ⟨o3, e3⟩ := hs4.cls.isMap; obtain ⟨o4, e4⟩ := hs4.atm.isMap; obtain ⟨b5, cap5, cur5, e5, _, _⟩ := hs4.prs; subst e3 e4; rw [e5] at hs4 ⊢; obtain ⟨y2, y3, yf, y4, yf4, y5, yf5⟩ := KQ.out w4 hb5; dsimp only))
  all_goals have HC := hid (HS.out.joined hb5 hs4)
  all_goals clear hs4
  all_goals go_wp2_with fail
  all_goals refine HK.out _ _ ?_
  all_goals rw [← HQ.out]
  all_goals exact combB2 HC.out HRA.out HRB.out hna hnb HN.out
end Go.Proofs.Ybulkatiq
