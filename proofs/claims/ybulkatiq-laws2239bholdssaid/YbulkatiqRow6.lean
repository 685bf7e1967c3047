/-
  join: the whole.
-/
import Derived.Test.YbulkatiqRow7
import Derived.Test.YbulkatiqRow3
import Derived.Test.YbulkatiqRow4
namespace Go.Proofs.Ybulkatiq
open Go.ChangeShapes Go.WideShapes Go.ChangeAt Go.RowKit Go.Maps Go.WideMaps

/-- What join leaves. -/
def JoinAll (w : World) (jb mb n made : Nat) (jc : Array Value) (cell : Nat → Nat) (e : Ending) (w' : World) : Prop :=
  ∃ (c' : Nat) (v' : Value) (l' : List (Nat × Nat)), e = .returned (.agg #[.int .u8 (c' : Nat), v']) ∧ DiffAt w' v' l' ∧ RowOk n c' l' ∧ (∀ x, x < n → atL c' l' x = cell x) ∧ Fr2 jb mb w w' ∧ w'.heap[jb]? = some (.cells (jc.setIfInBounds 7 (.int .i32 ((made + 1 : Nat) : Int))) 72 (0, 0)) ∧ (∃ marks, RowI w' mb marks ∧ marks.length = n ∧ ∀ l, marks.getD l 0 ≤ made + 1)

theorem get_set7 {jc : Array Value} {v u : Value} {i : Nat} (h : jc[i]? = some u) (hi : i ≠ 7) : (jc.setIfInBounds 7 v)[i]? = some u := by
  rw [Array.getElem?_setIfInBounds_ne (by omega)]
  exact h

/-- What join asks for. -/
structure JIn (w : World) (jb mb n mc made g ca cb na nb : Nat) (jc : Array Value) (marks : List Nat) (fromv atv of0 of1 va vb : Value) (fr : List (Nat × Nat)) (L0 L1 : Nat → List Nat) (U0 U1 : Nat → Value) (la lb : List (Nat × Nat)) (opf : Nat → Nat → Nat) : Prop where
  hjb : w.heap[jb]? = some (.cells jc 72 (0, 0))
  hjs : jc.size = 8
  j0 : jc[0]? = some (.func (.func g) #[] #[])
  j1 : jc[1]? = some fromv
  j2 : jc[2]? = some atv
  j3 : jc[3]? = some of0
  j4 : jc[4]? = some of1
  j5 : jc[5]? = some (.int .i32 (n : Nat))
  j6 : jc[6]? = some (.slice (some ⟨mb, 0, none⟩) n mc)
  j7 : jc[7]? = some (.int .i32 (made : Nat))
  hmk : RowI w mb marks
  hml : marks.length = n
  hmm : ∀ l, marks.getD l 0 ≤ made
  hmd : made ≤ 1000
  hD : ∀ W', Fr2 jb mb w W' → RD W' fromv atv of0 of1 va vb fr L0 L1 U0 U1 na nb la lb
  hS : RJS fr L0 L1 n na nb
  hop : OpOk g opf
  heg : ∀ args w, (callFunc g args).run Yba.prog w = .ok (.enter g args) w
  hcomm : ∀ u v, u < 4 → v < 4 → opf u v = opf v u
  hoa : RowOk na ca la
  hob : RowOk nb cb lb
  hna : na ≤ 16
  hnb : nb ≤ 16
  hn : n ≤ 12
  hca : na = 1 → la = []
  hcb : nb = 1 → lb = []

set_option maxRecDepth 100000 in
set_option maxHeartbeats 12800000 in
theorem rowJ7 {w : World} {jb mb n mc made g ca cb na nb : Nat} {jc : Array Value} {marks : List Nat} {fromv atv of0 of1 va vb : Value} {fr : List (Nat × Nat)} {L0 L1 : Nat → List Nat} {U0 U1 : Nat → Value} {la lb : List (Nat × Nat)} {opf : Nat → Nat → Nat}
    (h : JIn w jb mb n mc made g ca cb na nb jc marks fromv atv of0 of1 va vb fr L0 L1 U0 U1 la lb opf)
    {WD : World} {ax ay rs qx rx cm : Nat} (hcm : cm = opf ca cb) (hb : Below (jW2 w jb made ca cb va vb).heap.size (jW2 w jb made ca cb va vb) WD) (hax : ax = w.heap.size + 1) (hay : ay = w.heap.size + 2) (hrs : rs = w.heap.size + 3) (hqx : qx = WD.heap.size + 1) (hrx : rx = WD.heap.size + 2)
    {u0 u1 u2 u12 u13 u14 u15 u16 u17 u18 u19 u20 u21 u22 u23 u24 u25 u26 u27 u28 u29 u30 u31 u32 u33 u34 u35 u36 u37 u38 u39 u40 u41 u42 u43 u44 u45 u46 u47 u48 u49 u50 u51 u52 u53 u54 u55 u56 u57 u58 u59 u60 u61 u62 u63 u64 u65 u66 u67 u68 u69 u70 u71 u72 u73 u74 u75 u76 u77 u78 u79 u80 u81 u82 u83 u84 u85 u86 u87 u88 u89 u90 u91 u92 u93 u94 u95 u96 u97 u98 u99 u100 u101 u102 u103 u104 u105 u106 u107 u108 u109 u110 u111 u112 u113 u114 u115 u116 u117 u118 u119 u120 u121 u122 u123 u124 u125 u126 u127 u128 u129 u130 u131 u132 u133 u134 u135 u136 u137 u138 u139 u140 u141 u142 u143 u144 u145 u146 u147 u148 u149 u150 u151 u152 u153 u154 u155 u156 u157 u158 u159 u160 u161 u162 u163 u164 u165 u166 u167 u168 u169 u170 u171 u172 u173 u174 u175 u176 u177 u178 u179 u180 u181 u182 u183 u184 u185 u186 u187 u188 u189 u190 u191 u192 u193 u194 u195 u196 u197 u198 u199 u200 u201 u202 u203 u204 u205 u206 u207 u208 u209 u210 u211 u212 u213 u214 u215 u216 u217 u218 u219 u220 u221 u222 u223 u224 u225 u226 u227 u228 u229 u230 u231 u232 u233 u234 u235 u236 u237 u238 u239 u240 u241 u242 u243 u244 u245 u246 u247 u248 u249 u250 u251 u252 u253 u254 u255 u256 u257 u258 u259 u260 u261 u262 u263 u264 u265 u266 u267 u268 u269 u270 u271 u272 u273 u274 u275 u276 u277 u278 u279 u280 u281 u282 u283 u284 u285 u286 u287 u288 u289 u290 u291 u292 u293 u294 u295 u296 u297 u298 u299 : Value} :
    Code.wp Yba.prog (dropC 7 (codeOf Yba.f25)) (bodyPost Yba.prog Yba.f25 (JoinAll w jb mb n made jc (cellJ opf fr ca cb la lb))) ⟨#[u0, u1, u2, .pointer (some ⟨w.heap.size, 0, none⟩), .pointer (some ⟨ax, 0, none⟩), .pointer (some ⟨ay, 0, none⟩), .pointer (some ⟨rs, 0, none⟩), .int .u8 (cm : Nat), .pointer (some ⟨WD.heap.size, 0, none⟩), .func (.func 30) #[] #[.pointer (some ⟨w.heap.size, 0, none⟩), .pointer (some ⟨WD.heap.size, 0, none⟩)], .pointer (some ⟨qx, 0, none⟩), .pointer (some ⟨rx, 0, none⟩), u12, u13, u14, u15, u16, u17, u18, u19, u20, u21, u22, u23, u24, u25, u26, u27, u28, u29, u30, u31, u32, u33, u34, u35, u36, u37, u38, u39, u40, u41, u42, u43, u44, u45, u46, u47, u48, u49, u50, u51, u52, u53, u54, u55, u56, u57, u58, u59, u60, u61, u62, u63, u64, u65, u66, u67, u68, u69, u70, u71, u72, u73, u74, u75, u76, u77, u78, u79, u80, u81, u82, u83, u84, u85, u86, u87, u88, u89, u90, u91, u92, u93, u94, u95, u96, u97, u98, u99, u100, u101, u102, u103, u104, u105, u106, u107, u108, u109, u110, u111, u112, u113, u114, u115, u116, u117, u118, u119, u120, u121, u122, u123, u124, u125, u126, u127, u128, u129, u130, u131, u132, u133, u134, u135, u136, u137, u138, u139, u140, u141, u142, u143, u144, u145, u146, u147, u148, u149, u150, u151, u152, u153, u154, u155, u156, u157, u158, u159, u160, u161, u162, u163, u164, u165, u166, u167, u168, u169, u170, u171, u172, u173, u174, u175, u176, u177, u178, u179, u180, u181, u182, u183, u184, u185, u186, u187, u188, u189, u190, u191, u192, u193, u194, u195, u196, u197, u198, u199, u200, u201, u202, u203, u204, u205, u206, u207, u208, u209, u210, u211, u212, u213, u214, u215, u216, u217, u218, u219, u220, u221, u222, u223, u224, u225, u226, u227, u228, u229, u230, u231, u232, u233, u234, u235, u236, u237, u238, u239, u240, u241, u242, u243, u244, u245, u246, u247, u248, u249, u250, u251, u252, u253, u254, u255, u256, u257, u258, u259, u260, u261, u262, u263, u264, u265, u266, u267, u268, u269, u270, u271, u272, u273, u274, u275, u276, u277, u278, u279, u280, u281, u282, u283, u284, u285, u286, u287, u288, u289, u290, u291, u292, u293, u294, u295, u296, u297, u298, u299], []⟩ (((WD.alloc (.cells #[.slice none 0 0] 70)).alloc (.cells #[.slice none 0 0, .slice none 0 0] 84)).alloc (.cells #[.int .u8 (ca : Nat), va, .int .u8 (cb : Nat), vb] 85)) := by
  have hcm4 : cm < 4 := by rw [hcm]; exact (h.hop ca cb w h.hoa.cell h.hob.cell).1
  obtain ⟨hjq, hrxb⟩ := JQ.start (marks := marks) h.hjb h.hjs h.j6 h.hmk h.hml h.hmm hb hax hay hrs hqx hrx
  have hsz : (jW2 w jb made ca cb va vb).heap.size = w.heap.size + 4 := by unfold jW2; simp
  have hsb := hb.size
  refine rowJ3 (opf := opf) (cm := cm) hjq hrxb (by omega) h.hD h.hS (get_set7 h.j0 (by decide)) (get_set7 h.j1 (by decide)) (get_set7 h.j2 (by decide)) (get_set7 h.j3 (by decide)) (get_set7 h.j4 (by decide)) (get_set7 h.j5 (by decide)) h.hop h.heg h.hoa h.hob h.hna h.hnb h.hn hcm4 ?_
  intro W' marks' cand' cv' q0 q1 hjq' hl0 hl1 s0 s1 s2 s3 s4 s5 s6 s7 s8 s9 s10 s11 s12 s13 s14 s15 s16 s17 s18 s19 s20 s21 s22 s23 s24 s25 s26 s27 s28 s29 s30 s31 s32 s33 s34 s35 s36 s37 s38 s39 s40 s41 s42 s43 s44 s45 s46 s47 s48 s49 s50 s51 s52 s53 s54 s55 s56 s57 s58 s59 s60 s61 s62 s63 s64 s65 s66 s67 s68 s69 s70 s71 s72 s73 s74 s75 s76 s77 s78 s79 s80 s81 s82 s83 s84 s85 s86 s87 s88 s89 s90 s91 s92 s93 s94 s95 s96 s97 s98 s99 s100 s101 s102 s103 s104 s105 s106 s107 s108 s109 s110 s111 s112 s113 s114 s115 s116 s117 s118 s119 s120 s121 s122 s123 s124 s125 s126 s127 s128 s129 s130 s131 s132 s133 s134 s135 s136 s137 s138 s139 s140 s141 s142 s143 s144 s145 s146 s147 s148 s149 s150 s151 s152 s153 s154 s155 s156 s157 s158 s159 s160 s161 s162 s163 s164 s165 s166 s167 s168 s169 s170 s171 s172 s173 s174 s175 s176 s177 s178 s179 s180 s181 s182 s183 s184 s185 s186 s187 s188 s189 s190 s191 s192 s193 s194 s195 s196 s197 s198 s199 s200 s201 s202 s203 s204 s205 s206 s207 s208 s209 s210 s211 s212 s213 s214 s215 s216 s217 s218 s219 s220 s221 s222 s223 s224 s225 s226 s227 s228 s229 s230 s231 s232 s233 s234 s235 s236 s237 s238 s239 s240 s241 s242 s243 s244 s245 s246 s247 s248 s249 s250 s251 s252 s253 s254 s255 s256 s257 s258 s259 s260 s261 s262 s263 s264 s265 s266 s267 s268 s269 s270 s271 s272 s273 s274 s275 s276 s277 s278 s279 s280 s281 s282 s283 s284 s285 s286 s287 s288 s289 s290 s291 s292 s293 s294 s295 s296 s297 s298 s299 g3 g4 g5 g6 g7 g8 g9 g10
  subst g3 g4 g5 g6 g7 g8 g9 g10
  refine rowJ4 hjq' h.hD h.hS (get_set7 h.j0 (by decide)) (get_set7 h.j1 (by decide)) (get_set7 h.j2 (by decide)) (get_set7 h.j3 (by decide)) (get_set7 h.j4 (by decide)) (get_set7 h.j5 (by decide)) h.hop h.heg h.hoa h.hob h.hna h.hnb h.hn hcm4 (fun k hk => ?_) (fun k hk => ?_) (quiet_incr h.hoa.asc) (quiet_incr h.hob.asc) ?_ ?_ (fun h0 h1 => ?_) ?_
  · obtain ⟨d, hd, rfl, _⟩ := quietOf_mem.1 hk
    obtain ⟨i, hi⟩ := List.getElem?_of_mem hd
    exact (h.hoa.each i d hi).1
  · obtain ⟨d, hd, rfl, _⟩ := quietOf_mem.1 hk
    obtain ⟨i, hi⟩ := List.getElem?_of_mem hd
    exact (h.hob.each i d hi).1
  · have := quietOf_len (fun c => opf c cb) cm la
    have := h.hoa.len
    have := h.hna
    omega
  · have := quietOf_len (fun c => opf c ca) cm lb
    have := h.hob.len
    have := h.hnb
    omega
  · rintro (e | e)
    · exact h0 (by rw [h.hca e]; rfl)
    · exact h1 (by rw [h.hcb e]; rfl)
  · intro cand2 e w' hsub hqc hp
    obtain ⟨c', v', l', he, hd, hro, hat, hfr, hj2, hmk2⟩ := hp
    refine ⟨c', v', l', he, hd, hro, fun x hx => ?_, hfr, hj2, hmk2⟩
    obtain ⟨p1, p2⟩ := hat x hx
    by_cases hc : x ∈ cand2
    · exact p1 hc
    · rw [p2 hc]
      exact (cell_common hcm.symm h.hcomm h.hoa h.hob h.hS.len hx (fun x m d h1 h2 h3 => hsub x (hl0 x m d h1 h2 h3)) (fun x m d h1 h2 h3 => hsub x (hl1 x m d h1 h2 h3)) hqc hc).symm

set_option maxRecDepth 100000 in
set_option maxHeartbeats 12800000 in
theorem join25 {w : World} {jb mb n mc made g ca cb na nb : Nat} {jc : Array Value} {marks : List Nat} {fromv atv of0 of1 va vb : Value} {fr : List (Nat × Nat)} {L0 L1 : Nat → List Nat} {U0 U1 : Nat → Value} {la lb : List (Nat × Nat)} {opf : Nat → Nat → Nat}
    (h : JIn w jb mb n mc made g ca cb na nb jc marks fromv atv of0 of1 va vb fr L0 L1 U0 U1 la lb opf) :
    Calls Yba.prog 25 #[.pointer (some ⟨jb, 0, none⟩), .agg #[.int .u8 (ca : Nat), va], .agg #[.int .u8 (cb : Nat), vb]] w (JoinAll w jb mb n made jc (cellJ opf fr ca cb la lb)) := by
  obtain ⟨cm, hcm⟩ : ∃ cm, cm = opf ca cb := ⟨_, rfl⟩
  obtain ⟨va0, cpa, hva⟩ := (h.hD w (Fr2.refl _ _ _)).da.shape
  obtain ⟨vb0, cpb, hvb⟩ := (h.hD w (Fr2.refl _ _ _)).db.shape
  subst hva hvb
  have HC := hid (fun W' => (h.hop ca cb W' h.hoa.cell h.hob.cell).2)
  have HEG := hid h.heg
  rw [← hcm] at HC
  have HCM := hid hcm
  clear hcm
  have hmd := h.hmd
  have hw1 : IntKind.i32.wrap ((made : Int) + 1) = ((made + 1 : Nat) : Int) := by
    simp [IntKind.wrap, IntKind.bits, IntKind.signed]
    omega
  have hb1 : Below w.heap.size w ((((w.alloc (.cells #[.pointer (some ⟨jb, 0, none⟩)] 82)).alloc (.cells #[.int .u8 (ca : Nat), .slice va0 la.length cpa] 57)).alloc (.cells #[.int .u8 (cb : Nat), .slice vb0 lb.length cpb] 57)).alloc (.cells #[.int .u8 0, .slice none 0 0] 57)) := below_al (below_al (below_al (below_al (Below.refl _ _) _) _) _) _
  have hjl := lt_of_block h.hjb
  have hj1 := (hb1.block _ hjl).trans h.hjb
  have j0 := h.j0
  have j7 := h.j7
  have i7 : ((((w.alloc (.cells #[.pointer (some ⟨jb, 0, none⟩)] 82)).alloc (.cells #[.int .u8 (ca : Nat), .slice va0 la.length cpa] 57)).alloc (.cells #[.int .u8 (cb : Nat), .slice vb0 lb.length cpb] 57)).alloc (.cells #[.int .u8 0, .slice none 0 0] 57)).cell? ⟨jb, 7, none⟩ = some (.int .i32 (made : Nat)) := by simp [World.cell?, hj1, j7]
  have f7 : ∀ j, ((((w.alloc (.cells #[.pointer (some ⟨jb, 0, none⟩)] 82)).alloc (.cells #[.int .u8 (ca : Nat), .slice va0 la.length cpa] 57)).alloc (.cells #[.int .u8 (cb : Nat), .slice vb0 lb.length cpb] 57)).alloc (.cells #[.int .u8 0, .slice none 0 0] 57)).frozen? ⟨jb, j, none⟩ = false := fun j => by simp [World.frozen?, hj1]
  have e0 := heap_old (o := .cells #[.int .u8 0, .slice none 0 0] 57) (heap_old (o := .cells #[.int .u8 (cb : Nat), .slice vb0 lb.length cpb] 57) (heap_old (o := .cells #[.int .u8 (ca : Nat), .slice va0 la.length cpa] 57) (heap_new w (.cells #[.pointer (some ⟨jb, 0, none⟩)] 82))))
  have e0' : ((((w.alloc (.cells #[.pointer (some ⟨jb, 0, none⟩)] 82)).alloc (.cells #[.int .u8 (ca : Nat), .slice va0 la.length cpa] 57)).alloc (.cells #[.int .u8 (cb : Nat), .slice vb0 lb.length cpb] 57)).alloc (.cells #[.int .u8 0, .slice none 0 0] 57)).cell? ⟨w.heap.size, 0, none⟩ = some (.pointer (some ⟨jb, 0, none⟩)) := by simp [World.cell?, e0]
  obtain ⟨W2, hW2⟩ : ∃ W2, W2 = jW2 w jb made ca cb (.slice va0 la.length cpa) (.slice vb0 lb.length cpb) := ⟨_, rfl⟩
  have hW2' : ((((w.alloc (.cells #[.pointer (some ⟨jb, 0, none⟩)] 82)).alloc (.cells #[.int .u8 (ca : Nat), .slice va0 la.length cpa] 57)).alloc (.cells #[.int .u8 (cb : Nat), .slice vb0 lb.length cpb] 57)).alloc (.cells #[.int .u8 0, .slice none 0 0] 57)).setCell ⟨jb, 7, none⟩ (.int .i32 ((made : Int) + 1)) = W2 := by rw [hW2]; rfl
  have hg : ((((w.alloc (.cells #[.pointer (some ⟨jb, 0, none⟩)] 82)).alloc (.cells #[.int .u8 (ca : Nat), .slice va0 la.length cpa] 57)).alloc (.cells #[.int .u8 (cb : Nat), .slice vb0 lb.length cpb] 57)).alloc (.cells #[.int .u8 0, .slice none 0 0] 57)).grownBy W2 (some jb) := by rw [hW2]; exact grown_setCell (World.grownBy.refl _ _)
  have hj2 : W2.heap[jb]? = some (.cells (jc.setIfInBounds 7 (.int .i32 ((made + 1 : Nat) : Int))) 72 (0, 0)) := by rw [hW2]; exact heap_setCell_same _ jb 7 _ 72 _ hj1
  have hk : ∀ (b : Nat) (o : Obj), ((((w.alloc (.cells #[.pointer (some ⟨jb, 0, none⟩)] 82)).alloc (.cells #[.int .u8 (ca : Nat), .slice va0 la.length cpa] 57)).alloc (.cells #[.int .u8 (cb : Nat), .slice vb0 lb.length cpb] 57)).alloc (.cells #[.int .u8 0, .slice none 0 0] 57)).heap[b]? = some o → w.heap.size ≤ b → W2.heap[b]? = some o := fun b o h1 h2 => (hg.block b (lt_of_block h1) (fun e => by have := Option.some.inj e; omega)).trans h1
  have k0 := hk _ _ e0 (Nat.le_refl _)
  have k1 := hk _ _ (heap_old (o := .cells #[.int .u8 0, .slice none 0 0] 57) (heap_old (o := .cells #[.int .u8 (cb : Nat), .slice vb0 lb.length cpb] 57) (heap_at (w := w.alloc (.cells #[.pointer (some ⟨jb, 0, none⟩)] 82)) (o := .cells #[.int .u8 (ca : Nat), .slice va0 la.length cpa] 57) (b := w.heap.size + 1) (by rw [size_al])))) (by omega)
  have k2 := hk _ _ (heap_old (o := .cells #[.int .u8 0, .slice none 0 0] 57) (heap_at (w := (w.alloc (.cells #[.pointer (some ⟨jb, 0, none⟩)] 82)).alloc (.cells #[.int .u8 (ca : Nat), .slice va0 la.length cpa] 57)) (o := .cells #[.int .u8 (cb : Nat), .slice vb0 lb.length cpb] 57) (b := w.heap.size + 1 + 1) (by rw [size_al, size_al]))) (by omega)
  have x0 : W2.cell? ⟨w.heap.size, 0, none⟩ = some (.pointer (some ⟨jb, 0, none⟩)) := by simp [World.cell?, k0]
  have x1 : W2.cell? ⟨jb, 0, none⟩ = some (.func (.func g) #[] #[]) := by simp [World.cell?, hj2, get_set7 j0 (by decide)]
  have x2 : W2.cell? ⟨w.heap.size + 1, 0, none⟩ = some (.int .u8 (ca : Nat)) := by simp [World.cell?, k1]
  have x3 : W2.cell? ⟨w.heap.size + 1 + 1, 0, none⟩ = some (.int .u8 (cb : Nat)) := by simp [World.cell?, k2]
  have K1 := hid k1
  have K2 := hid k2
  have HW2 := hid hW2
  have HIN := hid h
  clear h e0 hj1 hg hk k0 k1 k2 hj2 j0 j7 hb1 hjl hW2
  go_enter Yba.func25, Yba.ntmps25
  go_upto_region 2 with fail
  clear hW2' i7 f7 e0'
  have KP := hid (fun W' (hb : Below W2.heap.size W2 W') => (⟨(hb.cell (block_lt_of_cell x0)).trans x0, (hb.cell (block_lt_of_cell x1)).trans x1, (hb.cell (block_lt_of_cell x2)).trans x2, (hb.cell (block_lt_of_cell x3)).trans x3, hb⟩ : W'.cell? ⟨w.heap.size, 0, none⟩ = some (.pointer (some ⟨jb, 0, none⟩)) ∧ W'.cell? ⟨jb, 0, none⟩ = some (.func (.func g) #[] #[]) ∧ W'.cell? ⟨w.heap.size + 1, 0, none⟩ = some (.int .u8 (ca : Nat)) ∧ W'.cell? ⟨w.heap.size + 1 + 1, 0, none⟩ = some (.int .u8 (cb : Nat)) ∧ Below W2.heap.size W2 W'))
  have hb0 : Below W2.heap.size W2 W2.drew := (Below.refl _ _).drew
  have heg := HEG.out
  clear x0 x1 x2 x3
  go_cut [7] from 47 to 55 (fun v wx => v = .int .u8 (cm : Nat) ∧ Below W2.heap.size W2 wx)
  case first =>
    go_region_held3 (fun W' => W'.cell? ⟨w.heap.size, 0, none⟩ = some (.pointer (some ⟨jb, 0, none⟩)) ∧ W'.cell? ⟨jb, 0, none⟩ = some (.func (.func g) #[] #[]) ∧ W'.cell? ⟨w.heap.size + 1, 0, none⟩ = some (.int .u8 (ca : Nat)) ∧ W'.cell? ⟨w.heap.size + 1 + 1, 0, none⟩ = some (.int .u8 (cb : Nat)) ∧ Below W2.heap.size W2 W')
      (first | exact KP.out _ hb0 | exact KP.out _ (by assumption))
      ((refine (HC.out _).mono ?_; rintro e w3 ⟨rfl, rfl⟩; dsimp only))
    all_goals go_wp2_with fail
    all_goals go_meet
    all_goals exact ⟨rfl, hb0⟩
  case rest =>
    obtain ⟨rfl, hbc⟩ := hcut
    refine via (P := Yba.prog) (by assumption) ?_
    have k1 := (hbc.block _ (lt_of_block K1.out)).trans K1.out
    have k2 := (hbc.block _ (lt_of_block K2.out)).trans K2.out
    refine rowJ1 rfl rfl k1 k2 ?_
    intro t0 t1 t2 t3 t4 t5 t6 t7 t8 t9 t10 t11 t12 t13 t14 t15 t16 t17 t18 t19 t20 t21 t22 t23 t24 t25 t26 t27 t28 t29 t30 t31 t32 t33 t34 t35 t36 t37 t38 t39 t40 t41 t42 t43 t44 t45 t46 t47 t48 t49 t50 t51 t52 t53 t54 t55 t56 t57 t58 t59 t60 t61 t62 t63 t64 t65 t66 t67 t68 t69 t70 t71 t72 t73 t74 t75 t76 t77 t78 t79 t80 t81 t82 t83 t84 t85 t86 t87 t88 t89 t90 t91 t92 t93 t94 t95 t96 t97 t98 t99 t100 t101 t102 t103 t104 t105 t106 t107 t108 t109 t110 t111 t112 t113 t114 t115 t116 t117 t118 t119 t120 t121 t122 t123 t124 t125 t126 t127 t128 t129 t130 t131 t132 t133 t134 t135 t136 t137 t138 t139 t140 t141 t142 t143 t144 t145 t146 t147 t148 t149 t150 t151 t152 t153 t154 t155 t156 t157 t158 t159 t160 t161 t162 t163 t164 t165 t166 t167 t168 t169 t170 t171 t172 t173 t174 t175 t176 t177 t178 t179 t180 t181 t182 t183 t184 t185 t186 t187 t188 t189 t190 t191 t192 t193 t194 t195 t196 t197 t198 t199 t200 t201 t202 t203 t204 t205 t206 t207 t208 t209 t210 t211 t212 t213 t214 t215 t216 t217 t218 t219 t220 t221 t222 t223 t224 t225 t226 t227 t228 t229 t230 t231 t232 t233 t234 t235 t236 t237 t238 t239 t240 t241 t242 t243 t244 t245 t246 t247 t248 t249 t250 t251 t252 t253 t254 t255 t256 t257 t258 t259 t260 t261 t262 t263 t264 t265 t266 t267 t268 t269 t270 t271 t272 t273 t274 t275 t276 t277 t278 t279 t280 t281 t282 t283 t284 t285 t286 t287 t288 t289 t290 t291 t292 t293 t294 t295 t296 t297 t298 t299 h3 h4 h5 h6 h7 h8 h9 h10 h11
    subst h3 h4 h5 h6 h7 h8 h9 h10 h11
    rw [HW2.out] at hbc
    exact rowJ7 HIN.out HCM.out hbc rfl rfl rfl rfl rfl
end Go.Proofs.Ybulkatiq
