/-
  combine: the exceptions' loops.
-/
import Derived.Test.YbulkatiqExc
import Derived.Test.YbulkatiqCombF
namespace Go.Proofs.Ybulkatiq
open Go.ChangeShapes Go.WideShapes Go.ChangeAt Go.RowKit Go.Maps Go.WideMaps

set_option maxRecDepth 100000 in
set_option maxHeartbeats 12800000 in
theorem combE2 {w W3 : World} {pa pb cb xa xe xb : Nat} {both : Bool} {Ra Rb Rc : Rel} (hcs : CX w W3 cb xb Rc 0 (.map [])) (hcb : w.heap.size ≤ cb) (hrb : w.heap.size ≤ Rc.rb) (ha : RelAt w pa Ra) (hB : RelAt w pb Rb) (hxa : Ra.ex = .map (some xa)) (hxe : Rb.ex = .map (some xe)) (hea : Ra.eb ≤ 4096) (heb : Rb.eb ≤ 4096) (h0 : 0 < Rc.n0) (h1 : 0 < Rc.n1) (h12 : Rc.n1 ≤ 12) (hnb : Rc.nb ≤ 4096)
    (hby : ∀ x y, x.size ≤ maxLen → y.size ≤ maxLen → Rc.byC x y = bop both (Ra.byC x y) (Rb.byC x y))
    {RR : Ending → World → Prop} (hRR : ∀ (R Rx : Rel) (w' : World), Below w.heap.size w w' → (∀ x y, x.size ≤ maxLen → y.size ≤ maxLen → Rx.holds x y = bop both (Ra.holds x y) (Rb.holds x y)) → (∃ W p, RelAt W p Rx) → Merged Rx R → RelAt w' cb R → 0 < R.n0 → 0 < R.n1 → RR (.returned (.pointer (some ⟨cb, 0, none⟩))) w')
    {u3 u4 u5 u6 u7 u8 u9 u10 u11 u13 u14 u15 u16 u17 u18 u19 u20 u21 u22 u23 u24 u25 u26 u27 u28 u29 u30 u31 u32 u33 u34 u35 u36 u37 u38 u39 u40 u41 u42 u43 u44 u45 u46 u47 u48 u49 u50 u51 u52 u53 u54 u55 u56 u57 u58 u59 u60 u61 u62 u63 u64 u65 u66 u67 u68 u69 u70 u71 u72 u73 u74 u75 u76 u77 u78 u79 u80 u81 u82 u83 u84 u85 u86 u87 u88 u89 u90 u91 u92 u93 u94 u95 u96 u97 u98 u99 u100 u101 u102 u103 u104 u105 u106 u107 u108 u109 u110 u111 u112 u113 u114 u115 u116 u117 u118 u119 u120 u121 u122 u123 u124 u125 u126 u127 u128 u129 u130 u131 u132 u133 u134 u135 u136 u137 u138 u139 u140 u141 u142 u143 u144 u145 u146 u147 u148 u149 u150 u151 u152 u153 u154 u155 u156 u157 u158 u159 u160 u161 u162 u163 u164 u165 u166 u167 u168 u169 u170 u171 u172 u173 u174 u175 u176 u177 u178 u179 u180 u181 u182 u183 u184 u185 u186 u187 u188 u189 u190 u191 u192 u193 u194 u195 u196 u197 u198 u199 u200 u201 u202 u203 u204 u205 u206 u207 u208 u209 u210 u211 u212 u213 u214 u215 u216 u217 u218 u219 u220 u221 u222 u223 u224 u225 u226 u227 u228 u229 u230 u231 u232 u233 u234 u235 u236 u237 u238 u239 u240 u241 u242 u243 u244 u245 u246 u247 u248 u249 : Value} :
    Code.wp Yba.prog (dropC 13 (codeOf Yba.f14)) (bodyPost Yba.prog Yba.f14 RR) ⟨#[.pointer (some ⟨pa, 0, none⟩), .pointer (some ⟨pb, 0, none⟩), .bool both, u3, u4, u5, u6, u7, u8, u9, u10, u11, .pointer (some ⟨cb, 0, none⟩), u13, u14, u15, u16, u17, u18, u19, u20, u21, u22, u23, u24, u25, u26, u27, u28, u29, u30, u31, u32, u33, u34, u35, u36, u37, u38, u39, u40, u41, u42, u43, u44, u45, u46, u47, u48, u49, u50, u51, u52, u53, u54, u55, u56, u57, u58, u59, u60, u61, u62, u63, u64, u65, u66, u67, u68, u69, u70, u71, u72, u73, u74, u75, u76, u77, u78, u79, u80, u81, u82, u83, u84, u85, u86, u87, u88, u89, u90, u91, u92, u93, u94, u95, u96, u97, u98, u99, u100, u101, u102, u103, u104, u105, u106, u107, u108, u109, u110, u111, u112, u113, u114, u115, u116, u117, u118, u119, u120, u121, u122, u123, u124, u125, u126, u127, u128, u129, u130, u131, u132, u133, u134, u135, u136, u137, u138, u139, u140, u141, u142, u143, u144, u145, u146, u147, u148, u149, u150, u151, u152, u153, u154, u155, u156, u157, u158, u159, u160, u161, u162, u163, u164, u165, u166, u167, u168, u169, u170, u171, u172, u173, u174, u175, u176, u177, u178, u179, u180, u181, u182, u183, u184, u185, u186, u187, u188, u189, u190, u191, u192, u193, u194, u195, u196, u197, u198, u199, u200, u201, u202, u203, u204, u205, u206, u207, u208, u209, u210, u211, u212, u213, u214, u215, u216, u217, u218, u219, u220, u221, u222, u223, u224, u225, u226, u227, u228, u229, u230, u231, u232, u233, u234, u235, u236, u237, u238, u239, u240, u241, u242, u243, u244, u245, u246, u247, u248, u249], []⟩ W3 := by
  obtain ⟨NA, DA, hoa, hNA, hda⟩ : ∃ N D, w.ownsMap Yba.prog 60 (plainElem (H := Unit) Yba.prog 4) xa N D ∧ N ≤ Ra.eb ∧ ∀ x y, Ra.exc x y = excOf D x y := by
    rcases ha.se with ⟨e, _⟩ | ⟨b, N, D, e, ho, hN, hd⟩
    · rw [hxa] at e; cases e
    · rw [hxa] at e; cases e; exact ⟨N, D, ho, hN, hd⟩
  obtain ⟨NB, DB, hob, hNB, hdb⟩ : ∃ N D, w.ownsMap Yba.prog 60 (plainElem (H := Unit) Yba.prog 4) xe N D ∧ N ≤ Rb.eb ∧ ∀ x y, Rb.exc x y = excOf D x y := by
    rcases hB.se with ⟨e, _⟩ | ⟨b, N, D, e, ho, hN, hd⟩
    · rw [hxe] at e; cases e
    · rw [hxe] at e; cases e; exact ⟨N, D, ho, hN, hd⟩
  have HF := hid (fun (W' : World) (xb N : Nat) (D : DataW Unit) (hbel : Below w.heap.size w W') (hon : RelOn W' cb (Rc.ext xb N D)) (hei : EI Rc Ra Rb both (finS DA DB 2) D) =>
    @combF W' cb (Rc.ext xb N D) hon h0 h1 h12 hnb w.heap.size hcb hrb hbel.size RR (fun R w' hfr hm hr p0 p1 => hRR R (Rc.ext xb N D) w' (hbel.trans hfr) (fun x y hx hy => hei.done hda hdb hby x y hx hy) ⟨_, _, hon.at_⟩ hm hr p0 p1))
  have HOA := hid hoa
  have HOB := hid hob
  have HRA := hid ha
  have HRB := hid hB
  have HCS := hid hcs
  have pa5 := ha.c5
  have pb5 := hB.c5
  rw [hxa] at pa5
  rw [hxe] at pb5
  have hNA2 : NA ≤ 4096 := by omega
  have hNB2 : NB ≤ 4096 := by omega
  clear hRR hcs ha hB hby hoa hob hda hdb h0 h1 h12 hnb hxa hxe hea heb hNA hNB
  generalize hQ : bodyPost Yba.prog Yba.f14 RR = Q
  have HQ := hid hQ
  clear hQ
  simp only [dropC, codeOf, Yba.f14, Option.getD_some]
  have a5 : W3.cell? ⟨pa, 5, none⟩ = some (.map (some xa)) := (HCS.out.bel.cell (block_lt_of_cell pa5)).trans pa5
  have b5 : W3.cell? ⟨pb, 5, none⟩ = some (.map (some xe)) := (HCS.out.bel.cell (block_lt_of_cell pb5)).trans pb5
  clear pa5 pb5
  refine wp_seq_k (fun K hK => ?_)
  have HK := hid hK
  clear hK
  go_upto_region 35 with fail
  go_cut [202, 203, 204] from 194 to 204 (fun v2 v3 v4 wx => ∃ tb, v2 = .slice (some ⟨tb, 0, none⟩) 2 2 ∧ v3 = .int .i64 2 ∧ v4 = .int .i64 0 ∧ wx.heap[tb]? = some (.cells #[.map (some xa), .map (some xe)] 48 (0, 0)) ∧ Below W3.heap.size W3 wx)
  case first =>
    have hbn : Below W3.heap.size W3 (W3.alloc (.cells #[.map (some xa), .map (some xe)] 48)).drew := Below.drew (below_al (Below.refl _ _) _)
    have HBN := hid hbn
    have HNEW := hid (heap_new W3 (.cells #[.map (some xa), .map (some xe)] 48))
    clear hbn
    go_region_held3 (fun W' => W'.cell? ⟨pa, 5, none⟩ = some (.map (some xa)) ∧ W'.cell? ⟨pb, 5, none⟩ = some (.map (some xe)))
      (first | exact ⟨a5, b5⟩ | exact ⟨(HBN.out.cell (block_lt_of_cell a5)).trans a5, (HBN.out.cell (block_lt_of_cell b5)).trans b5⟩)
      (fail)
    all_goals go_wp2_with fail
    all_goals go_meet
    all_goals exact ⟨_, rfl, rfl, rfl, HNEW.out, HBN.out⟩
  case rest =>
    obtain ⟨tb, rfl, rfl, rfl, htb, hbc⟩ := hcut
    have HC1 := hid (HCS.out.below hbc)
    have HT1 := hid htb
    clear HCS hbc htb a5 b5
    go_wp2_with fail
    go_loopw [204] (fun vi wr => ∃ (i N : Nat) (D : DataW Unit), i ≤ 2 ∧ vi = .int .i64 i ∧ N ≤ i * 4096 ∧ CX w wr cb xb Rc N D ∧ EI Rc Ra Rb both (finS DA DB i) D ∧ wr.heap[tb]? = some (.cells #[.map (some xa), .map (some xe)] 48 (0, 0))) (fun vi _ => 2 - (intOf vi).toNat)
    case atStart => exact ⟨0, 0, _, by omega, rfl, by omega, HC1.out, (EI.start Rc Ra Rb both).same (fun x y => by simp [finS]), HT1.out⟩
    case round =>
      obtain ⟨i, N, D, hi, rfl, hN, hcx, hei, htb⟩ := hrel
      clear HC1 HT1
      obtain rfl | rfl | rfl : i = 0 ∨ i = 1 ∨ i = 2 := by omega
      · simp only [show ((0 : Nat) : Int) = 0 from rfl]
        have ht0 : wr.cell? ⟨tb, 0, none⟩ = some (.map (some xa)) := by simp [World.cell?, htb]
        have hor := HOA.out.kept (Below.grownBy hcx.bel none) (by simp)
        have HCX := hid hcx
        have HEI := hid hei
        have HTB := hid htb
        have hsl := size_le hor
        clear hcx hei htb
        go_wp2_with (first
          | (at_range; refine wpList_range_own _ rfl _ 48 rfl 60 4 plaw Yba.underlying48 _ xa NA _ rfl hor ?_; intro w0 hrg0 hg0 hs0)
          | go_in)
        go_frame
        have hbg : Below wr.heap.size wr w0 := (Below.refl _ _).grown hg0 (Nat.le_refl _) (fun k hk => by cases hk)
        have HC0 := hid (HCX.out.below hbg)
        have HT0 := hid ((hbg.block _ (lt_of_block HTB.out)).trans HTB.out)
        have hwr : w.heap.size ≤ wr.heap.size := HCX.out.bel.size
        have HRG := hid hrg0
        clear HCX HTB ht0 hor hrg0 hg0 hs0 hbg
        generalize wr.heap.size = r1 at HRG hwr ⊢
        go_loopw [22] (fun _ wr => ∃ left c N D, N + c ≤ 1 * 4096 ∧ CX w wr cb xb Rc N D ∧ EI Rc Ra Rb both (fun x y => finS DA DB 0 x y || (Maps.has DA (pk x y) && !left (pk x y))) D ∧ wr.ranges Yba.prog 60 (plainElem (H := Unit) Yba.prog 4) xa r1 NA DA left c ∧ wr.heap[tb]? = some (.cells #[.map (some xa), .map (some xe)] 48 (0, 0))) (fun _ wr => wr.rangeLeft xa r1)
        case atStart => exact ⟨_, _, N, D, by omega, HC0.out, HEI.out.same (fun x y => by cases Maps.has DA (pk x y) <;> simp), HRG.out, HT0.out⟩
        case round =>
          obtain ⟨left, c, N2, D2, hN2, hcx, hei, hrg, htb⟩ := hrel
          clear HC0 HRG HT0 HEI
          have HCX := hid hcx
          have HEI := hid hei
          have HTB := hid htb
          have HRG := hid hrg
          clear hcx hei htb
          go_wp2_with (first
            | (at_next; refine next_eb rfl _ rfl xa _ NA _ _ _ rfl hrg ?_ ?_)
            | go_in)
          · intro hc0 hl0
            have HE2 := hid (show EI Rc Ra Rb both (finS DA DB 1) D2 from HEI.out.same (fun x y => by simp [finS, hl0]))
            clear HEI HRG hrg hl0
            go_wp2_with fail
            go_roundw
            case rel => exact ⟨1, N2, D2, by omega, rfl, by omega, HCX.out, HE2.out, HTB.out⟩
            case measure => simp [intOf]
          · intro x y cv w1 cnt1 hx hy hlx hhx hrg1 hlt1 hg1 hs1 hen
            have hit : ∃ a b c d, wr.heap[r1]? = some (Obj.mapIter a b c d) := by
              obtain ⟨_, _, _, _, _, _, _, _, _, h5, _⟩ := hrg
              exact ⟨_, _, _, _, h5⟩
            obtain ⟨i1, i2, i3, i4, hit⟩ := hit
            have hcx1 := HCX.out.iter hg1 hit (fun _ _ _ h => by cases h) (fun _ _ h => by cases h) hwr
            have htb1 := (hg1.block _ (lt_of_block HTB.out) (fun e => by have h := HTB.out; rw [Option.some.inj e, hit] at h; cases h)).trans HTB.out
            have hb2 : Below w1.heap.size w1 (w1.alloc (.cells #[.string x, .string y] 60)) := below_al (Below.refl _ _) _
            have HC2 := hid (hcx1.below hb2)
            have HT2 := hid ((hb2.block _ (lt_of_block htb1)).trans htb1)
            have HR2 := hid (ranges_kept hrg1 (Below.grownBy hb2 none) (by simp) (by simp))
            have z0 := new2_0' w1 (.string x) (.string y) 60
            have z1 := new2_1' w1 (.string x) (.string y) 60
            have HF1 := hid (show finS DA DB 0 x y = finS DA DB 0 x y from rfl)
            have hkx : (pk x y).sameKey (pk x y) = true := WideAt.sameKey_self (by simp [pk, WideAt.IsKeyLit])
            have HFT := hid (show (finS DA DB 0 x y || (Maps.has DA (pk x y) && !(left (pk x y) && !(pk x y).sameKey (pk x y)))) = true from by simp [hhx, hkx])
            have HFO := hid (show ∀ x' y', pk x' y' ≠ pk x y → (finS DA DB 0 x' y' || (Maps.has DA (pk x' y') && !(left (pk x' y') && !(pk x' y').sameKey (pk x y)))) = (finS DA DB 0 x' y' || (Maps.has DA (pk x' y') && !left (pk x' y'))) from fun x' y' hne => by
              have : (pk x' y').sameKey (pk x y) = false := sameKey_ne hne
              simp [this])
            have HLT := hid hlt1
            clear hcx1 htb1 hg1 hs1 hit hrg hhx hlx hrg1 hkx hb2 HF1 HCX HTB
            go_upto_region 41 with fail
            clear hen
            generalize w1.alloc (.cells #[.string x, .string y] 60) = W2 at HC2 HT2 HR2 z0 z1 ⊢
            generalize w1.heap.size = Z at z0 z1 ⊢
            have HHA := hid (fun W' (hb : Below W2.heap.size W2 W') => holds13 (HRA.out.below (HC2.out.bel.trans (hb.mono HC2.out.bel.size))) x y hx hy)
            have HHB := hid (fun W' (hb : Below W2.heap.size W2 W') => holds13 (HRB.out.below (HC2.out.bel.trans (hb.mono HC2.out.bel.size))) x y hx hy)
            have KP := hid (fun W' (hb : Below W2.heap.size W2 W') => (⟨(hb.cell (block_lt_of_cell z0)).trans z0, (hb.cell (block_lt_of_cell z1)).trans z1, hb⟩ : W'.cell? ⟨Z, 0, none⟩ = some (.string x) ∧ W'.cell? ⟨Z, 1, none⟩ = some (.string y) ∧ Below W2.heap.size W2 W'))
            have hb0 : Below W2.heap.size W2 W2.drew := (Below.refl _ _).drew
            have HZ0 := hid z0
            have HZ1 := hid z1
            obtain ⟨ba, hba⟩ : ∃ ba, ba = Ra.holds x y := ⟨_, rfl⟩
            obtain ⟨bb, hbb⟩ : ∃ bb, bb = Rb.holds x y := ⟨_, rfl⟩
            rw [← hba] at HHA
            rw [← hbb] at HHB
            have HBA := hid hba
            have HBB := hid hbb
            clear hba hbb z0 z1
            go_cut [23, 24] from 214 to 225 (fun v23 v24 wx => v23 = .bool ba ∧ v24 = .bool bb ∧ Below W2.heap.size W2 wx)
            case first =>
              go_region_held3 (fun W' => W'.cell? ⟨Z, 0, none⟩ = some (.string x) ∧ W'.cell? ⟨Z, 1, none⟩ = some (.string y) ∧ Below W2.heap.size W2 W')
                (first | exact KP.out _ hb0 | exact KP.out _ (by assumption))
                (first
                  | (go_at_call 13; have hz := hbn; refine (HHB.out _ hz).mono ?_; rintro e w'' ⟨rfl, hb⟩; have hbn2 : Below W2.heap.size W2 w'' := hz.trans (below_le hb hz.size); dsimp only)
                  | (go_at_call 13; refine (HHA.out _ hb0).mono ?_; rintro e w' ⟨rfl, hb⟩; have hbn : Below W2.heap.size W2 w' := hb0.trans (below_le hb hb0.size); dsimp only))
              all_goals go_wp2_with fail
              all_goals go_meet
              all_goals exact ⟨rfl, rfl, hbn2⟩
            case rest =>
              obtain ⟨rfl, rfl, hbc⟩ := hcut
              have HC3 := hid (HC2.out.below hbc)
              have HT3 := hid ((hbc.block _ (lt_of_block HT2.out)).trans HT2.out)
              have HR3 := hid (ranges_kept HR2.out (Below.grownBy hbc none) (by simp) (by simp))
              have z0 := (hbc.cell (block_lt_of_cell HZ0.out)).trans HZ0.out
              have z1 := (hbc.cell (block_lt_of_cell HZ1.out)).trans HZ1.out
              clear hbc KP HHA HHB hb0 HC2 HT2 HR2 HZ0 HZ1
              go_upto_region 42 with fail
              go_cut [25] from 226 to 229 (fun v wx => v = .bool (ba && bb) ∧ wx = wc)
              case first =>
                cases ba <;> cases bb
                all_goals go_wp2_with fail
                all_goals go_meet
                all_goals exact ⟨rfl, rfl⟩
              case rest =>
                obtain ⟨rfl, rfl⟩ := hcut
                go_upto_if 231 with fail
                go_cut [25] from 232 to 235 (fun v wx => v = .bool (bop both ba bb) ∧ wx = wc)
                case first =>
                  cases both
                  · cases ba <;> cases bb
                    all_goals go_wp2_with fail
                    all_goals go_meet
                    all_goals exact ⟨rfl, rfl⟩
                  · go_wp2_with fail
                    go_meet
                    case rel => exact ⟨rfl, rfl⟩
                case rest =>
                  obtain ⟨rfl, rfl⟩ := hcut
                  have HBY := hid (byClasses20 HC3.out.on.at_ x y hx hy)
                  have KP2 := hid (fun W' (hb : Below wc.heap.size wc W') => (⟨(hb.cell (block_lt_of_cell z0)).trans z0, (hb.cell (block_lt_of_cell z1)).trans z1⟩ : W'.cell? ⟨Z, 0, none⟩ = some (.string x) ∧ W'.cell? ⟨Z, 1, none⟩ = some (.string y)))
                  obtain ⟨bi, hbi⟩ : ∃ bi, bi = bop both ba bb := ⟨_, rfl⟩
                  rw [← hbi]
                  have HBI := hid hbi
                  clear hbi
                  obtain ⟨by_, hby⟩ : ∃ by_, by_ = Rc.byC x y := ⟨_, rfl⟩
                  rw [show (Rc.ext xb N2 D2).byC x y = Rc.byC x y from rfl, ← hby] at HBY
                  have HB := hid hby
                  clear hby
                  go_wp2_with fail
                  refine HBY.out.mono ?_
                  rintro e w4 ⟨rfl, hb4⟩
                  dsimp only
                  have HC4 := hid (HC3.out.below hb4)
                  have HT4 := hid ((hb4.block _ (lt_of_block HT3.out)).trans HT3.out)
                  have HR4 := hid (ranges_kept HR3.out (Below.grownBy hb4 none) (by simp) (by simp))
                  obtain ⟨y0, y1⟩ := KP2.out _ hb4
                  clear hb4 KP2 HC3 HT3 HR3 z0 z1 HBY
                  cases g : (!(bi == by_))
                  · have HE4 := hid (show EI Rc Ra Rb both (fun x' y' => finS DA DB 0 x' y' || (Maps.has DA (pk x' y') && !(left (pk x' y') && !(pk x' y').sameKey (pk x y)))) D2 from HEI.out.skip hx hy HFT.out HFO.out (by
                      have g2 : bi = by_ := by simpa using g
                      rw [← HBA.out, ← HBB.out, ← HBI.out, ← HB.out, g2]))
                    go_wp2_with fail
                    go_roundw
                    case rel => exact ⟨_, cnt1, N2, D2, by have := HLT.out; omega, HC4.out, HE4.out, HR4.out, HT4.out⟩
                    case measure => rw [HR4.out.left_eq, HRG.out.left_eq]; exact HLT.out
                  · have hcell : w4.cell? ⟨cb, 5, none⟩ = some (.map (some xb)) := HC4.out.on.at_.c5
                    obtain ⟨w5, hrun, hown5, hg5⟩ := HC4.out.own.update (key := .agg #[.string x, .string y]) (val := .bool bi) plaw Yba.underlying48 (by unfold maxLen; omega) (key60 hx hy) (plainElem_bool Yba.underlying4 _)
                    have HC5 := hid (HC4.out.put hg5 hown5)
                    have hfx := HC4.out.far
                    have hxl : xa < w.heap.size := HOA.out.lt
                    have hnx : xb ≠ r1 := fun e => by
                      obtain ⟨es, ck, hm, _⟩ := HC4.out.own
                      obtain ⟨_, _, _, _, _, _, _, _, _, h5, _⟩ := HR4.out
                      rw [e, h5] at hm
                      cases hm
                    have HR5 := hid (ranges_kept HR4.out hg5 (fun e => by have := Option.some.inj e; omega) (fun e => hnx (Option.some.inj e).symm))
                    have HT5 := hid ((hg5.block _ (lt_of_block HT4.out) (fun e => by
                      obtain ⟨es, ck, hm, _⟩ := HC4.out.own
                      have h := HT4.out
                      rw [Option.some.inj e, hm] at h
                      cases h)).trans HT4.out)
                    have HE5 := hid (show EI Rc Ra Rb both (fun x' y' => finS DA DB 0 x' y' || (Maps.has DA (pk x' y') && !(left (pk x' y') && !(pk x' y').sameKey (pk x y)))) (D2.put (pk x y) (.lit (.bool bi))) from by
                      rw [HBI.out, HBA.out, HBB.out]
                      exact HEI.out.put HC4.out.own.isMap hx hy HFT.out HFO.out)
                    clear hown5 hg5 hfx hxl hnx
                    go_wp2_with fail
                    go_roundw
                    case rel => exact ⟨_, cnt1, N2 + 1, _, by have := HLT.out; omega, HC5.out, HE5.out, HR5.out, HT5.out⟩
                    case measure => rw [HR5.out.left_eq, HRG.out.left_eq]; exact HLT.out

      · simp only [show ((1 : Nat) : Int) = 1 from rfl]
        have ht0 : wr.cell? ⟨tb, 1, none⟩ = some (.map (some xe)) := by simp [World.cell?, htb]
        have hor := HOB.out.kept (Below.grownBy hcx.bel none) (by simp)
        have HCX := hid hcx
        have HEI := hid hei
        have HTB := hid htb
        have hsl := size_le hor
        clear hcx hei htb
        go_wp2_with (first
          | (at_range; refine wpList_range_own _ rfl _ 48 rfl 60 4 plaw Yba.underlying48 _ xe NB _ rfl hor ?_; intro w0 hrg0 hg0 hs0)
          | go_in)
        go_frame
        have hbg : Below wr.heap.size wr w0 := (Below.refl _ _).grown hg0 (Nat.le_refl _) (fun k hk => by cases hk)
        have HC0 := hid (HCX.out.below hbg)
        have HT0 := hid ((hbg.block _ (lt_of_block HTB.out)).trans HTB.out)
        have hwr : w.heap.size ≤ wr.heap.size := HCX.out.bel.size
        have HRG := hid hrg0
        clear HCX HTB ht0 hor hrg0 hg0 hs0 hbg
        generalize wr.heap.size = r1 at HRG hwr ⊢
        go_loopw [22] (fun _ wr => ∃ left c N D, N + c ≤ 2 * 4096 ∧ CX w wr cb xb Rc N D ∧ EI Rc Ra Rb both (fun x y => finS DA DB 1 x y || (Maps.has DB (pk x y) && !left (pk x y))) D ∧ wr.ranges Yba.prog 60 (plainElem (H := Unit) Yba.prog 4) xe r1 NB DB left c ∧ wr.heap[tb]? = some (.cells #[.map (some xa), .map (some xe)] 48 (0, 0))) (fun _ wr => wr.rangeLeft xe r1)
        case atStart => exact ⟨_, _, N, D, by omega, HC0.out, HEI.out.same (fun x y => by cases Maps.has DB (pk x y) <;> simp), HRG.out, HT0.out⟩
        case round =>
          obtain ⟨left, c, N2, D2, hN2, hcx, hei, hrg, htb⟩ := hrel
          clear HC0 HRG HT0 HEI
          have HCX := hid hcx
          have HEI := hid hei
          have HTB := hid htb
          have HRG := hid hrg
          clear hcx hei htb
          go_wp2_with (first
            | (at_next; refine next_eb rfl _ rfl xe _ NB _ _ _ rfl hrg ?_ ?_)
            | go_in)
          · intro hc0 hl0
            have HE2 := hid (show EI Rc Ra Rb both (finS DA DB 2) D2 from HEI.out.same (fun x y => by simp [finS, hl0]))
            clear HEI HRG hrg hl0
            go_wp2_with fail
            go_roundw
            case rel => exact ⟨2, N2, D2, by omega, rfl, by omega, HCX.out, HE2.out, HTB.out⟩
            case measure => simp [intOf]
          · intro x y cv w1 cnt1 hx hy hlx hhx hrg1 hlt1 hg1 hs1 hen
            have hit : ∃ a b c d, wr.heap[r1]? = some (Obj.mapIter a b c d) := by
              obtain ⟨_, _, _, _, _, _, _, _, _, h5, _⟩ := hrg
              exact ⟨_, _, _, _, h5⟩
            obtain ⟨i1, i2, i3, i4, hit⟩ := hit
            have hcx1 := HCX.out.iter hg1 hit (fun _ _ _ h => by cases h) (fun _ _ h => by cases h) hwr
            have htb1 := (hg1.block _ (lt_of_block HTB.out) (fun e => by have h := HTB.out; rw [Option.some.inj e, hit] at h; cases h)).trans HTB.out
            have hb2 : Below w1.heap.size w1 (w1.alloc (.cells #[.string x, .string y] 60)) := below_al (Below.refl _ _) _
            have HC2 := hid (hcx1.below hb2)
            have HT2 := hid ((hb2.block _ (lt_of_block htb1)).trans htb1)
            have HR2 := hid (ranges_kept hrg1 (Below.grownBy hb2 none) (by simp) (by simp))
            have z0 := new2_0' w1 (.string x) (.string y) 60
            have z1 := new2_1' w1 (.string x) (.string y) 60
            have HF1 := hid (show finS DA DB 1 x y = finS DA DB 1 x y from rfl)
            have hkx : (pk x y).sameKey (pk x y) = true := WideAt.sameKey_self (by simp [pk, WideAt.IsKeyLit])
            have HFT := hid (show (finS DA DB 1 x y || (Maps.has DB (pk x y) && !(left (pk x y) && !(pk x y).sameKey (pk x y)))) = true from by simp [hhx, hkx])
            have HFO := hid (show ∀ x' y', pk x' y' ≠ pk x y → (finS DA DB 1 x' y' || (Maps.has DB (pk x' y') && !(left (pk x' y') && !(pk x' y').sameKey (pk x y)))) = (finS DA DB 1 x' y' || (Maps.has DB (pk x' y') && !left (pk x' y'))) from fun x' y' hne => by
              have : (pk x' y').sameKey (pk x y) = false := sameKey_ne hne
              simp [this])
            have HLT := hid hlt1
            clear hcx1 htb1 hg1 hs1 hit hrg hhx hlx hrg1 hkx hb2 HF1 HCX HTB
            go_upto_region 41 with fail
            clear hen
            generalize w1.alloc (.cells #[.string x, .string y] 60) = W2 at HC2 HT2 HR2 z0 z1 ⊢
            generalize w1.heap.size = Z at z0 z1 ⊢
            have HHA := hid (fun W' (hb : Below W2.heap.size W2 W') => holds13 (HRA.out.below (HC2.out.bel.trans (hb.mono HC2.out.bel.size))) x y hx hy)
            have HHB := hid (fun W' (hb : Below W2.heap.size W2 W') => holds13 (HRB.out.below (HC2.out.bel.trans (hb.mono HC2.out.bel.size))) x y hx hy)
            have KP := hid (fun W' (hb : Below W2.heap.size W2 W') => (⟨(hb.cell (block_lt_of_cell z0)).trans z0, (hb.cell (block_lt_of_cell z1)).trans z1, hb⟩ : W'.cell? ⟨Z, 0, none⟩ = some (.string x) ∧ W'.cell? ⟨Z, 1, none⟩ = some (.string y) ∧ Below W2.heap.size W2 W'))
            have hb0 : Below W2.heap.size W2 W2.drew := (Below.refl _ _).drew
            have HZ0 := hid z0
            have HZ1 := hid z1
            obtain ⟨ba, hba⟩ : ∃ ba, ba = Ra.holds x y := ⟨_, rfl⟩
            obtain ⟨bb, hbb⟩ : ∃ bb, bb = Rb.holds x y := ⟨_, rfl⟩
            rw [← hba] at HHA
            rw [← hbb] at HHB
            have HBA := hid hba
            have HBB := hid hbb
            clear hba hbb z0 z1
            go_cut [23, 24] from 214 to 225 (fun v23 v24 wx => v23 = .bool ba ∧ v24 = .bool bb ∧ Below W2.heap.size W2 wx)
            case first =>
              go_region_held3 (fun W' => W'.cell? ⟨Z, 0, none⟩ = some (.string x) ∧ W'.cell? ⟨Z, 1, none⟩ = some (.string y) ∧ Below W2.heap.size W2 W')
                (first | exact KP.out _ hb0 | exact KP.out _ (by assumption))
                (first
                  | (go_at_call 13; have hz := hbn; refine (HHB.out _ hz).mono ?_; rintro e w'' ⟨rfl, hb⟩; have hbn2 : Below W2.heap.size W2 w'' := hz.trans (below_le hb hz.size); dsimp only)
                  | (go_at_call 13; refine (HHA.out _ hb0).mono ?_; rintro e w' ⟨rfl, hb⟩; have hbn : Below W2.heap.size W2 w' := hb0.trans (below_le hb hb0.size); dsimp only))
              all_goals go_wp2_with fail
              all_goals go_meet
              all_goals exact ⟨rfl, rfl, hbn2⟩
            case rest =>
              obtain ⟨rfl, rfl, hbc⟩ := hcut
              have HC3 := hid (HC2.out.below hbc)
              have HT3 := hid ((hbc.block _ (lt_of_block HT2.out)).trans HT2.out)
              have HR3 := hid (ranges_kept HR2.out (Below.grownBy hbc none) (by simp) (by simp))
              have z0 := (hbc.cell (block_lt_of_cell HZ0.out)).trans HZ0.out
              have z1 := (hbc.cell (block_lt_of_cell HZ1.out)).trans HZ1.out
              clear hbc KP HHA HHB hb0 HC2 HT2 HR2 HZ0 HZ1
              go_upto_region 42 with fail
              go_cut [25] from 226 to 229 (fun v wx => v = .bool (ba && bb) ∧ wx = wc)
              case first =>
                cases ba <;> cases bb
                all_goals go_wp2_with fail
                all_goals go_meet
                all_goals exact ⟨rfl, rfl⟩
              case rest =>
                obtain ⟨rfl, rfl⟩ := hcut
                go_upto_if 231 with fail
                go_cut [25] from 232 to 235 (fun v wx => v = .bool (bop both ba bb) ∧ wx = wc)
                case first =>
                  cases both
                  · cases ba <;> cases bb
                    all_goals go_wp2_with fail
                    all_goals go_meet
                    all_goals exact ⟨rfl, rfl⟩
                  · go_wp2_with fail
                    go_meet
                    case rel => exact ⟨rfl, rfl⟩
                case rest =>
                  obtain ⟨rfl, rfl⟩ := hcut
                  have HBY := hid (byClasses20 HC3.out.on.at_ x y hx hy)
                  have KP2 := hid (fun W' (hb : Below wc.heap.size wc W') => (⟨(hb.cell (block_lt_of_cell z0)).trans z0, (hb.cell (block_lt_of_cell z1)).trans z1⟩ : W'.cell? ⟨Z, 0, none⟩ = some (.string x) ∧ W'.cell? ⟨Z, 1, none⟩ = some (.string y)))
                  obtain ⟨bi, hbi⟩ : ∃ bi, bi = bop both ba bb := ⟨_, rfl⟩
                  rw [← hbi]
                  have HBI := hid hbi
                  clear hbi
                  obtain ⟨by_, hby⟩ : ∃ by_, by_ = Rc.byC x y := ⟨_, rfl⟩
                  rw [show (Rc.ext xb N2 D2).byC x y = Rc.byC x y from rfl, ← hby] at HBY
                  have HB := hid hby
                  clear hby
                  go_wp2_with fail
                  refine HBY.out.mono ?_
                  rintro e w4 ⟨rfl, hb4⟩
                  dsimp only
                  have HC4 := hid (HC3.out.below hb4)
                  have HT4 := hid ((hb4.block _ (lt_of_block HT3.out)).trans HT3.out)
                  have HR4 := hid (ranges_kept HR3.out (Below.grownBy hb4 none) (by simp) (by simp))
                  obtain ⟨y0, y1⟩ := KP2.out _ hb4
                  clear hb4 KP2 HC3 HT3 HR3 z0 z1 HBY
                  cases g : (!(bi == by_))
                  · have HE4 := hid (show EI Rc Ra Rb both (fun x' y' => finS DA DB 1 x' y' || (Maps.has DB (pk x' y') && !(left (pk x' y') && !(pk x' y').sameKey (pk x y)))) D2 from HEI.out.skip hx hy HFT.out HFO.out (by
                      have g2 : bi = by_ := by simpa using g
                      rw [← HBA.out, ← HBB.out, ← HBI.out, ← HB.out, g2]))
                    go_wp2_with fail
                    go_roundw
                    case rel => exact ⟨_, cnt1, N2, D2, by have := HLT.out; omega, HC4.out, HE4.out, HR4.out, HT4.out⟩
                    case measure => rw [HR4.out.left_eq, HRG.out.left_eq]; exact HLT.out
                  · have hcell : w4.cell? ⟨cb, 5, none⟩ = some (.map (some xb)) := HC4.out.on.at_.c5
                    obtain ⟨w5, hrun, hown5, hg5⟩ := HC4.out.own.update (key := .agg #[.string x, .string y]) (val := .bool bi) plaw Yba.underlying48 (by unfold maxLen; omega) (key60 hx hy) (plainElem_bool Yba.underlying4 _)
                    have HC5 := hid (HC4.out.put hg5 hown5)
                    have hfx := HC4.out.far
                    have hxl : xe < w.heap.size := HOB.out.lt
                    have hnx : xb ≠ r1 := fun e => by
                      obtain ⟨es, ck, hm, _⟩ := HC4.out.own
                      obtain ⟨_, _, _, _, _, _, _, _, _, h5, _⟩ := HR4.out
                      rw [e, h5] at hm
                      cases hm
                    have HR5 := hid (ranges_kept HR4.out hg5 (fun e => by have := Option.some.inj e; omega) (fun e => hnx (Option.some.inj e).symm))
                    have HT5 := hid ((hg5.block _ (lt_of_block HT4.out) (fun e => by
                      obtain ⟨es, ck, hm, _⟩ := HC4.out.own
                      have h := HT4.out
                      rw [Option.some.inj e, hm] at h
                      cases h)).trans HT4.out)
                    have HE5 := hid (show EI Rc Ra Rb both (fun x' y' => finS DA DB 1 x' y' || (Maps.has DB (pk x' y') && !(left (pk x' y') && !(pk x' y').sameKey (pk x y)))) (D2.put (pk x y) (.lit (.bool bi))) from by
                      rw [HBI.out, HBA.out, HBB.out]
                      exact HEI.out.put HC4.out.own.isMap hx hy HFT.out HFO.out)
                    clear hown5 hg5 hfx hxl hnx
                    go_wp2_with fail
                    go_roundw
                    case rel => exact ⟨_, cnt1, N2 + 1, _, by have := HLT.out; omega, HC5.out, HE5.out, HR5.out, HT5.out⟩
                    case measure => rw [HR5.out.left_eq, HRG.out.left_eq]; exact HLT.out
      · have HCX := hid hcx
        have HEI := hid hei
        clear hcx hei htb
        go_wp2_with fail
        refine HK.out _ _ ?_
        rw [← HQ.out]
        exact HF.out wr xb N D HCX.out.bel HCX.out.on HEI.out

set_option maxRecDepth 100000 in
set_option maxHeartbeats 12800000 in
theorem combE {w W : World} {pa pb cb xa xe : Nat} {both : Bool} {Ra Rb Rc : Rel} (h : RelOn W cb Rc) (hb : Below w.heap.size w W) (hcb : w.heap.size ≤ cb) (hrb : w.heap.size ≤ Rc.rb) (ha : RelAt w pa Ra) (hB : RelAt w pb Rb) (hxa : Ra.ex = .map (some xa)) (hxe : Rb.ex = .map (some xe)) (hea : Ra.eb ≤ 4096) (heb : Rb.eb ≤ 4096) (h0 : 0 < Rc.n0) (h1 : 0 < Rc.n1) (h12 : Rc.n1 ≤ 12) (hnb : Rc.nb ≤ 4096)
    (hby : ∀ x y, x.size ≤ maxLen → y.size ≤ maxLen → Rc.byC x y = bop both (Ra.byC x y) (Rb.byC x y))
    {RR : Ending → World → Prop} (hRR : ∀ (R Rx : Rel) (w' : World), Below w.heap.size w w' → (∀ x y, x.size ≤ maxLen → y.size ≤ maxLen → Rx.holds x y = bop both (Ra.holds x y) (Rb.holds x y)) → (∃ W p, RelAt W p Rx) → Merged Rx R → RelAt w' cb R → 0 < R.n0 → 0 < R.n1 → RR (.returned (.pointer (some ⟨cb, 0, none⟩))) w')
    {u3 u4 u5 u6 u7 u8 u9 u10 u11 u13 u14 u15 u16 u17 u18 u19 u20 u21 u22 u23 u24 u25 u26 u27 u28 u29 u30 u31 u32 u33 u34 u35 u36 u37 u38 u39 u40 u41 u42 u43 u44 u45 u46 u47 u48 u49 u50 u51 u52 u53 u54 u55 u56 u57 u58 u59 u60 u61 u62 u63 u64 u65 u66 u67 u68 u69 u70 u71 u72 u73 u74 u75 u76 u77 u78 u79 u80 u81 u82 u83 u84 u85 u86 u87 u88 u89 u90 u91 u92 u93 u94 u95 u96 u97 u98 u99 u100 u101 u102 u103 u104 u105 u106 u107 u108 u109 u110 u111 u112 u113 u114 u115 u116 u117 u118 u119 u120 u121 u122 u123 u124 u125 u126 u127 u128 u129 u130 u131 u132 u133 u134 u135 u136 u137 u138 u139 u140 u141 u142 u143 u144 u145 u146 u147 u148 u149 u150 u151 u152 u153 u154 u155 u156 u157 u158 u159 u160 u161 u162 u163 u164 u165 u166 u167 u168 u169 u170 u171 u172 u173 u174 u175 u176 u177 u178 u179 u180 u181 u182 u183 u184 u185 u186 u187 u188 u189 u190 u191 u192 u193 u194 u195 u196 u197 u198 u199 u200 u201 u202 u203 u204 u205 u206 u207 u208 u209 u210 u211 u212 u213 u214 u215 u216 u217 u218 u219 u220 u221 u222 u223 u224 u225 u226 u227 u228 u229 u230 u231 u232 u233 u234 u235 u236 u237 u238 u239 u240 u241 u242 u243 u244 u245 u246 u247 u248 u249 : Value} :
    Code.wp Yba.prog (dropC 12 (codeOf Yba.f14)) (bodyPost Yba.prog Yba.f14 RR) ⟨#[.pointer (some ⟨pa, 0, none⟩), .pointer (some ⟨pb, 0, none⟩), .bool both, u3, u4, u5, u6, u7, u8, u9, u10, u11, .pointer (some ⟨cb, 0, none⟩), u13, u14, u15, u16, u17, u18, u19, u20, u21, u22, u23, u24, u25, u26, u27, u28, u29, u30, u31, u32, u33, u34, u35, u36, u37, u38, u39, u40, u41, u42, u43, u44, u45, u46, u47, u48, u49, u50, u51, u52, u53, u54, u55, u56, u57, u58, u59, u60, u61, u62, u63, u64, u65, u66, u67, u68, u69, u70, u71, u72, u73, u74, u75, u76, u77, u78, u79, u80, u81, u82, u83, u84, u85, u86, u87, u88, u89, u90, u91, u92, u93, u94, u95, u96, u97, u98, u99, u100, u101, u102, u103, u104, u105, u106, u107, u108, u109, u110, u111, u112, u113, u114, u115, u116, u117, u118, u119, u120, u121, u122, u123, u124, u125, u126, u127, u128, u129, u130, u131, u132, u133, u134, u135, u136, u137, u138, u139, u140, u141, u142, u143, u144, u145, u146, u147, u148, u149, u150, u151, u152, u153, u154, u155, u156, u157, u158, u159, u160, u161, u162, u163, u164, u165, u166, u167, u168, u169, u170, u171, u172, u173, u174, u175, u176, u177, u178, u179, u180, u181, u182, u183, u184, u185, u186, u187, u188, u189, u190, u191, u192, u193, u194, u195, u196, u197, u198, u199, u200, u201, u202, u203, u204, u205, u206, u207, u208, u209, u210, u211, u212, u213, u214, u215, u216, u217, u218, u219, u220, u221, u222, u223, u224, u225, u226, u227, u228, u229, u230, u231, u232, u233, u234, u235, u236, u237, u238, u239, u240, u241, u242, u243, u244, u245, u246, u247, u248, u249], []⟩ W := by
  have HCS := hid (CX.start h hb hcb)
  have HRR := hid hRR
  have HBY := hid hby
  have HRA := hid ha
  have HRB := hid hB
  have hbx : Below W.heap.size W (W.alloc (.map #[] 0)) := below_al (Below.refl _ _) _
  have q5 : (W.alloc (.map #[] 0)).cell? ⟨cb, 5, none⟩ = some Rc.ex := (h.below hbx).at_.c5
  have qf := fun j => (h.below hbx).fz j
  clear hRR h ha hB hby hbx
  generalize hQ : bodyPost Yba.prog Yba.f14 RR = Q
  have HQ := hid hQ
  clear hQ
  simp only [dropC, codeOf, Yba.f14, Option.getD_some]
  refine wp_seq_k (fun K hK => ?_)
  have HK := hid hK
  clear hK
  have hmm := @run_makeMap Yba.prog
  go_wp2_with fail
  refine HK.out _ _ ?_
  rw [← HQ.out]
  exact combE2 (both := both) HCS.out hcb hrb HRA.out HRB.out hxa hxe hea heb h0 h1 h12 hnb HBY.out HRR.out
end Go.Proofs.Ybulkatiq
