/-
  combine: the whole.
-/
import Derived.Test.YbulkatiqCombA
import Derived.Test.YbulkatiqCombD
namespace Go.Proofs.Ybulkatiq
open Go.ChangeShapes Go.WideShapes Go.ChangeAt Go.RowKit Go.Maps Go.WideMaps

/-- What combine leaves. -/
def CombPost (w : World) (both : Bool) (Ra Rb : Rel) (e : Ending) (w' : World) : Prop :=
  ∃ (p : Nat) (R Rx : Rel), e = .returned (.pointer (some ⟨p, 0, none⟩)) ∧ RelAt w' p R ∧ Below w.heap.size w w' ∧ 0 < R.n0 ∧ 0 < R.n1 ∧ (∀ x y, x.size ≤ maxLen → y.size ≤ maxLen → Rx.holds x y = bop both (Ra.holds x y) (Rb.holds x y)) ∧ (∃ W p, RelAt W p Rx) ∧ Merged Rx R

theorem bit3 : bitOf 3 true = true ∧ bitOf 3 false = true ∧ bitOf 0 true = false ∧ bitOf 0 false = false := by
  refine ⟨?_, ?_, ?_, ?_⟩ <;> kernel_rfl

/-- A constant relation. -/
theorem const_holds {w : World} {p : Nat} {R : Rel} (h : RelAt w p R) {c : Nat} {i : Bool} (hr : R.rows = [(c, [])]) (hc : c = if i then 3 else 0) (he : ∀ x y, R.exc x y = none) (x y : ByteArray) : R.holds x y = i := by
  have h0 := h.s0.lt x
  have hl := h.len
  rw [hr] at hl
  have h1 : R.of0 x = 0 := by simp at hl; omega
  unfold Rel.holds
  rw [he, Option.getD_none]
  unfold Rel.byC Rel.cellAt
  rw [hr, h1]
  simp only [List.getElem?_cons_zero]
  rw [atL_none (fun i p hp => by simp at hp), hc]
  obtain ⟨b1, b2, b3, b4⟩ := bit3
  cases i <;> cases (x.toList == y.toList) <;> simp [b1, b2, b3, b4]

theorem merged_self {w : World} {p : Nat} {R : Rel} (h : RelAt w p R) : Merged R R := ⟨R, .inl rfl, ⟨w, p, h⟩, .inl rfl⟩

/-- The first is constant. -/
theorem comb_const {w W : World} {pa pb : Nat} {both i : Bool} {Ra Rb : Rel} {c : Nat} (ha : RelAt w pa Ra) (hB : RelAt w pb Rb) (hb : Below w.heap.size w W) (hna : 0 < Ra.n0 ∧ 0 < Ra.n1) (hnb : 0 < Rb.n0 ∧ 0 < Rb.n1) (hr : Ra.rows = [(c, [])]) (hc : c = if i then 3 else 0) (he : ∀ x y, Ra.exc x y = none) :
    CombPost w both Ra Rb (.returned (.pointer (some ⟨if i == both then pb else pa, 0, none⟩))) W := by
  have hh := const_holds ha hr hc he
  cases h : (i == both)
  · refine ⟨pa, Ra, Ra, rfl, ha.below hb, hb, hna.1, hna.2, fun x y _ _ => ?_, ⟨_, _, ha⟩, merged_self ha⟩
    rw [hh]
    cases i <;> cases both <;> simp [bop] at h ⊢
  · refine ⟨pb, Rb, Rb, rfl, hB.below hb, hb, hnb.1, hnb.2, fun x y _ _ => ?_, ⟨_, _, hB⟩, merged_self hB⟩
    rw [hh]
    cases i <;> cases both <;> simp [bop] at h ⊢
theorem bop_comm (both a b : Bool) : bop both a b = bop both b a := by cases both <;> cases a <;> cases b <;> rfl
theorem CombPost.flip {w w' : World} {both : Bool} {Ra Rb : Rel} {e : Ending} (h : CombPost w both Rb Ra e w') : CombPost w both Ra Rb e w' := by
  obtain ⟨p, R, Rx, h1, h2, h3, h4, h5, h6, h7⟩ := h
  exact ⟨p, R, Rx, h1, h2, h3, h4, h5, fun x y hx hy => by rw [bop_comm]; exact h6 x y hx hy, h7⟩

theorem nextD {w : World} {pa pb xa xe jb cb : Nat} {both : Bool} {Ra Rb : Rel} (ha : RelAt w pa Ra) (hB : RelAt w pb Rb) (hxa : Ra.ex = .map (some xa)) (hxe : Rb.ex = .map (some xe)) (hea : Ra.eb ≤ 4096) (heb : Rb.eb ≤ 4096) (hna : Ra.n1 ≤ 4) (hnb : Rb.n1 ≤ 4) (hca : Can Ra.n1 Ra.rows) (hcb : Can Rb.n1 Rb.rows) : NextD w pa pb jb cb (if both then 22 else 23) both Ra Rb (CombPost w both Ra Rb) := by
  intro W' c marks hcj e1 e2 e3 t0 t1 t2 t3 t4 t5 t6 t7 t8 t9 t10 t11 t12 t13 t14 t15 t16 t17 t18 t19 t20 t21 t22 t23 t24 t25 t26 t27 t28 t29 t30 t31 t32 t33 t34 t35 t36 t37 t38 t39 t40 t41 t42 t43 t44 t45 t46 t47 t48 t49 t50 t51 t52 t53 t54 t55 t56 t57 t58 t59 t60 t61 t62 t63 t64 t65 t66 t67 t68 t69 t70 t71 t72 t73 t74 t75 t76 t77 t78 t79 t80 t81 t82 t83 t84 t85 t86 t87 t88 t89 t90 t91 t92 t93 t94 t95 t96 t97 t98 t99 t100 t101 t102 t103 t104 t105 t106 t107 t108 t109 t110 t111 t112 t113 t114 t115 t116 t117 t118 t119 t120 t121 t122 t123 t124 t125 t126 t127 t128 t129 t130 t131 t132 t133 t134 t135 t136 t137 t138 t139 t140 t141 t142 t143 t144 t145 t146 t147 t148 t149 t150 t151 t152 t153 t154 t155 t156 t157 t158 t159 t160 t161 t162 t163 t164 t165 t166 t167 t168 t169 t170 t171 t172 t173 t174 t175 t176 t177 t178 t179 t180 t181 t182 t183 t184 t185 t186 t187 t188 t189 t190 t191 t192 t193 t194 t195 t196 t197 t198 t199 t200 t201 t202 t203 t204 t205 t206 t207 t208 t209 t210 t211 t212 t213 t214 t215 t216 t217 t218 t219 t220 t221 t222 t223 t224 t225 t226 t227 t228 t229 t230 t231 t232 t233 t234 t235 t236 t237 t238 t239 t240 t241 t242 t243 t244 t245 t246 t247 t248 t249 g0 g1 g2 g11 g12 g13
  subst g0 g1 g2 g11 g12 g13
  exact combD hcj ha hB hxa hxe hea heb hna hnb hca hcb e3 (fun R Rx w' h1 h2 h3 h4 h5 h6 h7 => ⟨c.cb, R, Rx, rfl, h5, h1, h6, h7, h2, h3, h4⟩)

set_option maxRecDepth 100000 in
set_option maxHeartbeats 12800000 in
theorem combine14 {w : World} {pa pb xa xe : Nat} {both : Bool} {Ra Rb : Rel} (ha : RelAt w pa Ra) (hB : RelAt w pb Rb) (hxa : Ra.ex = .map (some xa)) (hxe : Rb.ex = .map (some xe)) (hea : Ra.eb ≤ 4096) (heb : Rb.eb ≤ 4096) (hna : Ra.n1 ≤ 4) (hnb : Rb.n1 ≤ 4) (hnx : 1 ≤ Ra.n1 ∧ 1 ≤ Rb.n1) (hca : Ra.nb ≤ 4) (hcb : Rb.nb ≤ 4) (hna0 : Ra.n0 ≤ 4) (hnb0 : Rb.n0 ≤ 4) (hnx0 : 1 ≤ Ra.n0 ∧ 1 ≤ Rb.n0) (hka : Can Ra.n1 Ra.rows) (hkb : Can Rb.n1 Rb.rows) :
    Calls Yba.prog 14 #[.pointer (some ⟨pa, 0, none⟩), .pointer (some ⟨pb, 0, none⟩), .bool both] w (CombPost w both Ra Rb) := by
  have HN := hid (fun jb cb => nextD (jb := jb) (cb := cb) (both := both) ha hB hxa hxe hea heb hna hnb hka hkb)
  have HRA := hid ha
  have HRB := hid hB
  have HC0 := hid (fun (W : World) (hb : Below w.heap.size w W) => constant21 (ha.below hb) hnx0.1)
  have HC1 := hid (fun (W : World) (hb : Below w.heap.size w W) => constant21 (hB.below hb) hnx0.2)
  have HP0 := hid (fun (W : World) (i : Bool) (c : Nat) (hb : Below w.heap.size w W) (hr : Ra.rows = [(c, [])]) (hc : c = if i then 3 else 0) (he : ∀ x y, Ra.exc x y = none) => comb_const (both := both) ha hB hb ⟨hnx0.1, hnx.1⟩ ⟨hnx0.2, hnx.2⟩ hr hc he)
  have HP1 := hid (fun (W : World) (i : Bool) (c : Nat) (hb : Below w.heap.size w W) (hr : Rb.rows = [(c, [])]) (hc : c = if i then 3 else 0) (he : ∀ x y, Rb.exc x y = none) => (comb_const (both := both) hB ha hb ⟨hnx0.2, hnx.2⟩ ⟨hnx0.1, hnx.1⟩ hr hc he).flip)
  have htb : (w.alloc (.cells #[.pointer (some ⟨pa, 0, none⟩), .pointer (some ⟨pb, 0, none⟩), .pointer (some ⟨pb, 0, none⟩), .pointer (some ⟨pa, 0, none⟩)] 62)).heap[w.heap.size]? = some (.cells #[.pointer (some ⟨pa, 0, none⟩), .pointer (some ⟨pb, 0, none⟩), .pointer (some ⟨pb, 0, none⟩), .pointer (some ⟨pa, 0, none⟩)] 62 (0, 0)) := heap_new w _
  have HTB := hid htb
  have HB1 := hid (show Below w.heap.size w (w.alloc (.cells #[.pointer (some ⟨pa, 0, none⟩), .pointer (some ⟨pb, 0, none⟩), .pointer (some ⟨pb, 0, none⟩), .pointer (some ⟨pa, 0, none⟩)] 62)) from below_al (Below.refl _ _) _)
  clear ha hB htb hka hkb hxa hxe
  go_enter Yba.func14, Yba.ntmps14
  refine wp_seq_k (fun K hK => ?_)
  have HK := hid hK
  clear hK
  go_wp2_with fail
  refine HK.out _ _ ?_
  clear HK
  refine wp_seq_k (fun K2 hK2 => ?_)
  have HK := hid hK2
  clear hK2
  go_wp2_with fail
  go_loopw [34] (fun vi wr => ∃ i : Nat, i ≤ 2 ∧ vi = .int .i64 i ∧ Below w.heap.size w wr ∧ wr.heap[w.heap.size]? = some (.cells #[.pointer (some ⟨pa, 0, none⟩), .pointer (some ⟨pb, 0, none⟩), .pointer (some ⟨pb, 0, none⟩), .pointer (some ⟨pa, 0, none⟩)] 62 (0, 0))) (fun vi _ => 2 - (intOf vi).toNat)
  case atStart => exact ⟨0, by omega, rfl, HB1.out, HTB.out⟩
  case round =>
    obtain ⟨i, hi, rfl, hb, htb⟩ := hrel
    clear HTB HB1
    have HB := hid hb
    obtain rfl | rfl | rfl : i = 0 ∨ i = 1 ∨ i = 2 := by omega
    · simp only [show ((0 : Nat) : Int) = 0 from rfl]
      have t0 : wr.cell? ⟨w.heap.size, 0, none⟩ = some (.pointer (some ⟨pa, 0, none⟩)) := by simp [World.cell?, htb]
      have t1 : wr.cell? ⟨w.heap.size, 1, none⟩ = some (.pointer (some ⟨pb, 0, none⟩)) := by simp [World.cell?, htb]
      have hb2 : Below wr.heap.size wr (wr.alloc (.cells #[.pointer (some ⟨pa, 0, none⟩), .pointer (some ⟨pb, 0, none⟩)] 62)) := below_al (Below.refl _ _) _
      have HB2 := hid (HB.out.trans (hb2.mono HB.out.size))
      have HT2 := hid ((hb2.block _ (lt_of_block htb)).trans htb)
      have z0 := new2_0' wr (.pointer (some ⟨pa, 0, none⟩)) (.pointer (some ⟨pb, 0, none⟩)) 62
      have z1 := new2_1' wr (.pointer (some ⟨pa, 0, none⟩)) (.pointer (some ⟨pb, 0, none⟩)) 62
      have HCC := hid (HC0.out _ HB2.out)
      have HPP := hid (fun (i : Bool) (c : Nat) => HP0.out _ i c HB2.out)
      clear hb htb hb2
      go_upto_region 4 with fail
      clear t0 t1
      generalize wr.alloc (.cells #[.pointer (some ⟨pa, 0, none⟩), .pointer (some ⟨pb, 0, none⟩)] 62) = W2 at HB2 HT2 z0 z1 HCC HPP ⊢
      generalize wr.heap.size = Z at z0 z1 ⊢
      go_wp2_with fail
      refine HCC.out.mono ?_
      rintro e w' ⟨ci, co, rfl, hco, rfl⟩
      have HCO := hid hco
      clear hco
      cases co
      · go_wp2_with fail
        go_roundw
        case rel => exact ⟨1, by omega, rfl, HB2.out, HT2.out⟩
        case measure => simp [intOf]
      · obtain ⟨⟨c, hc1, hc2⟩, hc3⟩ := HCO.out rfl
        have HF := hid (HPP.out ci c hc1 hc2 hc3)
        clear hc1 hc2 hc3 HPP HCO
        cases hq : (ci == both)
        · rw [hq] at HF
          go_wp2_with fail
          go_ret
          exact HF.out
        · rw [hq] at HF
          go_wp2_with fail
          go_ret
          exact HF.out
    · simp only [show ((1 : Nat) : Int) = 1 from rfl]
      have t0 : wr.cell? ⟨w.heap.size, 2, none⟩ = some (.pointer (some ⟨pb, 0, none⟩)) := by simp [World.cell?, htb]
      have t1 : wr.cell? ⟨w.heap.size, 3, none⟩ = some (.pointer (some ⟨pa, 0, none⟩)) := by simp [World.cell?, htb]
      have hb2 : Below wr.heap.size wr (wr.alloc (.cells #[.pointer (some ⟨pb, 0, none⟩), .pointer (some ⟨pa, 0, none⟩)] 62)) := below_al (Below.refl _ _) _
      have HB2 := hid (HB.out.trans (hb2.mono HB.out.size))
      have HT2 := hid ((hb2.block _ (lt_of_block htb)).trans htb)
      have z0 := new2_0' wr (.pointer (some ⟨pb, 0, none⟩)) (.pointer (some ⟨pa, 0, none⟩)) 62
      have z1 := new2_1' wr (.pointer (some ⟨pb, 0, none⟩)) (.pointer (some ⟨pa, 0, none⟩)) 62
      have HCC := hid (HC1.out _ HB2.out)
      have HPP := hid (fun (i : Bool) (c : Nat) => HP1.out _ i c HB2.out)
      clear hb htb hb2
      go_upto_region 4 with fail
      clear t0 t1
      generalize wr.alloc (.cells #[.pointer (some ⟨pb, 0, none⟩), .pointer (some ⟨pa, 0, none⟩)] 62) = W2 at HB2 HT2 z0 z1 HCC HPP ⊢
      generalize wr.heap.size = Z at z0 z1 ⊢
      go_wp2_with fail
      refine HCC.out.mono ?_
      rintro e w' ⟨ci, co, rfl, hco, rfl⟩
      have HCO := hid hco
      clear hco
      cases co
      · go_wp2_with fail
        go_roundw
        case rel => exact ⟨2, by omega, rfl, HB2.out, HT2.out⟩
        case measure => simp [intOf]
      · obtain ⟨⟨c, hc1, hc2⟩, hc3⟩ := HCO.out rfl
        have HF := hid (HPP.out ci c hc1 hc2 hc3)
        clear hc1 hc2 hc3 HPP HCO
        cases hq : (ci == both)
        · rw [hq] at HF
          go_wp2_with fail
          go_ret
          exact HF.out
        · rw [hq] at HF
          go_wp2_with fail
          go_ret
          exact HF.out
    · clear hb htb
      go_wp2_with fail
      refine HK.out _ _ ?_
      exact combH HB.out HRA.out HRB.out hna hnb hnx hca hcb hna0 hnb0 hnx0 HN.out
end Go.Proofs.Ybulkatiq
