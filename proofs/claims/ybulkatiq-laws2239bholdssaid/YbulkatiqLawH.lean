/-
  LawS2239BHolds, walked.
-/
import Derived.Test.YbulkatiqLawW
import Derived.Test.YbulkatiqPlain
set_option linter.unusedVariables false
set_option linter.unusedSimpArgs false
namespace Go.Proofs.Ybulkatiq
open Go.ChangeShapes Go.WideShapes Go.ChangeAt Go.RowKit Go.Maps Go.WideMaps

/-- What is wanted, as far as it is laid down. -/
structure WI (W : World) (kb : Nat) (both : Bool) (Ra Rb : Rel) (i j : Nat) (ws : Array Value) : Prop where
  blk : W.heap[kb]? = some (.cells ws 36 (0, 0))
  size : ws.size = 25
  each : ∀ a b, a < 5 → b < 5 → (a < i ∨ a = i ∧ b < j) → ws[a * 5 + b]? = some (.bool (bop both (Ra.holds (valB a) (valB b)) (Rb.holds (valB a) (valB b))))

theorem WI.below {W W' : World} {kb : Nat} {both : Bool} {Ra Rb : Rel} {i j : Nat} {ws : Array Value} (h : WI W kb both Ra Rb i j ws) (hb : Below W.heap.size W W') : WI W' kb both Ra Rb i j ws := ⟨(hb.block _ (lt_of_block h.blk)).trans h.blk, h.size, h.each⟩
theorem WI.next {W : World} {kb : Nat} {both : Bool} {Ra Rb : Rel} {i : Nat} {ws : Array Value} (h : WI W kb both Ra Rb i 5 ws) : WI W kb both Ra Rb (i + 1) 0 ws := ⟨h.blk, h.size, fun a b ha hb hc => h.each a b ha hb (by omega)⟩
theorem WI.put {W : World} {kb : Nat} {both : Bool} {Ra Rb : Rel} {i j ij : Nat} {ws : Array Value} {v : Bool} (h : WI W kb both Ra Rb i j ws) (hi : i < 5) (hj : j < 5) (hij : ij = i * 5 + j) (hv : v = bop both (Ra.holds (valB i) (valB j)) (Rb.holds (valB i) (valB j))) : WI (W.setCell ⟨kb, ij, none⟩ (.bool v)) kb both Ra Rb i (j + 1) (ws.setIfInBounds ij (.bool v)) := by
  refine ⟨heap_setCell_same W kb ij _ 36 _ h.blk, by simpa using h.size, fun a b ha hb hc => ?_⟩
  have hs := h.size
  by_cases e : a = i ∧ b = j
  · obtain ⟨rfl, rfl⟩ := e
    rw [← hij, Array.getElem?_setIfInBounds_self_of_lt (by omega), hv]
  · rw [Array.getElem?_setIfInBounds_ne (by omega)]
    exact h.each a b ha hb (by omega)

theorem wrap5 {i ij j : Nat} (hi : i < 5) (hj : j < 5) (h : ij = i * 5 + j) : IntKind.i64.wrap (IntKind.i64.wrap ((i : Int) * 5) + (j : Int)) = (ij : Int) := by
  simp [IntKind.wrap, IntKind.bits, IntKind.signed]
  omega
theorem wrap5a {i : Nat} (hi : i < 5) : IntKind.i64.wrap ((i : Int) * 5) = (i : Int) * 5 := by
  simp [IntKind.wrap, IntKind.bits, IntKind.signed]
  omega
theorem wrap5b {i ij j : Nat} (hi : i < 5) (hj : j < 5) (h : ij = i * 5 + j) : IntKind.i64.wrap ((i : Int) * 5 + (j : Int)) = (ij : Int) := by
  simp [IntKind.wrap, IntKind.bits, IntKind.signed]
  omega
theorem wrap5s {i : Nat} (hi : i < 5) : IntKind.i64.wrap ((i : Int) + 1) = ((i + 1 : Nat) : Int) := by
  simp [IntKind.wrap, IntKind.bits, IntKind.signed]
  omega

set_option maxRecDepth 100000 in
set_option maxHeartbeats 12800000 in
/-- The second loops: the answer is asked. -/
theorem lawH3 {w W : World} {kb p : Nat} {both : Bool} {Ra Rb R : Rel} {ws : Array Value} (hbel : Below w.heap.size w W) (hR : RelAt W p R) (hw : WI W kb both Ra Rb 5 0 ws) (hh : ∀ i j, R.holds (valB i) (valB j) = bop both (Ra.holds (valB i) (valB j)) (Rb.holds (valB i) (valB j)))
    {u0 u1 u2 u3 u4 u5 u6 u7 u8 u10 u11 u12 u13 u14 u15 u16 u18 u19 u20 u21 u22 u23 u24 u25 u26 u27 u28 u29 u30 u31 u32 u33 u34 u35 u36 u37 u38 u39 u40 u41 u42 u43 u44 u45 u46 u47 u48 u49 u50 u51 u52 u53 u54 u55 u56 u57 u58 u59 u60 u61 u62 u63 u64 u65 u66 u67 u68 u69 u70 u71 u72 u73 u74 u75 u76 u77 u78 u79 u80 u81 u82 u83 u84 u85 u86 u87 u88 u89 u90 u91 u92 u93 u94 : Value} :
    Code.wp Yba.prog (dropC 6 (codeOf Yba.f5)) (bodyPost Yba.prog Yba.f5 (fun e w' => e = .returned (.bool true) ∧ Below w.heap.size w w')) ⟨#[u0, u1, u2, u3, u4, u5, u6, u7, u8, .pointer (some ⟨kb, 0, none⟩), u10, u11, u12, u13, u14, u15, u16, .pointer (some ⟨p, 0, none⟩), u18, u19, u20, u21, u22, u23, u24, u25, u26, u27, u28, u29, u30, u31, u32, u33, u34, u35, u36, u37, u38, u39, u40, u41, u42, u43, u44, u45, u46, u47, u48, u49, u50, u51, u52, u53, u54, u55, u56, u57, u58, u59, u60, u61, u62, u63, u64, u65, u66, u67, u68, u69, u70, u71, u72, u73, u74, u75, u76, u77, u78, u79, u80, u81, u82, u83, u84, u85, u86, u87, u88, u89, u90, u91, u92, u93, u94], []⟩ W := by
  have HB := hid hbel
  have HR := hid hR
  have HW := hid hw
  have HH := hid hh
  clear hbel hR hw hh
  generalize hQ : bodyPost Yba.prog Yba.f5 (fun e w' => e = .returned (.bool true) ∧ Below w.heap.size w w') = Q
  have HQ := hid hQ
  clear hQ
  simp only [dropC, codeOf, Yba.f5, Option.getD_some]
  go_wp2_with fail
  go_loopw [18] (fun vi wr => ∃ i : Nat, i ≤ 5 ∧ vi = .int .i64 i ∧ Below W.heap.size W wr) (fun vi _ => 5 - (intOf vi).toNat)
  case atStart => exact ⟨0, by omega, rfl, Below.refl _ _⟩
  case round =>
    obtain ⟨i, hi, rfl, hb⟩ := hrel
    rcases Nat.lt_or_ge i 5 with hlt | hge
    · have t1 : (i : Int) < 5 := by omega
      have HB1 := hid hb
      have hws := wrap5s hlt
      clear hb
      generalize wr = wo at *
      go_wp2_with fail
      go_loopw [19] (fun vj wr => ∃ j : Nat, j ≤ 5 ∧ vj = .int .i64 j ∧ Below W.heap.size W wr) (fun vj _ => 5 - (intOf vj).toNat)
      case atStart => exact ⟨0, by omega, rfl, HB1.out⟩
      case round =>
        obtain ⟨j, hj, rfl, hb⟩ := hrel
        rcases Nat.lt_or_ge j 5 with hjl | hjg
        · have t2 : (j : Int) < 5 := by omega
          obtain ⟨ij, hij⟩ : ∃ ij, ij = i * 5 + j := ⟨_, rfl⟩
          have hw1 := wrap5a hlt
          have hw2 := wrap5b hlt hjl hij
          have hw3 := wrap5s hjl
          have t3 : (ij : Int) < 25 := by omega
          have hwr := HW.out.below hb
          have hcell : wr.cell? ⟨kb, ij, none⟩ = some (.bool (R.holds (valB i) (valB j))) := by
            simp only [World.cell?, hwr.blk]
            rw [hij, hwr.each i j hlt hjl (.inl hlt), HH.out]
            rfl
          have HHO := hid (fun (W' : World) (hb' : Below wr.heap.size wr W') => holds13 ((HR.out.below hb).below hb') (valB i) (valB j) (by rw [valB_size]; unfold maxLen; omega) (by rw [valB_size]; unfold maxLen; omega))
          have KP := hid (fun (W' : World) (hb' : Below wr.heap.size wr W') => (hb'.cell (block_lt_of_cell hcell)).trans hcell)
          have HB2 := hid hb
          have hb0 : Below wr.heap.size wr wr.drew := (Below.refl _ _).drew
          clear hb hwr hij hcell
          generalize R.holds (valB i) (valB j) = bv at *
          go_upto_region 24 with fail
          go_cut [94] from 82 to 94 (fun v wx => v = .bool false ∧ Below wr.heap.size wr wx)
          case first =>
            go_region_held3 (fun W' => W'.cell? ⟨kb, ij, none⟩ = some (.bool bv))
              (first | exact KP.out _ hb0 | exact KP.out _ (by assumption))
              (first
                | (go_at_call 12; refine (val12 i hlt _).mono ?_; rintro e w' ⟨rfl, rfl⟩; dsimp only)
                | (go_at_call 12; refine (val12 j hjl _).mono ?_; rintro e w' ⟨rfl, rfl⟩; dsimp only)
                | (go_at_call 13; refine (HHO.out _ hb0).mono ?_; rintro e w4 ⟨rfl, hb4⟩; have hbn : Below wr.heap.size wr w4 := hb0.trans (below_le hb4 hb0.size); dsimp only))
            all_goals go_wp2_with fail
            all_goals go_meet
            all_goals exact ⟨by simp, by assumption⟩
          case rest =>
            obtain ⟨rfl, hbc⟩ := hcut
            have HB3 := hid (HB2.out.trans (below_le hbc HB2.out.size))
            clear hbc KP HHO hb0
            go_wp2_with fail
            go_roundw
            case rel => exact ⟨j + 1, by omega, by rfl, HB3.out⟩
            case measure => simp [intOf]; omega
        · have : j = 5 := by omega
          subst this
          have HB2 := hid hb
          clear hb
          go_wp2_with fail
          go_roundw
          case rel => exact ⟨i + 1, by omega, by rfl, HB2.out⟩
          case measure => simp [intOf]; omega
    · have : i = 5 := by omega
      subst this
      have HB1 := hid hb
      clear hb
      go_wp2_with fail
      rw [← HQ.out]
      go_ret
      exact ⟨rfl, HB.out.trans (below_le HB1.out HB.out.size)⟩

set_option maxRecDepth 100000 in
set_option maxHeartbeats 12800000 in
/-- combine is asked. -/
theorem lawH2 {w W : World} {pa pb kb : Nat} {both : Bool} {Ra Rb : Rel} {ws : Array Value} (hbel : Below w.heap.size w W) (hc : Calls Yba.prog 14 #[.pointer (some ⟨pa, 0, none⟩), .pointer (some ⟨pb, 0, none⟩), .bool both] W (CombPost W both Ra Rb)) (hw : WI W kb both Ra Rb 5 0 ws)
    {u0 u1 u3 u4 u5 u6 u10 u11 u12 u13 u14 u15 u16 u17 u18 u19 u20 u21 u22 u23 u24 u25 u26 u27 u28 u29 u30 u31 u32 u33 u34 u35 u36 u37 u38 u39 u40 u41 u42 u43 u44 u45 u46 u47 u48 u49 u50 u51 u52 u53 u54 u55 u56 u57 u58 u59 u60 u61 u62 u63 u64 u65 u66 u67 u68 u69 u70 u71 u72 u73 u74 u75 u76 u77 u78 u79 u80 u81 u82 u83 u84 u85 u86 u87 u88 u89 u90 u91 u92 u93 u94 : Value} :
    Code.wp Yba.prog (dropC 5 (codeOf Yba.f5)) (bodyPost Yba.prog Yba.f5 (fun e w' => e = .returned (.bool true) ∧ Below w.heap.size w w')) ⟨#[u0, u1, .bool both, u3, u4, u5, u6, .pointer (some ⟨pa, 0, none⟩), .pointer (some ⟨pb, 0, none⟩), .pointer (some ⟨kb, 0, none⟩), u10, u11, u12, u13, u14, u15, u16, u17, u18, u19, u20, u21, u22, u23, u24, u25, u26, u27, u28, u29, u30, u31, u32, u33, u34, u35, u36, u37, u38, u39, u40, u41, u42, u43, u44, u45, u46, u47, u48, u49, u50, u51, u52, u53, u54, u55, u56, u57, u58, u59, u60, u61, u62, u63, u64, u65, u66, u67, u68, u69, u70, u71, u72, u73, u74, u75, u76, u77, u78, u79, u80, u81, u82, u83, u84, u85, u86, u87, u88, u89, u90, u91, u92, u93, u94], []⟩ W := by
  have HB := hid hbel
  have HC := hid hc
  have HW := hid hw
  clear hbel hc hw
  generalize hQ : bodyPost Yba.prog Yba.f5 (fun e w' => e = .returned (.bool true) ∧ Below w.heap.size w w') = Q
  have HQ := hid hQ
  clear hQ
  simp only [dropC, codeOf, Yba.f5, Option.getD_some]
  refine wp_seq_k (fun K hK => ?_)
  have HK := hid hK
  clear hK
  go_wp2_with fail
  refine HC.out.mono ?_
  rintro e w5 ⟨p, R, Rx, rfl, hR, hb5, h0, h1, hx, ⟨Wx, px, hrx⟩, hm⟩
  have hsz : ∀ i, (valB i).size ≤ maxLen := fun i => by rw [valB_size]; unfold maxLen; omega
  have HH := hid (show ∀ i j, R.holds (valB i) (valB j) = bop both (Ra.holds (valB i) (valB j)) (Rb.holds (valB i) (valB j)) from fun i j => (hm.holds hrx hR (by have := hrx.s0.lt (valB i); omega) h1 _ _).trans (hx _ _ (hsz i) (hsz j)))
  have HRR := hid hR
  have HW5 := hid (HW.out.below hb5)
  have HB5 := hid (HB.out.trans (below_le hb5 HB.out.size))
  clear hR hb5 h0 h1 hx hrx hm hsz
  go_wp2_with fail
  refine HK.out _ _ ?_
  rw [← HQ.out]
  exact lawH3 HB5.out HRR.out HW5.out HH.out

set_option maxRecDepth 100000 in
set_option maxHeartbeats 12800000 in
/-- The first loops: what is wanted is laid down. -/
theorem lawH1 {w w4 W : World} {pa pb kb : Nat} {both : Bool} {Ra Rb : Rel} {ws : Array Value} (hbel : Below w.heap.size w w4) (ha : RelAt w4 pa Ra) (hB : RelAt w4 pb Rb) (hc : ∀ W, Below w4.heap.size w4 W → Calls Yba.prog 14 #[.pointer (some ⟨pa, 0, none⟩), .pointer (some ⟨pb, 0, none⟩), .bool both] W (CombPost W both Ra Rb)) (hbW : Below w4.heap.size w4 W) (hkb : w4.heap.size ≤ kb) (hw : WI W kb both Ra Rb 0 0 ws)
    {u0 u1 u3 u4 u5 u6 u10 u11 u12 u13 u14 u15 u16 u17 u18 u19 u20 u21 u22 u23 u24 u25 u26 u27 u28 u29 u30 u31 u32 u33 u34 u35 u36 u37 u38 u39 u40 u41 u42 u43 u44 u45 u46 u47 u48 u49 u50 u51 u52 u53 u54 u55 u56 u57 u58 u59 u60 u61 u62 u63 u64 u65 u66 u67 u68 u69 u70 u71 u72 u73 u74 u75 u76 u77 u78 u79 u80 u81 u82 u83 u84 u85 u86 u87 u88 u89 u90 u91 u92 u93 u94 : Value} :
    Code.wp Yba.prog (dropC 4 (codeOf Yba.f5)) (bodyPost Yba.prog Yba.f5 (fun e w' => e = .returned (.bool true) ∧ Below w.heap.size w w')) ⟨#[u0, u1, .bool both, u3, u4, u5, u6, .pointer (some ⟨pa, 0, none⟩), .pointer (some ⟨pb, 0, none⟩), .pointer (some ⟨kb, 0, none⟩), u10, u11, u12, u13, u14, u15, u16, u17, u18, u19, u20, u21, u22, u23, u24, u25, u26, u27, u28, u29, u30, u31, u32, u33, u34, u35, u36, u37, u38, u39, u40, u41, u42, u43, u44, u45, u46, u47, u48, u49, u50, u51, u52, u53, u54, u55, u56, u57, u58, u59, u60, u61, u62, u63, u64, u65, u66, u67, u68, u69, u70, u71, u72, u73, u74, u75, u76, u77, u78, u79, u80, u81, u82, u83, u84, u85, u86, u87, u88, u89, u90, u91, u92, u93, u94], []⟩ W := by
  have HB := hid hbel
  have HC := hid hc
  have HW := hid hw
  have HRA := hid ha
  have HRB := hid hB
  have HBW := hid hbW
  clear hbel hc hw ha hB hbW
  generalize hQ : bodyPost Yba.prog Yba.f5 (fun e w' => e = .returned (.bool true) ∧ Below w.heap.size w w') = Q
  have HQ := hid hQ
  clear hQ
  simp only [dropC, codeOf, Yba.f5, Option.getD_some]
  refine wp_seq_k (fun K hK => ?_)
  have HK := hid hK
  clear hK
  go_wp2_with fail
  go_loopw [10] (fun vi wr => ∃ (i : Nat) (ws : Array Value), i ≤ 5 ∧ vi = .int .i64 i ∧ Below w4.heap.size w4 wr ∧ WI wr kb both Ra Rb i 0 ws) (fun vi _ => 5 - (intOf vi).toNat)
  case atStart => exact ⟨0, ws, by omega, rfl, HBW.out, HW.out⟩
  case round =>
    obtain ⟨i, ws1, hi, rfl, hb, hwi⟩ := hrel
    clear HBW HW
    rcases Nat.lt_or_ge i 5 with hlt | hge
    · have t1 : (i : Int) < 5 := by omega
      have HB1 := hid hb
      have HW1 := hid hwi
      have hws := wrap5s hlt
      clear hb hwi
      generalize wr = wo at *
      go_wp2_with fail
      go_loopw [11] (fun vj wr => ∃ (j : Nat) (ws : Array Value), j ≤ 5 ∧ vj = .int .i64 j ∧ Below w4.heap.size w4 wr ∧ WI wr kb both Ra Rb i j ws) (fun vj _ => 5 - (intOf vj).toNat)
      case atStart => exact ⟨0, ws1, by omega, rfl, HB1.out, HW1.out⟩
      case round =>
        obtain ⟨j, ws2, hj, rfl, hb, hwi⟩ := hrel
        clear HB1 HW1
        rcases Nat.lt_or_ge j 5 with hjl | hjg
        · have t2 : (j : Int) < 5 := by omega
          obtain ⟨ij, hij⟩ : ∃ ij, ij = i * 5 + j := ⟨_, rfl⟩
          have hw1 := wrap5a hlt
          have hw2 := wrap5b hlt hjl hij
          have hw3 := wrap5s hjl
          have t3 : (ij : Int) < 25 := by omega
          have hsz : ∀ i, (valB i).size ≤ maxLen := fun i => by rw [valB_size]; unfold maxLen; omega
          have HHA := hid (fun (W' : World) (hb' : Below w4.heap.size w4 W') => holds13 (HRA.out.below hb') (valB i) (valB j) (hsz i) (hsz j))
          have HHB := hid (fun (W' : World) (hb' : Below w4.heap.size w4 W') => holds13 (HRB.out.below hb') (valB i) (valB j) (hsz i) (hsz j))
          have HPUT := hid (fun (W' : World) (hb' : Below wr.heap.size wr W') (v : Bool) (hv : v = bop both (Ra.holds (valB i) (valB j)) (Rb.holds (valB i) (valB j))) => (hwi.below hb').put hlt hjl hij hv)
          have HSL := hid (fun (W' : World) (hb' : Below wr.heap.size wr W') => (show (∃ y, W'.cell? ⟨kb, ij, none⟩ = some y) ∧ ∀ k, W'.frozen? ⟨kb, k, none⟩ = false from by
            have hk := (hwi.below hb').blk
            have hs := hwi.size
            exact ⟨⟨ws2[ij]'(by omega), by simp [World.cell?, hk, show ij < ws2.size by omega]⟩, fun k => by simp [World.frozen?, hk]⟩))
          have HB2 := hid hb
          obtain ⟨ba, hba⟩ : ∃ ba, ba = Ra.holds (valB i) (valB j) := ⟨_, rfl⟩
          obtain ⟨bb, hbb⟩ : ∃ bb, bb = Rb.holds (valB i) (valB j) := ⟨_, rfl⟩
          rw [← hba] at HHA HPUT
          rw [← hbb] at HHB HPUT
          clear hb hwi hij hsz hba hbb
          go_wp2_with fail
          refine (val12 i hlt _).mono ?_
          rintro e w' ⟨rfl, rfl⟩
          go_wp2_with fail
          refine (val12 j hjl _).mono ?_
          rintro e w' ⟨rfl, rfl⟩
          go_wp2_with fail
          refine (HHA.out _ HB2.out).mono ?_
          rintro e w1 ⟨rfl, hb1⟩
          have HB3 := hid (HB2.out.trans (below_le hb1 HB2.out.size))
          go_wp2_with fail
          refine (HHB.out _ HB3.out).mono ?_
          rintro e w2 ⟨rfl, hb2⟩
          have hb12 := hb1.trans (below_le hb2 hb1.size)
          obtain ⟨⟨y0, hy0⟩, hyf⟩ := HSL.out w2 hb12
          have HP2 := hid (HPUT.out w2 hb12)
          have HB4 := hid (HB3.out.trans (below_le hb2 HB3.out.size))
          have HB5 := hid (fun v => show Below w4.heap.size w4 (w2.setCell ⟨kb, ij, none⟩ v) from bset HB4.out hkb)
          clear hb1 hb2 hb12 HSL HPUT HHA HHB HB2 HB3 HB4
          cases ba <;> cases bb <;> cases both
          all_goals go_wp2_with fail
          all_goals go_roundw
          all_goals first
            | exact ⟨j + 1, _, by omega, by rfl, HB5.out _, HP2.out _ rfl⟩
            | (simp [intOf]; omega)
        · have : j = 5 := by omega
          subst this
          have HB2 := hid hb
          have HW2 := hid hwi.next
          clear hb hwi
          go_wp2_with fail
          go_roundw
          case rel => exact ⟨i + 1, ws2, by omega, by rfl, HB2.out, HW2.out⟩
          case measure => simp [intOf]; omega
    · have : i = 5 := by omega
      subst this
      have HB1 := hid hb
      have HW1 := hid hwi
      clear hb hwi
      go_wp2_with fail
      refine HK.out _ _ ?_
      rw [← HQ.out]
      exact lawH2 (HB.out.trans (below_le HB1.out HB.out.size)) (HC.out _ HB1.out) HW1.out

set_option maxRecDepth 100000 in
set_option maxHeartbeats 12800000 in
theorem law5 (d1 d2 : Dat) (both : Bool) (w : World) (h1 : DatOk d1) (h2 : DatOk d2) (x1 : ExAny w d1.ex) (x2 : ExAny w d2.ex) : Calls Yba.prog 5 #[.agg d1.cells, .agg d2.cells, .bool both] w fun e w' => e = .returned (.bool true) ∧ Below w.heap.size w w' := by
  have X1 := hid x1
  have X2 := hid x2
  obtain ⟨a1, l1, p1, e1, _⟩ := x1
  obtain ⟨a2, l2, p2, e2, _⟩ := x2
  have g1 : d1.cells[26]? = some (.slice a1 l1 p1) := by rw [← e1]; rfl
  have g2 : d2.cells[26]? = some (.slice a2 l2 p2) := by rw [← e2]; rfl
  have s1 := d1.size
  have s2 := d2.size
  have HB1 := hid (fun (W : World) (hb : Below w.heap.size w W) (hl : l1 ≤ 1024) => build11 d1 h1 W (by rw [e1]; exact (e1 ▸ X1.out).inn hb hl))
  have HB2 := hid (fun (W : World) (hb : Below w.heap.size w W) (hl : l2 ≤ 1024) => build11 d2 h2 W (by rw [e2]; exact (e2 ▸ X2.out).inn hb hl))
  clear X1 X2 e1 e2 h1 h2
  generalize d1.cells = C1 at *
  generalize d2.cells = C2 at *
  obtain ⟨W2, hW2⟩ : ∃ W2, W2 = (w.alloc (.cells C1 33)).alloc (.cells C2 33) := ⟨_, rfl⟩
  have hb2 : Below w.heap.size w W2 := by rw [hW2]; exact below_al (below_al (Below.refl _ _) _) _
  have k1 : W2.heap[w.heap.size]? = some (.cells C1 33 (0, 0)) := by rw [hW2]; exact heap_old (heap_new w _)
  have k2 : W2.heap[w.heap.size + 1]? = some (.cells C2 33 (0, 0)) := by rw [hW2]; exact heap_at (by rw [size_al])
  have y1 : W2.cell? ⟨w.heap.size, 26, none⟩ = some (.slice a1 l1 p1) := by simp [World.cell?, k1, g1]
  have y2 : W2.cell? ⟨w.heap.size + 1, 26, none⟩ = some (.slice a2 l2 p2) := by simp [World.cell?, k2, g2]
  have hW2' := hW2.symm
  have HW := hid hb2
  clear hW2 g1 g2
  have KP := hid (fun (W' : World) (hb : Below W2.heap.size W2 W') => (⟨(hb.block _ (lt_of_block k1)).trans k1, (hb.block _ (lt_of_block k2)).trans k2⟩ : W'.heap[w.heap.size]? = some (.cells C1 33 (0, 0)) ∧ W'.heap[w.heap.size + 1]? = some (.cells C2 33 (0, 0))))
  have E1 := hid (fun (W' : World) (a : Act) (o : Oper) (x : Operand) (ho : o.op = .load 33 x) (hx : a.eval x = .pointer (some ⟨w.heap.size, 0, none⟩)) (hw : W'.heap[w.heap.size]? = some (.cells C1 33 (0, 0)) ∧ W'.heap[w.heap.size + 1]? = some (.cells C2 33 (0, 0))) => exec_load33 ho hx s1 hw.1)
  have E2 := hid (fun (W' : World) (a : Act) (o : Oper) (x : Operand) (ho : o.op = .load 33 x) (hx : a.eval x = .pointer (some ⟨w.heap.size + 1, 0, none⟩)) (hw : W'.heap[w.heap.size]? = some (.cells C1 33 (0, 0)) ∧ W'.heap[w.heap.size + 1]? = some (.cells C2 33 (0, 0))) => exec_load33 ho hx s2 hw.2)
  clear k1 k2 hb2 s1 s2
  by_cases t1 : (1024 : Int) < (l1 : Int)
  · go_enter Yba.func5, Yba.ntmps5
    go_wp2_with fail
    go_ret
    exact ⟨rfl, HW.out⟩
  by_cases t2 : (1024 : Int) < (l2 : Int)
  · go_enter Yba.func5, Yba.ntmps5
    go_wp2_with fail
    go_ret
    exact ⟨rfl, HW.out⟩
  have hb0 : Below W2.heap.size W2 W2.drew := (Below.refl _ _).drew
  have hl1 : l1 ≤ 1024 := by omega
  have hl2 : l2 ≤ 1024 := by omega
  go_enter Yba.func5, Yba.ntmps5
  go_upto_region 3 with fail
  clear y1 y2 t1 t2 hW2'
  refine wp_region_noPanic ?_
  refine wp_region_held_drew (S := fun W' => W'.heap[w.heap.size]? = some (.cells C1 33 (0, 0)) ∧ W'.heap[w.heap.size + 1]? = some (.cells C2 33 (0, 0))) (by kernel_rfl) (KP.out _ hb0) (fun hHeld => ?_)
  refine wpAnyH_take (i := 0) (v := .agg C1) rfl (by kernel_rfl) (by kernel_rfl) (by kernel_rfl) (fun _ _ _ h => h) (Or.inl ⟨by rfl, fun W hSw => E1.out W _ _ _ rfl rfl hSw⟩) hHeld ?_
  simp only [Act.put, List.setIfInBounds_toArray, List.set_cons_zero, List.set_cons_succ]
  refine wpAnyH_take (i := 2) (v := .agg C2) rfl (by kernel_rfl) (by kernel_rfl) (by kernel_rfl) (fun _ _ _ h => h) (Or.inl ⟨by rfl, fun W hSw => E2.out W _ _ _ rfl rfl hSw⟩) hHeld ?_
  simp only [Act.put, List.setIfInBounds_toArray, List.set_cons_zero, List.set_cons_succ]
  refine wpAnyH_ready (rs := [1]) (by kernel_rfl) (by simp) ?_
  refine AllReadyH.cons rfl (fun K hK => ?_) AllReadyH.nil
  go_simp
  refine (HB1.out _ (HW.out.trans (below_le hb0 HW.out.size)) hl1).mono ?_
  rintro e w3 ⟨pa, Ra, rfl, ra, n0, n1, n04, n14, eb, nb, can, ⟨xa, hxa⟩, _, hb3⟩
  have hbn3 : Below W2.heap.size W2 w3 := hb0.trans (below_le hb3 hb0.size)
  have HRA := hid ra
  have H3 := hid (comb_after ra hxa eb n14 n1 nb n04 n0 can)
  clear ra n0 n1 n04 n14 eb nb can hxa hb3
  go_wp2_with fail
  refine hK.out _ _ ?_ (fun hHeld2 => ?_)
  · exact KP.out _ hbn3
  clear hK K hHeld
  have hHeld := hHeld2
  clear hHeld2
  try simp only [Act.put, List.setIfInBounds_toArray, List.set_cons_zero, List.set_cons_succ]
  refine wpAnyH_ready (rs := [3]) (by kernel_rfl) (by simp) ?_
  refine AllReadyH.cons rfl (fun K hK => ?_) AllReadyH.nil
  go_simp
  refine (HB2.out _ (HW.out.trans (below_le hbn3 HW.out.size)) hl2).mono ?_
  rintro e w4 ⟨pb, Rb, rfl, rb, n0, n1, n04, n14, eb, nb, can, ⟨xb, hxb⟩, _, hb4⟩
  have hbn4 : Below W2.heap.size W2 w4 := hbn3.trans (below_le hb4 hbn3.size)
  have HRB := hid rb
  have HRA4 := hid (HRA.out.below hb4)
  have H4 := hid (fun (W : World) (hb : Below w4.heap.size w4 W) => H3.out W (hb4.trans (below_le hb hb4.size)) pb Rb xb both (rb.below hb) hxb eb n14 n1 nb n04 n0 can)
  clear rb n0 n1 n04 n14 eb nb can hxb hb4
  go_wp2_with fail
  refine hK.out _ _ ?_ (fun hHeld2 => ?_)
  · exact KP.out _ hbn4
  clear hK K hHeld
  have hHeld := hHeld2
  clear hHeld2
  try simp only [Act.put, List.setIfInBounds_toArray, List.set_cons_zero, List.set_cons_succ]
  refine wpAnyH_ready (rs := [4]) (by kernel_rfl) (by simp) ?_
  refine AllReadyH.cons rfl (fun K hK => ?_) AllReadyH.nil
  go_simp
  refine hK.out _ _ ?_ (fun hHeld2 => ?_)
  · exact KP.out _ hbn4
  clear hK K hHeld
  have hHeld := hHeld2
  clear hHeld2
  try simp only [Act.put, List.setIfInBounds_toArray, List.set_cons_zero, List.set_cons_succ]
  refine wpAnyH_ready (rs := [5]) (by kernel_rfl) (by simp) ?_
  refine AllReadyH.cons rfl (fun K hK => ?_) AllReadyH.nil
  go_simp
  refine hK.out _ _ ?_ (fun hHeld2 => ?_)
  · exact KP.out _ hbn4
  clear hK K hHeld
  have hHeld := hHeld2
  clear hHeld2
  try simp only [Act.put, List.setIfInBounds_toArray, List.set_cons_zero, List.set_cons_succ]
  refine wpAnyH_done (by kernel_rfl) ?_ _
  refine NoPanic.normal ?_
  have HBF := hid (HW.out.trans (below_le hbn4 HW.out.size))
  clear hHeld HB1 HB2 KP E1 E2 hb0 hbn3 hbn4 H3 HRA HW
  refine via (P := Yba.prog) (by assumption) ?_
  refine wp_seq_k (fun K hK => ?_)
  have HK := hid hK
  clear hK
  go_wp2_with fail
  refine HK.out _ _ ?_
  exact lawH1 HBF.out HRA4.out HRB.out H4.out (below_al (Below.refl _ _) _) (Nat.le_refl _) ⟨heap_new _ _, rfl, fun a b _ _ h => by omega⟩
end Go.Proofs.Ybulkatiq
