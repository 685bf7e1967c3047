/-
  The walk of names.number at a plain name.
-/
import Derived.Test.YbulkatkuFmtNumber
namespace Go.Proofs.YbulkatkuFmt.Nm
open Go.ChangeShapes Go.WideShapes Go.ChangeAt Go.RowKit Go.Maps
open Go.WideMaps (keyOf_string_mk)

theorem info9 : (Ybaf.prog.info? 9).map (fun i => (i.zero, i.size, i.bytes)) = some (some (.string ByteArray.empty), 1, 16) := by kernel_rfl

theorem grown_two {W w1 w6 : World} {row : Option Nat} {v2 : Value} (hA : W.grownBy w1 row) (hl : v2.ownBlock = row ∨ ∃ k, W.heap.size ≤ k ∧ v2.ownBlock = some k) (hB : w1.grownBy w6 v2.ownBlock) : W.grownBy w6 row :=
  ⟨hB.os.trans hA.os, hB.tape.trans hA.tape, hB.output.trans hA.output, Nat.le_trans hA.size hB.size, fun k hk hne => by
    refine (hB.block k (Nat.lt_of_lt_of_le hk hA.size) ?_).trans (hA.block k hk hne)
    rcases hl with e | ⟨k', hk', e⟩
    · rw [e]; exact hne
    · rw [e]; intro h; simp only [Option.some.injEq] at h; omega⟩

section
variable {B p : Nat} {X : Option Nat} {M : List ByteArray} {I : List Int} {d : Dat} {w : World}

theorem Ok.addPlain {ns : List ByteArray} {bs : List Int} {q : Q4} {D : DataW Unit} {cnt z : Nat} {s : ByteArray} (ok : Ok M I ns bs q D cnt) (hroom : I.length < 1024) (hz : z + ns.length = I.length) (hD : IsMap D) :
    Ok (M ++ [s]) (I ++ [-1]) (ns ++ List.replicate z ByteArray.empty ++ [s]) bs ⟨s, (I.length : Int), q.s0, q.n0, q.s1, q.n1, q.s2, q.n2⟩ (D.put (.string s.data.toList) (.lit (.int .i32 (I.length : Int)))) (cnt + 1) := by
  have hlen := ok.len
  have up : ∀ {j : Nat} {x : ByteArray}, M[j]? = some x → (M ++ [s])[j]? = some x := fun {j x} h => by
    rw [List.getElem?_append_left (List.getElem?_eq_some_iff.1 h).1]; exact h
  have upI : ∀ {j : Nat} {x : Int}, I[j]? = some x → (I ++ [-1])[j]? = some x := fun {j x} h => by
    rw [List.getElem?_append_left (List.getElem?_eq_some_iff.1 h).1]; exact h
  have hnl : (ns ++ List.replicate z ByteArray.empty).length = I.length := by simp; omega
  have last : (M ++ [s])[I.length]? = some s := by rw [← hlen]; simp
  refine ⟨by simp [hlen], by simp; omega, by simp; have := ok.cntl; omega, by simp; omega, ok.bsl, fun j i hi => ?_, fun k' v hv => ?_, fun x hx => ?_, fun t ht => ?_⟩
  · by_cases hj : j < I.length
    · rw [List.getElem?_append_left hj] at hi
      rcases ok.kinds j i hi with ⟨e, e2⟩ | ⟨k2, h1, h2, h3⟩
      · refine .inl ⟨e, ?_⟩
        have hjn : j < ns.length := by
          have hM : M[j]? = some M[j] := List.getElem?_eq_getElem (by omega)
          rw [hM] at e2
          exact (List.getElem?_eq_some_iff.1 e2).1
        rw [List.append_assoc, List.getElem?_append_left hjn, e2, List.getElem?_append_left (by omega)]
      · exact .inr ⟨k2, h1, h2, up h3⟩
    · have hje : j = I.length := by
        have := (List.getElem?_eq_some_iff.1 hi).1
        simp at this; omega
      subst hje
      simp at hi
      refine .inl ⟨hi.symm, ?_⟩
      rw [last, List.getElem?_append_right (by omega), hnl]
      simp
  · rcases ok.bsOk k' v hv with e | ⟨j, h1, h2⟩
    · exact .inl e
    · exact .inr ⟨j, h1, upI h2⟩
  · simp only [Q4.list, List.mem_cons, List.not_mem_nil, or_false] at hx
    have old : ∀ y ∈ q.list, y.1 = ByteArray.empty ∨ ∃ j : Nat, y.2 = j ∧ (M ++ [s])[j]? = some y.1 := fun y hy => by
      rcases ok.qOk y hy with e | ⟨j, h1, h2⟩
      · exact .inl e
      · exact .inr ⟨j, h1, up h2⟩
    rcases hx with rfl | rfl | rfl | rfl
    · exact .inr ⟨I.length, rfl, last⟩
    · exact old _ (by simp [Q4.list])
    · exact old _ (by simp [Q4.list])
    · exact old _ (by simp [Q4.list])
  · by_cases hts : Lit.string t = Lit.string s.data.toList
    · have hts' : t = s.data.toList := by simpa using hts
      subst hts'
      refine ⟨I.length, ?_, by rw [last]⟩
      exact atKey_put_same (k := .string s.data.toList) hD trivial _ _
    · rw [has_put_other hts] at ht
      obtain ⟨j, h1, h2⟩ := ok.DOk t ht
      exact ⟨j, by rw [atKey_put_other hts]; exact h1, up h2⟩

theorem MapIs.shape {mv : Value} {D : DataW Unit} {r : Option Nat} {n : Nat} (h : MapIs w mv D r n) : mv = .map r := by
  rcases h with ⟨rfl, rfl, _⟩ | ⟨b, rfl, rfl, _⟩ <;> rfl

theorem Ok.emptyMap {ns : List ByteArray} {bs : List Int} {q : Q4} {D : DataW Unit} {cnt : Nat} (ok : Ok M I ns bs q D cnt) : Ok M I ns bs q (.map []) 0 :=
  ⟨ok.len, ok.small, Nat.zero_le _, ok.nsl, ok.bsl, ok.kinds, ok.bsOk, ok.qOk, fun s hs => by simp [Maps.has] at hs⟩

/-- What the region 'names = append(append(names, make(..)...), key)' leaves. -/
theorem names_left {W w1 w6 : World} {d3 : Dat} {aon : Option Addr} {cn z cap2 g6 cap6 : Nat} {ao2 : Option Addr} {s : ByteArray} (h : Mem B p X I d3 W) (hnv : d3.nv = .slice aon d3.ns.length cn)
    (hA : W.grownBy w1 (Value.slice aon d3.ns.length cn).ownBlock) (hl : (Value.slice ao2 (d3.ns.length + z) cap2).ownBlock = (Value.slice aon d3.ns.length cn).ownBlock ∨ ∃ k, W.heap.size ≤ k ∧ (Value.slice ao2 (d3.ns.length + z) cap2).ownBlock = some k)
    (hB : w1.grownBy w6 (Value.slice ao2 (d3.ns.length + z) cap2).ownBlock)
    (hown : w6.ownsRow B 9 1 (.slice (some ⟨g6, 0, none⟩) (d3.ns.length + z + 1) cap6) (d3.ns.length + z + 1) (strs d3.ns ++ List.replicate z (.string ByteArray.empty) ++ [.string s]))
    (hat : (Value.slice ao2 (d3.ns.length + z) cap2).ownBlock = some g6 ∨ W.heap.size ≤ g6) :
    Mem B p X I { d3 with nv := .slice (some ⟨g6, 0, none⟩) (d3.ns.length + z + 1) cap6, ns := d3.ns ++ List.replicate z ByteArray.empty ++ [s] } (w6.setCell ⟨p, 1, none⟩ (.slice (some ⟨g6, 0, none⟩) (d3.ns.length + z + 1) cap6)) ∧
      Fr B X W (w6.setCell ⟨p, 1, none⟩ (.slice (some ⟨g6, 0, none⟩) (d3.ns.length + z + 1) cap6)) := by
  refine h.setNv (ns' := d3.ns ++ List.replicate z ByteArray.empty ++ [s]) (by rw [hnv]; exact grown_two hA hl hB) ?_ ?_
  · have e1 : (d3.ns ++ List.replicate z ByteArray.empty ++ [s]).length = d3.ns.length + z + 1 := by simp; omega
    rw [e1]
    simpa [strs] using hown
  · rw [hnv]
    rcases hat with e | e
    · rcases hl with e2 | ⟨k, hk, e2⟩
      · exact .inl (by show some g6 = _; rw [← e, e2])
      · exact .inr ⟨k, hk, by show some g6 = _; rw [← e, e2]⟩
    · exact .inr ⟨g6, e, rfl⟩

theorem grown_drew {a b : World} {row : Option Nat} (h : a.drew.grownBy b row) : a.grownBy b row := ⟨h.os, h.tape, h.output, h.size, h.block⟩
theorem grownBy_alloc_trans {a b : World} {o : Obj} {row : Option Nat} (h : (a.alloc o).grownBy b row) : a.grownBy b row := (World.grownBy_alloc a o row).trans h
theorem grown_alloc_drew {a b : World} {o : Obj} {row : Option Nat} (h : ((a.alloc o).drew).grownBy b row) : a.grownBy b row := grownBy_alloc_trans (grown_drew h)
theorem loc_a {a : World} {x row : Option Nat} (h : x = row ∨ x = some a.drew.heap.size) : x = row ∨ ∃ k, a.heap.size ≤ k ∧ x = some k := h.imp id fun e => ⟨_, Nat.le_refl _, e⟩
theorem loc_b {a : World} {o : Obj} {x row : Option Nat} (h : x = row ∨ x = some ((a.alloc o).drew).heap.size) : x = row ∨ ∃ k, a.heap.size ≤ k ∧ x = some k := h.imp id fun e => ⟨_, by show a.heap.size ≤ (a.alloc o).heap.size; simp, e⟩
theorem news_b {a b : World} {n base : Nat} {v : Value} {xs : List Value} {c : Value} (hO : a.ownsRow base 9 1 v n xs) (h : ((a.alloc (.cells #[c] 9)).drew).grownBy b v.ownBlock) :
    ∀ j u, [c][j]? = some u → b.cell? ((⟨a.heap.size, 0, none⟩ : Addr).add j) = some u := by
  have hb : b.heap[a.heap.size]? = some (.cells #[c] 9 (0, 0)) := by
    rw [h.block a.heap.size (by show a.heap.size < (a.alloc _).heap.size; simp) (fun e => by have := own_lt hO _ e.symm; omega)]
    exact heap_alloc_new a _
  exact World.news_of_block (cs := #[c]) hb
theorem at_new {a b : World} {row x : Option Nat} {g H : Nat} (hA : a.grownBy b row) (hH : b.heap.size ≤ H) (h : x = some g ∨ g = H) : x = some g ∨ a.heap.size ≤ g := h.imp id fun e => by have := hA.size; omega

set_option maxRecDepth 100000 in
set_option maxHeartbeats 1600000 in
theorem number_plain (h : Mem B p X I d w) (ok : Ok M I d.ns d.bs d.q d.D d.cnt) (hroom : I.length < 1024) (s what : ByteArray) (hs : s ≠ ByteArray.empty) (hs4 : s.size ≤ 100) (_he : (!s.toList.isEmpty) = true) (_he2 : s.toList.isEmpty = false) :
    Calls Ybaf.prog 5 #[.pointer (some ⟨p, 0, none⟩), .string s, .int .i64 (-1), .string what] w (NumPost B p X M I w s (-1)) := by
  have hsm := ok.small
  obtain ⟨i0, hi0, hz0, hz1, hz2⟩ := info_parts info21
  obtain ⟨j0, hj0, hy0, hy1, hy2⟩ := info_parts info9
  have htl : s.size ≤ maxLen := by unfold maxLen; omega
  have HK := hid h
  have HO := hid ok
  have HN := hid hs
  clear h ok hs
  go_enter Ybaf.func5, Ybaf.ntmps5
  go_upto_if 75 with fail
  go_cut [12] (fun _ wx => ∃ q', Mem B p X I { d with q := q' } wx ∧ Ok M I d.ns d.bs q' d.D d.cnt ∧ Fr B X w wx)
  case first =>
    go_wp2_with fail
    refine (found_any HK.out.here HK.out.map (map_ne HK.out.map HK.out.here) htl).mono ?_
    rintro e w2 ⟨n, b, q', rfl, hat, hg2, hq, hb⟩
    have hfound := found_ok HO.out HN.out hq hb
    obtain ⟨m2, f2⟩ := HK.out.setQ hat hg2
    have HM2 := hid m2
    have HF2 := hid f2
    have HFO := hid hfound
    clear hat hg2 hq hb m2 f2 hfound
    cases b
    · go_wp2_with fail
      go_meet
      case rel => exact ⟨q', HM2.out, HFO.out.1, HF2.out⟩
    · go_wp2_with fail
      go_ret2
      obtain ⟨j, rfl, hj⟩ := HFO.out.2 (by first | trivial | rfl)
      exact ⟨j, M, I, _, rfl, HM2.out, HFO.out.1, HF2.out, .inl ⟨rfl, rfl, hj⟩⟩
  case rest =>
    obtain ⟨d2, m2, ok2, f2⟩ : ∃ d2 : Dat, Mem B p X I d2 wc ∧ Ok M I d2.ns d2.bs d2.q d2.D d2.cnt ∧ Fr B X w wc := by
      obtain ⟨q', a1, a2, a3⟩ := hcut
      exact ⟨_, a1, a2, a3⟩
    clear hcut HK HO
    obtain ⟨aoi, ci, hiv⟩ := owns_shape m2.ivO
    have hA := m2.here
    rw [hiv, m2.map.shape] at hA
    have hc0 := hA.c0
    have hf0 := hA.fz 0
    have hne := run_eql_map_nil (P := Ybaf.prog) wc 24 9 21 d2.r Ybaf.underlying24
    have hmm := @run_makeMap Ybaf.prog
    have hlp := m2.lt
    have HK := hid m2
    have HO := hid ok2
    have HF := hid f2
    clear m2 ok2 f2 hiv
    go_upto_if 143 with (go_at_call 8; refine (len_any hA).mono ?_; rintro e w' ⟨rfl, rfl⟩)
    go_cut [145] (fun _ wx => ∃ d3 b, Mem B p X I d3 wx ∧ Ok M I d3.ns d3.bs d3.q d3.D d3.cnt ∧ Fr B X w wx ∧ d3.r = some b)
    case first =>
      cases hr : d2.r with
      | none =>
        rw [hr] at hA hc0
        have hb : (none : Option Nat).isNone = true := rfl
        go_wp2_with fail
        go_meet
        case rel =>
          obtain ⟨m3, f3⟩ := HK.out.makeMap
          rw [World.setCell_alloc_past _ _ _ _ (by exact hlp)] at m3 f3
          exact ⟨_, _, m3, HO.out.emptyMap, HF.out.trans f3, rfl⟩
      | some b =>
        go_wp2_with fail
        go_meet
        case rel => exact ⟨d2, b, HK.out, HO.out, HF.out, hr⟩
    case rest =>
      obtain ⟨d3, b, m3, ok3, f3, hr3⟩ := hcut
      clear HK HO HF hA hc0 hf0 hne hmm hlp
      have HK := hid m3
      have HO := hid ok3
      have HF := hid f3
      clear m3 ok3 f3
      go_wp2_with fail
      refine (clone_any s wc (by omega)).mono ?_
      rintro e w4 ⟨rfl, hb4⟩
      obtain ⟨m4, f4⟩ := HK.out.grew (grown_below hb4)
      have hA := m4.here
      rw [m4.map.shape, hr3] at hA
      have hc0 := hA.c0
      have hown : w4.ownsMap Ybaf.prog 9 (plainElem (H := Unit) Ybaf.prog 21) b d3.cnt d3.D := by
        rcases m4.map with ⟨e, _⟩ | ⟨b', e, _, ho⟩
        · rw [hr3] at e; cases e
        · rw [hr3] at e; simp only [Option.some.injEq] at e; subst e; exact ho
      have hkey : keyOf Ybaf.prog 9 (.string s) = some (.string s.data.toList) := keyOf_string_mk Ybaf.underlying9 htl
      have hcnt := HO.out.cntl
      have HM := hid m4
      have HF4 := hid (HF.out.trans f4)
      clear m4 f4 hb4 HK HF hA
      go_upto_region 23 with (at_mapUpdate; refine wpList_mapUpdate_own _ rfl _ _ _ 24 rfl 9 21 law9 Ybaf.underlying24 _ b _ _ rfl hown (by unfold maxLen; omega) _ _ _ rfl rfl hkey _ [] (plainElem_int Ybaf.underlying21 (WalkArith.wf_i32 (by omega))) ?_; intro w5 hown5 hgrow5)
      go_frame
      obtain ⟨m5, f5⟩ := HM.out.putMap hr3 hgrow5 hown5
      have hDm := hown.isMap
      have HML := hid HO.out.len.symm
      obtain ⟨d5, hd5⟩ : ∃ d5 : Dat, d5 = { d3 with D := d3.D.put (.string s.data.toList) (.lit (.int .i32 (I.length : Int))), cnt := d3.cnt + 1 } := ⟨_, rfl⟩
      have e5 : d5.ns = d3.ns := by rw [hd5]
      rw [← hd5] at m5
      have hnl := HO.out.nsl
      obtain ⟨z, hz⟩ : ∃ z : Nat, z + d3.ns.length = I.length := ⟨I.length - d3.ns.length, by omega⟩
      rw [← e5] at hz hnl
      have HE := hid hd5
      obtain ⟨aon, cn, hnv⟩ := owns_shape m5.nvO
      have hA := m5.here
      rw [hnv] at hA
      have hc1 := hA.c1
      have hf1 := hA.fz 1
      have hnO := m5.nvO
      rw [hnv] at hnO
      have hBs := m5.size
      have hlp := m5.lt
      have hpn : some p ≠ (Value.slice aon d5.ns.length cn).ownBlock := by rw [← hnv]; exact Ne.symm (row_ne m5.nvO m5.here (by decide))
      have e1 : IntKind.i64.wrap (I.length : Int) = (I.length : Int) := by rw [IntKind.wrap_i64]; omega
      have e2 : IntKind.i64.wrap ((I.length : Int) - (d5.ns.length : Int)) = (z : Int) := by rw [IntKind.wrap_i64]; omega
      have HM5 := hid m5
      have HF5 := hid (HF4.out.trans f5)
      have HNV := hid hnv
      clear m5 f5 hnv HM HF4 hc0 hown hown5 hgrow5 hd5 e5 hA
      go_cut [172] (fun _ wx => ∃ d6 : Dat, Mem B p X I d6 wx ∧ d6.D = d5.D ∧ d6.cnt = d5.cnt ∧ d6.bs = d5.bs ∧ d6.q = d5.q ∧ d6.ns = d5.ns ++ List.replicate z ByteArray.empty ++ [s] ∧ Fr B X w wx)
      case first =>
        have hBs1 : ∀ o, B ≤ (w5.alloc o).heap.size := fun o => by simp; omega
        have hBs1' : ∀ {x : World}, B ≤ x.heap.size → ∀ o, B ≤ (x.alloc o).heap.size := fun h o => by simp; omega
        go_region_law (first | (refine step_append_zeros _ (by rfl) _ _ 25 3 (by rfl) B 9 j0 (.string ByteArray.empty) 16 .i64 Ybaf.underlying25 Ybaf.underlying3 hj0 hy0 hy1 hy2 (by rfl) (by rfl) (.slice aon d5.ns.length cn) d5.ns.length (strs d5.ns) (by rfl) (by exact hnO) z (by rfl) (by omega) (by omega) (by first | exact hBs | exact hBs1 _) ?_; intro ao2 cap2 w1 hown1 hgrow1 hloc1; have hgA := grown_drew hgrow1; have hlA := loc_a hloc1; have hBs2 := Nat.le_trans hBs hgA.size) | (refine step_append_zeros _ (by rfl) _ _ 25 3 (by rfl) B 9 j0 (.string ByteArray.empty) 16 .i64 Ybaf.underlying25 Ybaf.underlying3 hj0 hy0 hy1 hy2 (by rfl) (by rfl) (.slice aon d5.ns.length cn) d5.ns.length (strs d5.ns) (by rfl) (by exact (hnO.alloc _)) z (by rfl) (by omega) (by omega) (by first | exact hBs | exact hBs1 _) ?_; intro ao2 cap2 w1 hown1 hgrow1 hloc1; have hgA := grown_alloc_drew hgrow1; have hlA := loc_b hloc1; have hBs2 := Nat.le_trans hBs hgA.size) | (refine step_append_lies _ (by rfl) _ _ 25 (by rfl) B 9 j0 (.string ByteArray.empty) 1 16 Ybaf.underlying25 hj0 hy0 hy1 hy2 rfl (by omega) (.slice ao2 (d5.ns.length + z) cap2) (d5.ns.length + z) (strs d5.ns ++ List.replicate z (.string ByteArray.empty)) (by rfl) (by exact (hown1.alloc _)) ⟨w1.heap.size, 0, none⟩ 1 1 [.string s] (by rfl) (by rfl) (by exact (World.news_of_block (cs := #[.string s]) (t := 9) (fr := (0, 0)) (heap_alloc_new w1 _))) (by simp [Value.oneCell']) (by omega) (by unfold maxLen; omega) (by omega) (by first | exact hBs2 | exact hBs1' hBs2 _) (w1.heap.size + 1) (by simp) ?_; intro g6 cap6 w6 hown6 hgrow6 hat6 hlt6; have hgB := grownBy_alloc_trans hgrow6; have hgC := grown_two hgA hlA hgB; have c6 := (hgC.cell_far ⟨p, 1, none⟩ (by exact hlp) hpn).trans hc1; have f6 := (hgC.frozen_far ⟨p, 1, none⟩ (by exact hlp) hpn).trans hf1; have hat7 := at_new hgA (by omega) hat6) | (refine step_append_lies _ (by rfl) _ _ 25 (by rfl) B 9 j0 (.string ByteArray.empty) 1 16 Ybaf.underlying25 hj0 hy0 hy1 hy2 rfl (by omega) (.slice ao2 (d5.ns.length + z) cap2) (d5.ns.length + z) (strs d5.ns ++ List.replicate z (.string ByteArray.empty)) (by rfl) (by exact hown1) ⟨w5.heap.size, 0, none⟩ 1 1 [.string s] (by rfl) (by rfl) (by exact (news_b hnO hgrow1)) (by simp [Value.oneCell']) (by omega) (by unfold maxLen; omega) (by omega) (by first | exact hBs2 | exact hBs1' hBs2 _) w1.heap.size (by rfl) ?_; intro g6 cap6 w6 hown6 hgrow6 hat6 hlt6; have hgB := id hgrow6; have hgC := grown_two hgA hlA hgB; have c6 := (hgC.cell_far ⟨p, 1, none⟩ (by exact hlp) hpn).trans hc1; have f6 := (hgC.frozen_far ⟨p, 1, none⟩ (by exact hlp) hpn).trans hf1; have hat7 := at_new hgA (by omega) hat6))
        all_goals
          go_wp2_with fail
          go_meet
          case rel =>
            obtain ⟨m7, f7⟩ := names_left HM5.out HNV.out hgA hlA hgB hown6 hat7
            exact ⟨_, m7, rfl, rfl, rfl, rfl, rfl, HF5.out.trans f7⟩
      case rest =>
        obtain ⟨d6, m6, hD6, hcnt6, hbs6, hq6, hns6, f6⟩ := hcut
        clear hc1 hf1 hnO hBs hlp hpn HM5 HF5 HNV e2
        obtain ⟨aoi, ci, hiv⟩ := owns_shape m6.ivO
        have hc2 : wc.cell? ⟨p, 2, none⟩ = some (.slice aoi I.length ci) := by have := m6.here.c2; rw [← hiv]; exact this
        have hf2 := m6.here.fz 2
        have hivO : wc.ownsRow B 21 1 (.slice aoi I.length ci) I.length (i32s I) := by rw [← hiv]; exact m6.ivO
        have hBs := m6.size
        have hlp := m6.lt
        have hpi : some p ≠ (Value.slice aoi I.length ci).ownBlock := by rw [← hiv]; exact Ne.symm (row_ne m6.ivO m6.here (by decide))
        have hok : Ok (M ++ [s]) (I ++ [-1]) d6.ns d6.bs ⟨s, (I.length : Int), d6.q.s0, d6.q.n0, d6.q.s1, d6.q.n1, d6.q.s2, d6.q.n2⟩ d6.D d6.cnt := by
          have e3 : d5.ns = d3.ns := by rw [HE.out]
          have e4 : d5.bs = d3.bs := by rw [HE.out]
          have e5 : d5.q = d3.q := by rw [HE.out]
          have e6 : d5.D = d3.D.put (.string s.data.toList) (.lit (.int .i32 (I.length : Int))) := by rw [HE.out]
          have e7 : d5.cnt = d3.cnt + 1 := by rw [HE.out]
          rw [hns6, hbs6, hq6, hD6, hcnt6, e3, e4, e5, e6, e7]
          exact HO.out.addPlain hroom (by rw [← e3]; exact hz) hDm
        have HM6 := hid m6
        have HF6 := hid f6
        have HI := hid hiv
        have HOK := hid hok
        clear m6 f6 hiv hok hD6 hcnt6 hbs6 hq6 hns6 HE HO
        go_wp2_with (at_builtin; refine wpList_append_own_at _ rfl _ _ 26 rfl B 21 i0 (.int .i32 0) 1 4 Ybaf.underlying26 hi0 hz0 hz1 hz2 rfl (by decide) (.slice aoi I.length ci) I.length (i32s I) rfl (hivO.alloc _) ⟨wc.heap.size, 0, none⟩ 1 1 [.int .i32 (-1)] rfl rfl ?c1 ?c2 ?c3 ?c4 ?c5 ?_)
        case c1 => exact cell_one_new _ _ _
        case c2 => first | rfl | (intro u hu; simp at hu; subst hu; rfl) | (simp [Value.oneCell'])
        case c3 => unfold maxLen; omega
        case c4 => omega
        case c5 => simp; omega
        · intro v' w1 hown' hgrow _ hloc
          have hg5 := (World.grownBy_alloc wc _ _).trans hgrow
          have c2' := (hg5.cell_far ⟨p, 2, none⟩ (by exact hlp) hpi).trans hc2
          have f2' := (hg5.frozen_far ⟨p, 2, none⟩ (by exact hlp) hpi).trans hf2
          obtain ⟨ao5, cap5, rfl⟩ := owns_shape hown'
          obtain ⟨m7, f7⟩ := HM6.out.setIv (I' := I ++ [(-1 : Int)]) (by rw [HI.out]; exact hg5) (by simpa [i32s] using hown') (by
            rw [HI.out]
            rcases hloc with e | e
            · exact .inl e
            · exact .inr ⟨_, by simp, e⟩)
          have HM7 := hid m7
          have HF7 := hid (HF6.out.trans f7)
          clear hg5 hgrow hown' hloc m7 f7
          go_wp2_with fail
          refine (remember_any HM7.out.here).mono ?_
          rintro e w8 ⟨rfl, hat8, hg8⟩
          obtain ⟨m8, f8⟩ := HM7.out.setQ hat8 hg8
          have HM8 := hid m8
          have HF8 := hid (HF7.out.trans f8)
          clear m8 f8 hat8 hg8
          go_wp2
          go_ret2
          exact ⟨I.length, M ++ [s], I ++ [-1], _, by simp, HM8.out, HOK.out, HF8.out, .inr ⟨HML.out, rfl, rfl⟩⟩
end
end Go.Proofs.YbulkatkuFmt.Nm
