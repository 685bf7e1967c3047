/-
  The walk of names.number.
-/
import Derived.Test.YbulkatkuFmtInv
import Derived.Deep.DeepCutAuto
import Derived.Lib.ItoaLen
namespace Go.Proofs.YbulkatkuFmt.Nm
open Go.ChangeShapes Go.WideShapes Go.ChangeAt Go.RowKit Go.Maps
open Go.WideMaps (keyOf_string_mk)

structure Ok (M : List ByteArray) (I : List Int) (ns : List ByteArray) (bs : List Int) (q : Q4) (D : DataW Unit) (cnt : Nat) : Prop where
  len : M.length = I.length
  small : I.length ≤ 1024
  cntl : cnt ≤ I.length
  nsl : ns.length ≤ I.length
  bsl : bs.length ≤ 300
  kinds : ∀ (j : Nat) (i : Int), I[j]? = some i → (i = -1 ∧ ns[j]? = M[j]?) ∨ (∃ k : Nat, k < 300 ∧ i = k ∧ M[j]? = some (tname k))
  bsOk : ∀ (k : Nat) (v : Int), bs[k]? = some v → v = 0 ∨ ∃ j : Nat, v = (j : Int) + 1 ∧ I[j]? = some (k : Int)
  qOk : ∀ x ∈ q.list, x.1 = ByteArray.empty ∨ ∃ j : Nat, x.2 = j ∧ M[j]? = some x.1
  DOk : ∀ s : List UInt8, Maps.has D (.string s) = true → ∃ j : Nat, D.atKey (.string s) (.lit (.int .i32 0)) = .lit (.int .i32 j) ∧ M[j]? = some ⟨s.toArray⟩

def NumPost (B p : Nat) (X : Option Nat) (M : List ByteArray) (I : List Int) (w : World) (s : ByteArray) (i : Int) (e : Ending) (w' : World) : Prop :=
  ∃ (j : Nat) (M' : List ByteArray) (I' : List Int) (d' : Dat), e = .returned (.tuple #[.int .i32 j, .nilIface]) ∧ Mem B p X I' d' w' ∧ Ok M' I' d'.ns d'.bs d'.q d'.D d'.cnt ∧ Fr B X w w' ∧
    ((M' = M ∧ I' = I ∧ M[j]? = some s) ∨ (j = M.length ∧ M' = M ++ [s] ∧ I' = I ++ [i]))

section
variable {B p : Nat} {X : Option Nat} {M : List ByteArray} {I : List Int} {d : Dat} {w : World}

theorem i32_cell {g n cap : Nat} {l : List Int} {w : World} {B : Nat} (h : w.ownsRow B 21 1 (.slice (some ⟨g, 0, none⟩) n cap) n (i32s l)) (hn : n = l.length) (k : Nat) (hk : k < l.length) : w.cell? ⟨g, k, none⟩ = some (.int .i32 l[k]) := by
  rw [h.cellAt k (by omega)]
  simp [i32s, hk]

set_option maxRecDepth 100000 in
set_option maxHeartbeats 400000 in
theorem number_hit (h : Mem B p X I d w) (ok : Ok M I d.ns d.bs d.q d.D d.cnt) (k : Nat) (hk : k < 300) (what : ByteArray) (hkb : k < d.bs.length) (hv : 0 < d.bs[k]) :
    Calls Ybaf.prog 5 #[.pointer (some ⟨p, 0, none⟩), .string ByteArray.empty, .int .i64 k, .string what] w (NumPost B p X M I w (tname k) k) := by
  obtain ⟨j, hj, hIj⟩ : ∃ j : Nat, d.bs[k] = (j : Int) + 1 ∧ I[j]? = some (k : Int) := by
    rcases ok.bsOk k d.bs[k] (by simp [hkb]) with h0 | h1
    · omega
    · exact h1
  have hMj : M[j]? = some (tname k) := by
    rcases ok.kinds j k hIj with ⟨e, _⟩ | ⟨k', _, e, e2⟩
    · omega
    · have : k = k' := by omega
      subst this; exact e2
  have hjl : j < I.length := by
    rcases Nat.lt_or_ge j I.length with hl | hl
    · exact hl
    · rw [List.getElem?_eq_none hl] at hIj; cases hIj
  have hsm := ok.small
  obtain ⟨aoi, ci, hiv⟩ := owns_shape h.ivO
  obtain ⟨gb, cb, hbv, _, _⟩ := h.bvO.form (by omega)
  have hA := h.here
  rw [hiv, hbv] at hA
  have hbO := h.bvO
  rw [hbv] at hbO
  have hc := i32_cell hbO rfl k hkb
  rw [hj] at hc
  have hc11 := hA.c11
  have t1 : (k : Int) < (d.bs.length : Int) := by omega
  have HK := hid h
  have HO := hid ok
  have HM := hid hMj
  clear h ok hMj hIj hiv hbv hbO hj hv
  go_enter Ybaf.func5, Ybaf.ntmps5
  go_wp2_with (go_at_call 8; refine (len_any hA).mono ?_; rintro e w' ⟨rfl, rfl⟩)
  go_ret2
  exact ⟨j, M, I, d, by simp, HK.out, HO.out, Fr.refl _ _ _, .inl ⟨rfl, rfl, HM.out⟩⟩

theorem map_len {mv : Value} {D : DataW Unit} {r : Option Nat} {n : Nat} (h : MapIs w mv D r n) : (Builtin.len_ #[24] 3 #[mv]).run Ybaf.prog w = .ok (.int .i64 (Maps.size D)) w := by
  rcases h with ⟨rfl, rfl, rfl⟩ | ⟨b, rfl, rfl, ho⟩
  · exact Maps.len_nil (k := 9) (e := 21) Ybaf.underlying24 3
  · exact ho.len Ybaf.underlying24 3

theorem found_ok {ns : List ByteArray} {bs : List Int} {q q' : Q4} {D : DataW Unit} {cnt : Nat} {s : ByteArray} {n : Int} {b : Bool} (ok : Ok M I ns bs q D cnt) (hs : s ≠ ByteArray.empty)
    (hq : ∀ x ∈ q'.list, x ∈ q.list ∨ (b = true ∧ x = (s, n)))
    (hb : b = true → (s, n) ∈ q.list ∨ (Maps.has D (.string s.data.toList) = true ∧ D.atKey (.string s.data.toList) (.lit (.int .i32 0)) = .lit (.int .i32 n))) :
    Ok M I ns bs q' D cnt ∧ (b = true → ∃ j : Nat, n = j ∧ M[j]? = some s) := by
  have key : b = true → ∃ j : Nat, n = j ∧ M[j]? = some s := by
    intro h
    rcases hb h with h1 | ⟨h1, h2⟩
    · rcases ok.qOk _ h1 with e | h3
      · exact absurd e hs
      · exact h3
    · obtain ⟨j, e1, e2⟩ := ok.DOk _ h1
      rw [h2] at e1
      simp only [DataW.lit.injEq, Lit.int.injEq, true_and] at e1
      exact ⟨j, e1, e2⟩
  refine ⟨⟨ok.len, ok.small, ok.cntl, ok.nsl, ok.bsl, ok.kinds, ok.bsOk, fun x hx => ?_, ok.DOk⟩, key⟩
  rcases hq x hx with h | ⟨h, rfl⟩
  · exact ok.qOk x h
  · exact .inr (key h)

theorem tname_ne (k : Nat) : tname k ≠ ByteArray.empty := fun h => by
  have := congrArg ByteArray.size h
  simp [tname, ByteArray.size] at this

theorem tname_add (k : Nat) : ({ data := #[84] } ++ { data := (Lib.itoa (k : Int)).toArray } : ByteArray) = tname k := by
  unfold tname
  apply ByteArray.ext
  simp

theorem info21 : (Ybaf.prog.info? 21).map (fun i => (i.zero, i.size, i.bytes)) = some (some (.int .i32 0), 1, 4) := by kernel_rfl

theorem Ok.addIdx {ns : List ByteArray} {bs bs3 : List Int} {q : Q4} {D : DataW Unit} {cnt k : Nat} (ok : Ok M I ns bs q D cnt) (hroom : I.length < 1024) (hk : k < 300) (hl : bs3.length ≤ 300)
    (hb : ∀ (k' : Nat) (v : Int), bs3[k']? = some v → v = 0 ∨ bs[k']? = some v) :
    Ok (M ++ [tname k]) (I ++ [(k : Int)]) ns (bs3.set k ((I.length : Int) + 1)) q D cnt := by
  have hlen := ok.len
  have up : ∀ {j : Nat} {x : ByteArray}, M[j]? = some x → (M ++ [tname k])[j]? = some x := fun {j x} h => by
    rw [List.getElem?_append_left (List.getElem?_eq_some_iff.1 h).1]; exact h
  have upI : ∀ {j : Nat} {x : Int}, I[j]? = some x → (I ++ [(k : Int)])[j]? = some x := fun {j x} h => by
    rw [List.getElem?_append_left (List.getElem?_eq_some_iff.1 h).1]; exact h
  refine ⟨by simp [hlen], by simp; omega, by simp; have := ok.cntl; omega, by simp; have := ok.nsl; omega, by simp; omega, fun j i hi => ?_, fun k' v hv => ?_, fun x hx => ?_, fun s hs => ?_⟩
  · by_cases hj : j < I.length
    · rw [List.getElem?_append_left hj] at hi
      rcases ok.kinds j i hi with ⟨e, e2⟩ | ⟨k2, h1, h2, h3⟩
      · refine .inl ⟨e, ?_⟩
        rw [e2, List.getElem?_append_left (by omega)]
      · exact .inr ⟨k2, h1, h2, up h3⟩
    · have hje : j = I.length := by
        have := (List.getElem?_eq_some_iff.1 hi).1
        simp at this; omega
      subst hje
      simp at hi
      exact .inr ⟨k, hk, hi.symm, by rw [← hlen]; simp⟩
  · rw [List.getElem?_set] at hv
    split at hv
    · rename_i e
      subst e
      split at hv
      · simp at hv; exact .inr ⟨I.length, hv.symm, by simp⟩
      · cases hv
    · rcases hb k' v hv with e | e
      · exact .inl e
      · rcases ok.bsOk k' v e with e | ⟨j, h1, h2⟩
        · exact .inl e
        · exact .inr ⟨j, h1, upI h2⟩
  · rcases ok.qOk x hx with e | ⟨j, h1, h2⟩
    · exact .inl e
    · exact .inr ⟨j, h1, up h2⟩
  · obtain ⟨j, h1, h2⟩ := ok.DOk s hs
    exact ⟨j, h1, up h2⟩

set_option maxRecDepth 100000 in
set_option maxHeartbeats 800000 in
theorem number_new (h : Mem B p X I d w) (ok : Ok M I d.ns d.bs d.q d.D d.cnt) (htab : Tab w) (hroom : I.length < 1024) (k : Nat) (hk : k < 300) (what : ByteArray) (hkb : ∀ h : k < d.bs.length, ¬ 0 < d.bs[k]) :
    Calls Ybaf.prog 5 #[.pointer (some ⟨p, 0, none⟩), .string ByteArray.empty, .int .i64 k, .string what] w (NumPost B p X M I w (tname k) k) := by
  have hsm := ok.small
  have hlen := map_len h.map
  obtain ⟨i0, hi0, hz0, hz1, hz2⟩ := info_parts info21
  obtain ⟨aoi, ci, hiv⟩ := owns_shape h.ivO
  obtain ⟨aob, cb, hbv⟩ := owns_shape h.bvO
  have hA := h.here
  rw [hiv, hbv] at hA
  have hc11 := hA.c11
  have hc0 := hA.c0
  have HK := hid h
  have HO := hid ok
  have HI := hid hiv
  have HB := hid hbv
  have HT := hid htab
  have hil := Lib.itoa_length_le (k : Int) (by omega) (by omega)
  have tk : decide ((k : Int) ≤ 2147483647) = true := decide_eq_true (by omega)
  clear h ok hiv hbv htab
  go_enter Ybaf.func5, Ybaf.ntmps5
  go_upto_region 2 with (go_at_call 8; refine (len_any hA).mono ?_; rintro e w' ⟨rfl, rfl⟩)
  go_cut [48] (fun b wx => b = .bool false ∧ w = wx)
  case first =>
    by_cases hkl : k < d.bs.length
    · obtain ⟨gb, cb', hbv', _, _⟩ := HK.out.bvO.form (by omega)
      have hbO := HK.out.bvO
      rw [hbv'] at hbO
      have hc := i32_cell hbO rfl k hkl
      have hn0 := hkb hkl
      obtain ⟨rfl, rfl⟩ : aob = some ⟨gb, 0, none⟩ ∧ cb = cb' := by have := HB.out; rw [hbv'] at this; simp at this; exact ⟨this.1.symm, this.2.symm⟩
      obtain ⟨x, hx⟩ : ∃ x, x = d.bs[k] := ⟨_, rfl⟩
      rw [← hx] at hc hn0
      clear hx hkb hbO hbv'
      have hx0 : ¬ ((0 : Int) < x) := by omega
      have t1 : (k : Int) < (d.bs.length : Int) := by omega
      go_wp2_with fail
      go_meet
      case rel => exact ⟨rfl, rfl⟩
    · have t1 : ¬ ((k : Int) < (d.bs.length : Int)) := by omega
      go_wp2_with fail
      go_meet
      case rel => exact ⟨rfl, rfl⟩
  case rest =>
    obtain ⟨rfl, rfl⟩ := hcut
    go_upto_if 70 with fail
    go_cut [1] (fun v1 wx => ∃ s1, v1 = .string s1 ∧ (s1 = ByteArray.empty ∨ s1 = tname k) ∧ w.grownBy wx none)
    case first =>
      by_cases hpos : 0 < Maps.size d.D
      · have hps : decide (0 < Maps.size d.D) = true := decide_eq_true hpos
        go_wp2_with fail
        refine (Ybaf.strconv_Itoa k (by omega) (by omega) w HT.out).mono ?_
        rintro e w1 ⟨rfl, hw1⟩
        have hg1 : w.grownBy w1 none := by obtain ⟨kq, os, rfl⟩ := hw1; exact grown_below (Lib.below_grow _ _ (Nat.le_refl _) _ _)
        clear hw1
        go_wp2_with fail
        go_meet
        case rel => exact ⟨_, rfl, .inr (tname_add k), hg1⟩
      · have hps : decide (0 < Maps.size d.D) = false := decide_eq_false hpos
        go_wp2_with fail
        go_meet
        case rel => exact ⟨_, rfl, .inl rfl, World.grownBy.refl _ _⟩
    case rest =>
      obtain ⟨s1, rfl, hs1, hg1⟩ := hcut
      have HS1 := hid hs1
      clear hs1
      clear hlen hc11 hc0
      obtain ⟨m1, f1⟩ := HK.out.grew hg1
      clear hA HK hg1
      have HK := hid m1
      have HF := hid f1
      clear m1 f1
      go_upto_if 75 with fail
      go_cut [12] (fun _ wx => ∃ q', Mem B p X I { d with q := q' } wx ∧ Ok M I d.ns d.bs q' d.D d.cnt ∧ Fr B X w wx)
      case first =>
        rcases HS1.out with rfl | rfl
        · have he : (!ByteArray.empty.toList.isEmpty) = false := by rw [ByteArray.toList_eq]; rfl
          go_wp2_with fail
          · exact absurd (show (!ByteArray.empty.toList.isEmpty) = true by assumption) (by rw [he]; decide)
          go_meet
          case rel => exact ⟨d.q, HK.out, HO.out, HF.out⟩
        · have he : (!(tname k).toList.isEmpty) = true := by unfold tname; simp
          have htl : (tname k).size ≤ maxLen := by
            have : (tname k).size = 1 + (Lib.itoa (k : Int)).length := by simp [tname, ByteArray.size]; omega
            unfold maxLen; omega
          go_wp2_with fail
          rotate_left
          · exact absurd (show (!(tname k).toList.isEmpty) = false by assumption) (by rw [he]; decide)
          refine (found_any HK.out.here HK.out.map (map_ne HK.out.map HK.out.here) htl).mono ?_
          rintro e w2 ⟨n, b, q', rfl, hat, hg2, hq, hb⟩
          have hfound := found_ok HO.out (tname_ne k) hq hb
          obtain ⟨m2, f2⟩ := HK.out.setQ hat hg2
          have HM2 := hid m2
          have HF2 := hid (HF.out.trans f2)
          have HFO := hid hfound
          clear hat hg2 hq hb m2 f2 hfound
          cases b
          · go_wp2_with fail
            go_meet
            case rel => exact ⟨q', HM2.out, HFO.out.1, HF2.out⟩
          · go_wp2_with fail
            go_ret2
            obtain ⟨j, rfl, hj⟩ := HFO.out.2 (by first | trivial | rfl)
            exact ⟨j, M, I, _, rfl, HM2.out, HFO.out.1, HF2.out, .inl ⟨rfl, rfl, hj⟩⟩
      case rest =>
        obtain ⟨d2, m2, ok2, f2⟩ : ∃ d2 : Dat, Mem B p X I d2 wc ∧ Ok M I d2.ns d2.bs d2.q d2.D d2.cnt ∧ Fr B X w wc := by
          obtain ⟨q', a1, a2, a3⟩ := hcut
          exact ⟨_, a1, a2, a3⟩
        clear hcut HK HO HF HS1 HI HB HT hkb hil
        have hbl := ok2.bsl
        obtain ⟨aoi, ci, hiv⟩ := owns_shape m2.ivO
        obtain ⟨aob, cb, hbv⟩ := owns_shape m2.bvO
        have hA := m2.here
        rw [hiv, hbv] at hA
        have hc11 := hA.c11
        have hfz := hA.fz
        have hbO := m2.bvO
        rw [hbv] at hbO
        have hlp := m2.lt
        have hBs := m2.size
        have hpb : some p ≠ (Value.slice aob d2.bs.length cb).ownBlock := by rw [← hbv]; exact Ne.symm (row_ne m2.bvO m2.here (by decide))
        have HK := hid m2
        have HO := hid ok2
        have HF := hid f2
        have HB := hid hbv
        clear m2 ok2 f2 hiv hbv
        go_upto_if 102 with (go_at_call 8; refine (len_any hA).mono ?_; rintro e w' ⟨rfl, rfl⟩)
        go_cut [116] (fun _ wx => ∃ bv' bs', Mem B p X I { d2 with bv := bv', bs := bs' } wx ∧ Fr B X w wx ∧ k < bs'.length ∧ bs'.length ≤ 300 ∧ ∀ (k' : Nat) (v : Int), bs'[k']? = some v → v = 0 ∨ d2.bs[k']? = some v)
        case first =>
          by_cases hkl : k < d2.bs.length
          · have t1 : decide (d2.bs.length ≤ k) = false := decide_eq_false (by omega)
            go_wp2_with fail
            go_meet
            case rel => exact ⟨d2.bv, d2.bs, HK.out, HF.out, hkl, hbl, fun k' v h => .inr h⟩
          · have t1 : decide (d2.bs.length ≤ k) = true := decide_eq_true (by omega)
            obtain ⟨z, hz⟩ : ∃ z : Nat, z + d2.bs.length = k + 1 := ⟨k + 1 - d2.bs.length, by omega⟩
            have e1 : IntKind.i64.wrap ((k : Int) + 1) = (k : Int) + 1 := by rw [IntKind.wrap_i64]; omega
            have e2 : IntKind.i64.wrap ((k : Int) + 1 - (d2.bs.length : Int)) = (z : Int) := by rw [IntKind.wrap_i64]; omega
            go_wp2_with fail
            go_region_law ((refine step_append_zeros _ (by rfl) _ _ 26 3 (by rfl) B 21 i0 (.int .i32 0) 4 .i64 Ybaf.underlying26 Ybaf.underlying3 hi0 hz0 hz1 hz2 (by rfl) (by rfl) (.slice aob d2.bs.length cb) d2.bs.length (i32s d2.bs) (by rfl) (by exact hbO) z (by rfl) (by omega) (by omega) (by exact hBs) ?_; intro ao2 cap2 w1 hown1 hgrow hloc1; have c11 := (hgrow.cell_far ⟨p, 11, none⟩ (by exact hlp) hpb).trans hc11; have f11 := (hgrow.frozen_far ⟨p, 11, none⟩ (by exact hlp) hpb).trans (hfz 11)))
            all_goals
              go_wp2_with fail
              go_meet
              case rel =>
                obtain ⟨m3, f3⟩ := HK.out.drew.setBv (bs' := d2.bs ++ List.replicate z 0) (by rw [HB.out]; exact hgrow) (by simpa [i32s] using hown1) (by rw [HB.out]; exact hloc1.imp id fun e => ⟨_, Nat.le_refl _, e⟩)
                refine ⟨_, _, m3, HF.out.trans f3.drew, by simp; omega, by simp; omega, fun k' v h => ?_⟩
                rw [List.getElem?_append] at h
                split at h
                · exact .inr h
                · exact .inl (List.eq_of_mem_replicate (List.mem_of_getElem? h))
        case rest =>
          obtain ⟨bv3, bs3, m3, f3, hk3, hl3, hb3⟩ := hcut
          clear hA hc11 hfz hbO hpb HK HF HB
          obtain ⟨g3, c3, hv3, _, hg3l⟩ := m3.bvO.form (by show 0 < bs3.length; omega)
          replace hv3 : bv3 = .slice (some ⟨g3, 0, none⟩) bs3.length c3 := hv3
          subst hv3
          have hO3 : wc.ownsRow B 21 1 (.slice (some ⟨g3, 0, none⟩) bs3.length c3) bs3.length (i32s bs3) := m3.bvO
          have hc := i32_cell hO3 rfl k hk3
          have hcf := hO3.frozenAt k
          have hpg : p ≠ g3 := fun e => row_ne m3.bvO m3.here (by decide) (by rw [e]; rfl)
          have hgp : g3 ≠ p := Ne.symm hpg
          have hc11 : wc.cell? ⟨p, 11, none⟩ = some (.slice (some ⟨g3, 0, none⟩) bs3.length c3) := m3.here.c11
          obtain ⟨m4, f4⟩ := m3.storeB (k := k) (v := (I.length : Int) + 1) rfl
          obtain ⟨aoi, ci, hiv⟩ := owns_shape m4.ivO
          replace hiv : d2.iv = .slice aoi I.length ci := hiv
          have hc2 : wc.cell? ⟨p, 2, none⟩ = some (.slice aoi I.length ci) := by have := m3.here.c2; rw [← hiv]; exact this
          have hivO : (wc.setCell ⟨g3, k, none⟩ (.int .i32 ((I.length : Int) + 1))).ownsRow B 21 1 (.slice aoi I.length ci) I.length (i32s I) := by rw [← hiv]; exact m4.ivO
          have hBs4 := m4.size
          have hlp4 := m4.lt
          have hfp := m4.here.fz
          have hcp4 : (wc.setCell ⟨g3, k, none⟩ (.int .i32 ((I.length : Int) + 1))).cell? ⟨p, 2, none⟩ = some (.slice aoi I.length ci) := by have := m4.here.c2; rw [← hiv]; exact this
          have hpi : some p ≠ (Value.slice aoi I.length ci).ownBlock := by rw [← hiv]; exact Ne.symm (row_ne m4.ivO m4.here (by decide))
          have HC4 := hid hcp4
          have HP4 := hid hfp
          have HM := hid m4
          have HF := hid (f3.trans f4)
          have HI := hid hiv
          have HB3 := hid hb3
          clear m3 m4 f3 f4 hiv hb3 hcp4 hfp hO3
          obtain ⟨x, hx⟩ : ∃ x, x = bs3[k] := ⟨_, rfl⟩
          rw [← hx] at hc
          clear hx
          have t1 : (k : Int) < (bs3.length : Int) := by omega
          go_wp2_with (at_builtin; refine wpList_append_own_at _ rfl _ _ 26 rfl B 21 i0 (.int .i32 0) 1 4 Ybaf.underlying26 hi0 hz0 hz1 hz2 rfl (by decide) (.slice aoi I.length ci) I.length (i32s I) rfl (hivO.alloc _) ⟨wc.heap.size, 0, none⟩ 1 1 [.int .i32 (k : Int)] rfl rfl ?c1 ?c2 ?c3 ?c4 ?c5 ?_)
          case c2 => first | rfl | (intro u hu; simp at hu; subst hu; rfl) | (simp [Value.oneCell'])
          case c3 => unfold maxLen; omega
          case c4 => omega
          case c5 => simp at hBs4 ⊢; omega
          · intro v' w1 hown' hgrow _ hloc
            have hg5 := (World.grownBy_alloc (wc.setCell ⟨g3, k, none⟩ (.int .i32 ((I.length : Int) + 1))) _ _).trans hgrow
            have c2' := (hg5.cell_far ⟨p, 2, none⟩ (by exact hlp4) hpi).trans HC4.out
            have f2' := (hg5.frozen_far ⟨p, 2, none⟩ (by exact hlp4) hpi).trans (HP4.out 2)
            obtain ⟨ao5, cap5, rfl⟩ := owns_shape hown'
            have HG := hid hg5
            have HW := hid hown'
            have HL := hid hloc
            clear hg5 hgrow hown' hloc
            go_wp2
            go_ret2
            obtain ⟨m5, f5⟩ := HM.out.setIv (I' := I ++ [(k : Int)]) (by show World.grownBy _ _ d2.iv.ownBlock; rw [HI.out]; exact HG.out) (by simpa [i32s] using HW.out) (by
              show _ ∨ _
              rcases HL.out with e | e
              · exact .inl (by show _ = d2.iv.ownBlock; rw [HI.out]; exact e)
              · exact .inr ⟨_, by simp, e⟩)
            exact ⟨I.length, M ++ [tname k], I ++ [(k : Int)], _, by simp, m5, HO.out.addIdx hroom hk hl3 HB3.out, HF.out.trans f5, .inr ⟨HO.out.len.symm, rfl, rfl⟩⟩
end
end Go.Proofs.YbulkatkuFmt.Nm
