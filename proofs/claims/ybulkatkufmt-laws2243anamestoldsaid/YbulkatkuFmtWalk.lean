/-
  The walk of LawS2243ANames.
-/
import Derived.Test.YbulkatkuFmtLawParts
namespace Go.Proofs.YbulkatkuFmt.Nm
open Go.ChangeShapes Go.WideShapes Go.ChangeAt Go.RowKit Go.Maps

/-- The steps that came in: their first len pairs of cells. -/
def Steps (w : World) (a : Option Addr) (len : Nat) (ps is : Nat → Int) : Prop :=
  len = 0 ∨ ∃ b off, a = some ⟨b, off, none⟩ ∧ ∀ i, i < len → w.cell? ⟨b, off + i * 2, none⟩ = some (.int .u8 (ps i)) ∧ w.cell? ⟨b, off + i * 2 + 1, none⟩ = some (.int .u16 (is i)) ∧
    0 ≤ ps i ∧ ps i ≤ 255 ∧ 0 ≤ is i ∧ is i ≤ 65535

def d0 : Dat := ⟨.map none, .slice none 0 0, .slice none 0 0, .slice none 0 0, ⟨ByteArray.empty, 0, ByteArray.empty, 0, ByteArray.empty, 0, ByteArray.empty, 0⟩, none, .map [], 0, [], []⟩

def Loop1 (w : World) (len : Nat) (v4 i : Value) (wr : World) : Prop :=
  ∃ (k : Nat) (M : List ByteArray) (I : List Int) (d : Dat), k ≤ len ∧ i = .int .i64 k ∧ Mem w.heap.size w.heap.size v4.ownBlock I d wr ∧ Ok M I d.ns d.bs d.q d.D d.cnt ∧ wr.ownsRow w.heap.size 9 1 v4 M.length (strs M) ∧ I.length ≤ k ∧ Below w.heap.size w wr

def Cut1 (w : World) (v4 : Value) (M : List ByteArray) (k : Nat) (v7 v8 v9 : Value) (wx : World) : Prop :=
  ∃ (s : ByteArray) (j : Nat) (M' : List ByteArray) (I' : List Int) (d' : Dat), v7 = .string s ∧ v8 = .int .i32 j ∧ v9 = .nilIface ∧ Mem w.heap.size w.heap.size v4.ownBlock I' d' wx ∧ Ok M' I' d'.ns d'.bs d'.q d'.D d'.cnt ∧
    wx.ownsRow w.heap.size 9 1 v4 M.length (strs M) ∧ I'.length ≤ k + 1 ∧ Below w.heap.size w wx ∧ ((M' = M ∧ M[j]? = some s) ∨ (j = M.length ∧ M' = M ++ [s]))

theorem cut1_of {w wr wx : World} {v4 : Value} {M : List ByteArray} {I : List Int} {k j : Nat} {s : ByteArray} {M' : List ByteArray} {I' : List Int} {d' : Dat} {i : Int} (hvm : wr.ownsRow w.heap.size 9 1 v4 M.length (strs M)) (hbel : Below w.heap.size w wr) (hIk : I.length ≤ k)
    (hm : Mem w.heap.size w.heap.size v4.ownBlock I' d' wx) (hok : Ok M' I' d'.ns d'.bs d'.q d'.D d'.cnt) (hf : Fr w.heap.size v4.ownBlock wr wx) (hc : (M' = M ∧ I' = I ∧ M[j]? = some s) ∨ (j = M.length ∧ M' = M ++ [s] ∧ I' = I ++ [i])) :
    Cut1 w v4 M k (.string s) (.int .i32 j) .nilIface wx := by
  refine ⟨s, j, M', I', d', rfl, rfl, rfl, hm, hok, row_keepX hvm rfl hf, ?_, hbel.trans hf.below, ?_⟩
  · rcases hc with ⟨_, rfl, _⟩ | ⟨_, _, rfl⟩
    · omega
    · simp; omega
  · rcases hc with ⟨h1, _, h2⟩ | ⟨h1, h2, _⟩
    · exact .inl ⟨h1, h2⟩
    · exact .inr ⟨h1, h2⟩

set_option maxRecDepth 100000 in
set_option maxHeartbeats 1600000 in
theorem law_walk (a : Option Addr) (len cap : Nat) (ps is : Nat → Int) (w : World) (hst : Steps w a len ps is) (htab : Tab w) :
    Calls Ybaf.prog 3 #[.slice a len cap] w fun e w' => e = .returned (.bool true) ∧ Below w.heap.size w w' := by
  by_cases hbig : (1024 : Int) < (len : Int)
  · go_enter Ybaf.func3, Ybaf.ntmps3
    go_wp2
    go_ret
    exact ⟨rfl, Below.refl _ _⟩
  go_enter Ybaf.func3, Ybaf.ntmps3
  go_wp2
  go_loopw [4, 19] (Loop1 w len) (fun _ i _ => len - (intOf i).toNat)
  case atStart =>
    refine ⟨0, [], [], d0, by omega, rfl, ⟨heap_alloc_new w _, Nat.le_refl _, .inl ⟨rfl, rfl, rfl⟩, fun b hb => (by cases hb), World.ownsRow_nil _ _ _ _, World.ownsRow_nil _ _ _ _, World.ownsRow_nil _ _ _ _, .inl rfl, fun g hg => (by cases hg)⟩,
      ⟨rfl, by decide, by decide, by decide, by decide, fun j i h => (by simp at h), fun j i h => (by simp [d0] at h), fun x hx => .inl (by simp [d0, Q4.list] at hx; rw [hx]), fun s hs => (by simp [d0, Maps.has] at hs)⟩, World.ownsRow_nil _ _ _ _, by simp, (Below.refl _ _).alloc (Nat.le_refl _) _⟩
  case round =>
    obtain ⟨k, M, I, d, hk, rfl, m, ok, hvm, hIk, hbel⟩ := hrel
    by_cases hlt : k < len
    · rcases hst with h0 | ⟨b, off, rfl, hcells⟩
      · omega
      obtain ⟨hc0, hc1, hp0, hp1, hi0, hi1⟩ := hcells k hlt
      have hbB : b < w.heap.size := World.block_lt_of_cell? w _ hc0
      have hc0' := (hbel.cell (p := ⟨b, off + k * 2, none⟩) hbB).trans hc0
      have hc1' := (hbel.cell (p := ⟨b, off + k * 2 + 1, none⟩) hbB).trans hc1
      obtain ⟨pk, hpk⟩ : ∃ pk, pk = ps k := ⟨_, rfl⟩
      obtain ⟨ix, hix⟩ : ∃ ix, ix = is k := ⟨_, rfl⟩
      rw [← hpk] at hc0' hp0 hp1
      rw [← hix] at hc1' hi0 hi1
      clear hc0 hc1 hpk hix
      have HC := hid hcells
      clear hcells
      obtain ⟨m1, f1⟩ := m.grew (World.grownBy_alloc wr (.cells #[.int .u8 pk, .int .u16 ix] 34) none)
      have hvm1 := hvm.alloc (.cells #[.int .u8 pk, .int .u16 ix] 34)
      have hbel1 := hbel.alloc hbel.size (.cells #[.int .u8 pk, .int .u16 ix] 34)
      have htab1 : Tab wr := (Lib.tabBelow_of_tabIs htab) wr hbel
      have htab2 : Tab (wr.alloc (.cells #[.int .u8 pk, .int .u16 ix] 34)) := (Lib.tabBelow_of_tabIs htab) _ hbel1
      have HM := hid m1
      have HV := hid hvm1
      have HBL := hid hbel1
      have HT := hid htab2
      have HO := hid ok
      have HT0 := hid htab
      clear m m1 f1 hvm hvm1 hbel hbel1 htab1 htab2 ok htab
      go_upto_if 26 with fail
      go_cut [7, 8, 9, 10] (fun v7 v8 v9 _ wx => Cut1 w u4 M k v7 v8 v9 wx)
      case first =>
        by_cases hev : pk % 2 = 0
        · have hb2 : (pk % 2 == 0) = true := beq_iff_eq.2 hev
          obtain ⟨t1, t2, t3, t4⟩ := table_ok (pk / 2)
          go_wp2_with fail
          refine (table_any (pk / 2) _ (by omega) (by omega)).mono ?_
          rintro e w' ⟨rfl, rfl⟩
          go_wp2_with fail
          refine (number_plain HM.out HO.out (by omega) (table (pk / 2)) _ t1 t2 t3 t4).mono ?_
          rintro e w2 ⟨j, M', I', d', rfl, n1, n2, n3, n4⟩
          have HC1 := hid (cut1_of HV.out HBL.out hIk n1 n2 n3 n4)
          clear n1 n2 n3 n4
          go_wp2_with fail
          go_meet
          case rel => exact HC1.out
        · have hb2 : (pk % 2 == 0) = false := beq_eq_false_iff_ne.2 hev
          obtain ⟨kx, hkx⟩ : ∃ kx : Nat, ix % 300 = (kx : Int) := ⟨(ix % 300).toNat, by omega⟩
          have hk3 : kx < 300 := by omega
          have hil := Lib.itoa_length_le (kx : Int) (by omega) (by omega)
          go_wp2_with fail
          refine (Ybaf.strconv_Itoa kx (by omega) (by omega) _ HT.out).mono ?_
          rintro e w1 ⟨rfl, hw1⟩
          have hg1 : (wr.alloc (.cells #[.int .u8 pk, .int .u16 ix] 34)).grownBy w1 none := by obtain ⟨kq, os, rfl⟩ := hw1; exact grown_below (Lib.below_grow _ _ (Nat.le_refl _) _ _)
          obtain ⟨m2, f2⟩ := HM.out.grew hg1
          have HM2 := hid m2
          have HV2 := hid (row_keepX HV.out rfl f2)
          have HB2 := hid (HBL.out.trans f2.below)
          have HT2 : Hid (Tab w1) := hid ((Lib.tabBelow_of_tabIs HT0.out) w1 HB2.out)
          clear hw1 hg1 m2 f2
          go_wp2_with fail
          by_cases hhit : ∃ h : kx < d.bs.length, 0 < d.bs[kx]
          · obtain ⟨hh1, hh2⟩ := hhit
            refine (number_hit HM2.out HO.out kx hk3 _ hh1 hh2).mono ?_
            rintro e w2 ⟨j, M', I', d', rfl, n1, n2, n3, n4⟩
            have HC1 := hid (cut1_of HV2.out HB2.out hIk n1 n2 n3 n4)
            clear n1 n2 n3 n4 hh1 hh2
            go_wp2_with fail
            go_meet
            case rel => rw [tname_add]; exact HC1.out
          · refine (number_new HM2.out HO.out HT2.out (by omega) kx hk3 _ (fun h hp => hhit ⟨h, hp⟩)).mono ?_
            rintro e w2 ⟨j, M', I', d', rfl, n1, n2, n3, n4⟩
            have HC1 := hid (cut1_of HV2.out HB2.out hIk n1 n2 n3 n4)
            clear n1 n2 n3 n4 hhit
            go_wp2_with fail
            go_meet
            case rel => rw [tname_add]; exact HC1.out
      case rest =>
        obtain ⟨s, j, M', I', d', rfl, rfl, rfl, m2, ok2, hvm2, hI2, hbel2, hcase⟩ := hcut
        clear HM HV HBL HT HO
        obtain ⟨i0, hi0', hz0, hz1, hz2⟩ := info_parts info9
        obtain ⟨ao4, c4, hv4⟩ := owns_shape hvm2
        have hlM : M'.length ≤ 1024 := by rw [ok2.len]; exact ok2.small
        have HM := hid m2
        have HO := hid ok2
        have HV := hid hvm2
        have HBL := hid hbel2
        have HC1 := hid hcase
        have hjs : M'[j]? = some s := by
          rcases hcase with ⟨rfl, h⟩ | ⟨rfl, rfl⟩
          · exact h
          · simp
        have hjl : j < M'.length := (List.getElem?_eq_some_iff.1 hjs).1
        have hMl : M.length ≤ M'.length := by
          rcases hcase with ⟨rfl, h⟩ | ⟨rfl, rfl⟩
          · exact Nat.le_refl _
          · simp
        have HJS := hid hjs
        subst hv4
        clear m2 ok2 hvm2 hbel2 hcase hjs
        go_upto_if 57 with fail
        go_cut [4] (fun v4 wx => Mem w.heap.size w.heap.size v4.ownBlock I' d' wx ∧ wx.ownsRow w.heap.size 9 1 v4 M'.length (strs M') ∧ Below w.heap.size w wx)
        case first =>
          rcases HC1.out with ⟨rfl, hj⟩ | ⟨rfl, rfl⟩
          · have hne : ((j : Int) == (M'.length : Int)) = false := beq_eq_false_iff_ne.2 (by omega)
            obtain ⟨g4, c4', hv4, _, _⟩ := HV.out.form (by omega)
            simp only [Value.slice.injEq, true_and] at hv4
            obtain ⟨rfl, rfl⟩ := hv4
            have hc := str_cell HV.out rfl j hjl
            have hjs : M'[j] = s := by rw [List.getElem?_eq_getElem hjl] at hj; simpa using hj
            rw [hjs] at hc
            clear hjs hj
            have t1 : ¬ ((j : Int) < 0) := by omega
            have t2 : ¬ ((M'.length : Int) < (j : Int)) := by omega
            have t3 : (j : Int) < (M'.length : Int) := by omega
            go_wp2_with fail
            go_meet
            case rel => exact ⟨HM.out, HV.out, HBL.out⟩
          · have heq : ((M.length : Int) == (M.length : Int)) = true := by simp
            simp at hlM
            go_wp2_with (at_builtin; refine wpList_append_own_at _ rfl _ _ 25 rfl w.heap.size 9 i0 (.string ByteArray.empty) 1 16 Ybaf.underlying25 hi0' hz0 hz1 hz2 rfl (by decide) (.slice ao4 M.length c4) M.length (strs M) rfl (HV.out.alloc _) ⟨wc.heap.size, 0, none⟩ 1 1 [.string s] rfl rfl ?c1 ?c2 ?c3 ?c4 ?c5 ?_)
            case c2 => first | rfl | (intro u hu; simp at hu; subst hu; rfl) | (simp [Value.oneCell'])
            case c3 => unfold maxLen; omega
            case c4 => omega
            case c5 => have := HBL.out.size; simp; omega
            · intro v' w1 hown' hgrow _ hloc
              have hg5 := (World.grownBy_alloc wc _ _).trans hgrow
              have m3 := HM.out.turnX hg5 hown' (by
                rcases hloc with e | e
                · exact .inl e
                · exact .inr ⟨_, by simp, e⟩)
              have HM3 := hid m3
              have HB3 := hid (HBL.out.grown hg5 HBL.out.size (fun k hk => (HV.out.lt k hk).1))
              have HV3 := hid hown'
              clear hg5 hgrow hown' hloc m3
              go_wp2_with fail
              go_meet
              case rel => exact ⟨HM3.out, by simpa [strs] using HV3.out, HB3.out⟩
        case rest =>
          obtain ⟨m3, hv3, hb3⟩ := hcut
          clear HM HV HBL HC1
          have ht3 : Tab wc := (Lib.tabBelow_of_tabIs HT0.out) wc hb3
          have HM := hid m3
          have HV := hid hv3
          have HBL := hid hb3
          have HT := hid ht3
          clear m3 hv3 hb3 ht3
          go_wp2_with fail
          refine (name_any HM.out HO.out HT.out HJS.out).mono ?_
          rintro e w4 ⟨rfl, hb4⟩
          obtain ⟨m4, f4⟩ := HM.out.grew (grown_below hb4)
          have HM4 := hid m4
          have HV4 := hid (row_keepX HV.out rfl f4)
          have HB4 := hid (HBL.out.trans f4.below)
          clear m4 f4 hb4
          go_wp2_with fail
          exact ⟨⟨k + 1, M', I', d', by omega, by go_num, HM4.out, HO.out, HV4.out, hI2, HB4.out⟩, by simp [intOf]; omega⟩
    · have hlM : M.length ≤ 1024 := by rw [ok.len]; exact ok.small
      obtain ⟨ao4, c4, rfl⟩ := owns_shape hvm
      obtain ⟨aoi, ci, hiv⟩ := owns_shape m.ivO
      have hA := m.here
      rw [hiv, ← ok.len] at hA
      have HM := hid m
      have HO := hid ok
      have HV := hid hvm
      have HBL := hid hbel
      have HT0 := hid htab
      clear m ok hvm hbel htab hiv hst
      go_wp2_with (go_at_call 8; refine (len_any hA).mono ?_; rintro e w' ⟨rfl, rfl⟩)
      go_loopw [11] (fun i wx => ∃ j : Nat, j ≤ M.length ∧ i = .int .i64 j ∧ Mem w.heap.size w.heap.size (Value.slice ao4 M.length c4).ownBlock I d wx ∧ wx.ownsRow w.heap.size 9 1 (.slice ao4 M.length c4) M.length (strs M) ∧ Below w.heap.size w wx) (fun i _ => M.length - (intOf i).toNat)
      case atStart => exact ⟨0, by omega, rfl, HM.out, HV.out, HBL.out⟩
      case round =>
        obtain ⟨j, hj, rfl, m5, hv5, hb5⟩ := hrel
        clear HM HV HBL hA
        by_cases hjl : j < M.length
        · obtain ⟨g4, c4', hv4, _, hg4⟩ := hv5.form (by omega)
          simp only [Value.slice.injEq, true_and] at hv4
          obtain ⟨rfl, rfl⟩ := hv4
          have hc := str_cell hv5 rfl j hjl
          have hjs : M[j]? = some M[j] := List.getElem?_eq_getElem hjl
          obtain ⟨s, hs⟩ : ∃ s, s = M[j] := ⟨_, rfl⟩
          rw [← hs] at hc hjs
          have HJS := hid hjs
          have HM5 := hid m5
          have HV5 := hid hv5
          have HB5 := hid hb5
          have HT5 : Hid (Tab wr) := hid ((Lib.tabBelow_of_tabIs HT0.out) wr hb5)
          clear hs hjs m5 hv5 hb5
          have hw : IntKind.i32.wrap (j : Int) = (j : Int) := by rw [IntKind.wrap_i32]; omega
          have t0 : (0 : Int) ≤ (j : Int) := by omega
          have t1 : (j : Int) < (M.length : Int) := by omega
          go_wp2_with fail
          go_region_held3 (fun w' => w'.cell? ⟨g4, j, none⟩ = some (.string s))
            (first | go_keep | exact (hb7.cell (p := ⟨g4, j, none⟩) hg4).trans hc)
            ((go_at_call 7; refine (name_any HM5.out.drew HO.out HT5.out HJS.out).mono ?_; rintro e w7 ⟨rfl, hb7⟩))
          obtain ⟨m7, f7⟩ := HM5.out.drew.grew (grown_below hb7)
          have HM7 := hid m7
          have HV7 := hid (row_keepX HV5.out rfl f7.drew)
          have HB7 := hid (HB5.out.trans f7.drew.below)
          clear m7 f7 hb7
          go_wp2_with fail
          exact ⟨⟨j + 1, by omega, by go_num, HM7.out, HV7.out, HB7.out⟩, by simp [intOf]; omega⟩
        · go_wp2
          go_ret
          exact ⟨rfl, hb5⟩
end Go.Proofs.YbulkatkuFmt.Nm
