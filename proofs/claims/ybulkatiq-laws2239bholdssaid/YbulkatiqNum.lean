/-
  numberAlike.
-/
import Derived.Test.YbulkatiqIns
namespace Go.Proofs.Ybulkatiq
open Go.ChangeShapes Go.WideShapes Go.ChangeAt Go.RowKit Go.Maps Go.WideMaps

theorem info21 : (Yba.prog.info? 21).map (fun i => (i.zero, i.size, i.bytes)) = some (some (.int .i32 0), 1, 4) := by kernel_rfl

theorem made_rowD {w : World} {base g n : Nat} (hpos : 0 < n) (h : w.ownsRow base 21 1 (.slice (some ⟨g, 0, none⟩) n n) n (madeCells #[.int .i32 0] n).toList) : RowD w g n (List.replicate n 0) := by
  have hc := fun j hj => h.cellAt j hj
  rcases h.2 with ⟨e, _⟩ | ⟨g', cap, cur, e, _, hgg, _, _, hcs, _⟩
  · cases e
  · simp only [Value.slice.injEq, Option.some.injEq, Addr.mk.injEq, true_and, and_true] at e
    obtain ⟨rfl, rfl⟩ := e
    refine ⟨⟨cur, hgg, by omega⟩, by simp, fun i x hx => ?_⟩
    rw [List.getElem?_replicate] at hx
    split at hx
    · simp only [Option.some.injEq] at hx
      subst hx
      refine ⟨hpos, ?_⟩
      rw [hc i (by omega)]
      rename_i hi
      simp [madeCells, hi, Nat.mod_one]
    · cases hx

theorem RowD.set {w : World} {b n : Nat} {d : List Nat} (h : RowD w b n d) {i x : Nat} (hi : i < n) (hx : x < n) : RowD (w.setCell ⟨b, i, none⟩ (.int .i32 (x : Nat))) b n (d.set i x) := by
  obtain ⟨cur, h1, h2⟩ := h.blk
  have hlen := h.len
  have g1 := heap_setCell_same w b i _ 21 (.int .i32 (x : Nat)) h1
  refine ⟨⟨_, g1, by simp [h2]⟩, by simp [hlen], fun j z hz => ?_⟩
  have hcell : (w.setCell ⟨b, i, none⟩ (.int .i32 (x : Nat))).cell? ⟨b, j, none⟩ = (cur.setIfInBounds i (.int .i32 (x : Nat)))[j]? := by simp [World.cell?, g1]
  rw [hcell]
  by_cases e : j = i
  · subst e
    rw [List.getElem?_set_self (by omega)] at hz
    simp only [Option.some.injEq] at hz
    subst hz
    exact ⟨hx, by rw [Array.getElem?_setIfInBounds_self_of_lt (by omega)]⟩
  · rw [List.getElem?_set_ne (fun e' => e e'.symm)] at hz
    have := h.each j z hz
    refine ⟨this.1, ?_⟩
    rw [Array.getElem?_setIfInBounds_ne (fun e' => e e'.symm), ← this.2]
    simp [World.cell?, h1]

theorem RowD.other {w w' : World} {b n p : Nat} {d : List Nat} (h : RowD w b n d) (hg : w.grownBy w' (some p)) (hne : b ≠ p) : RowD w' b n d := by
  obtain ⟨cur, h1, h2⟩ := h.blk
  have hb := hg.block b (lt_of_block h1) (fun e => hne (Option.some.inj e))
  refine ⟨⟨cur, hb.trans h1, h2⟩, h.len, fun i x hx => ⟨(h.each i x hx).1, ?_⟩⟩
  have := (h.each i x hx).2
  unfold World.cell? at this ⊢
  rw [hb]
  exact this

theorem RowD.at {w : World} {b n : Nat} {d : List Nat} (h : RowD w b n d) {i : Nat} (hi : i < n) : d.getD i 0 < n ∧ w.cell? ⟨b, i, none⟩ = some (.int .i32 (d.getD i 0 : Nat)) := by
  have hlen := h.len
  have hx : d[i]? = some (d[i]'(by omega)) := by simp [show i < d.length by omega]
  have := h.each i _ hx
  rw [List.getD, hx]
  exact this

theorem RowD.fz {w : World} {b n : Nat} {d : List Nat} (h : RowD w b n d) (i : Nat) : w.frozen? ⟨b, i, none⟩ = false := by
  obtain ⟨cur, h1, _⟩ := h.blk
  simp [World.frozen?, h1]

theorem RowD.lt {w : World} {b n : Nat} {d : List Nat} (h : RowD w b n d) : b < w.heap.size := by
  obtain ⟨cur, h1, _⟩ := h.blk
  exact lt_of_block h1

/-- The numbers 0, 1, .. laid into a row, up to i. -/
def upTo (n : Nat) : Nat → List Nat
  | 0 => List.replicate n 0
  | i + 1 => (upTo n i).set i i

def fstep (cmp : Nat → Nat → Int) (ord : List Nat) (i : Nat) (f : List Nat) : List Nat :=
  if 0 < i ∧ cmp (ord.getD (i - 1) 0) (ord.getD i 0) = 0 then (f.set (ord.getD i 0) (ord.getD i 0)).set (ord.getD i 0) ((f.set (ord.getD i 0) (ord.getD i 0)).getD (ord.getD (i - 1) 0) 0) else f.set (ord.getD i 0) (ord.getD i 0)
def firstTo (cmp : Nat → Nat → Int) (ord : List Nat) (n : Nat) : Nat → List Nat
  | 0 => List.replicate n 0
  | i + 1 => fstep cmp ord i (firstTo cmp ord n i)

def nstep (f : List Nat) (k : Nat) (s : List Nat × Nat) : List Nat × Nat :=
  if f.getD k 0 = k then (s.1.set k s.2, s.2 + 1) else (s.1.set k (s.1.getD (f.getD k 0) 0), s.2)
def numTo (f : List Nat) (n : Nat) : Nat → List Nat × Nat
  | 0 => (List.replicate n 0, 0)
  | k + 1 => nstep f k (numTo f n k)

theorem numTo_le (f : List Nat) (n k : Nat) : (numTo f n k).2 ≤ k := by
  induction k with
  | zero => exact Nat.le_refl _
  | succ k ih =>
    show (nstep f k (numTo f n k)).2 ≤ k + 1
    unfold nstep
    split
    · show (numTo f n k).2 + 1 ≤ k + 1; omega
    · show (numTo f n k).2 ≤ k + 1; omega

/-- What numberAlike answers: the numbers and how many there are. -/
def numberOf (cmp : Nat → Nat → Int) (n : Nat) : List Nat × Nat := numTo (firstTo cmp (insTo cmp (upTo n n) n) n n) n n

def NumPost (w : World) (n : Nat) (r : List Nat × Nat) (e : Ending) (w' : World) : Prop :=
  ∃ b, e = .returned (.tuple #[.slice (some ⟨b, 0, none⟩) n n, .int .i32 (r.2 : Nat)]) ∧ RowD w' b n r.1 ∧ w.heap.size ≤ b ∧ Below w.heap.size w w'

set_option maxRecDepth 100000 in
set_option maxHeartbeats 1600000 in
theorem number34 {w : World} {g n : Nat} {cb : Array Value} {cmp : Nat → Nat → Int} (hC : CmpOk w g cb n cmp) (heg : ∀ args w, (callFunc g args).run Yba.prog w = .ok (.enter g args) w) (hn : n ≤ 16) (hpos : 0 < n) :
    Calls Yba.prog 34 #[.int .i64 n, .func (.func g) #[] cb] w (NumPost w n (numberOf cmp n)) := by
  unfold numberOf
  obtain ⟨i0, hi0, hz0, hz1, hz2⟩ := info_parts info21
  have HC := hid hC
  clear hC
  go_enter Yba.func34, Yba.ntmps34
  go_wp2_with (at_make; refine wpList_make_full _ rfl _ _ 70 rfl w.heap.size 21 i0 _ 1 Yba.underlying70 hi0 hz0 hz1 .i64 .i64 (n : Int) (n : Int) n rfl rfl rfl rfl ?b2 ?b3 ?b4 ?_)
  case b2 => rw [hz2]; omega
  case b3 => unfold maxLen; omega
  case b4 => exact Nat.le_refl _
  intro w1 hrow hgr
  have HD := hid (made_rowD hpos hrow)
  have HB := hid ((Below.refl w.heap.size w).grown hgr (Nat.le_refl _) (fun k hk => by cases hk))
  clear hrow hgr
  generalize hob : w.heap.size = ob at *
  have hobb : w.heap.size ≤ ob := by omega
  go_upto_block 0 with fail
  go_cut [19] from 15 to 27 (fun _ wx => RowD wx ob n (upTo n n) ∧ Below w.heap.size w wx)
  case first =>
    go_wp2_with fail
    go_loopw [19] (fun vi wr => ∃ i : Nat, i ≤ n ∧ vi = .int .i64 i ∧ RowD wr ob n (upTo n i) ∧ Below w.heap.size w wr) (fun vi _ => n - (intOf vi).toNat)
    case atStart => exact ⟨0, by omega, rfl, HD.out, by have := HB.out; rw [← hob] at this; exact this⟩
    case round =>
      obtain ⟨i, hi, rfl, hd, hb⟩ := hrel
      rcases Nat.lt_or_ge i n with hlt | hge
      · have t1 : (i : Int) < (n : Int) := by omega
        have c0 := (hd.at hlt).2
        have cf := hd.fz i
        have H1 := hid (hd.set hlt hlt)
        have H2 := hid (show Below w.heap.size w (wr.setCell ⟨ob, i, none⟩ (.int .i32 (i : Nat))) from hb.grown (grown_setCell (World.grownBy.refl wr _)) hb.size (fun k hk => by simp only [Option.some.injEq] at hk; omega))
        clear hd hb
        go_wp2_with fail
        go_roundw
        case rel => exact ⟨i + 1, by omega, rfl, H1.out, H2.out⟩
        case measure => simp [intOf]; omega
      · have : i = n := by omega
        subst this
        have t1 : ¬ (i : Int) < (i : Int) := by omega
        have H1 := hid hd
        have H2 := hid hb
        clear hd hb
        go_wp2_with fail
        go_meet
        case rel => exact ⟨H1.out, H2.out⟩
  case rest =>
    obtain ⟨hd, hb⟩ := hcut
    clear HD HB
    have HD := hid hd
    have HS := hid (sortStable51 HC.out heg hb hobb hd hn hpos)
    clear hd hb
    go_wp2_with fail
    refine HS.out.mono ?_
    rintro e w2 ⟨rfl, hd2, hb2⟩
    have HD2 := hid hd2
    have HB2 := hid hb2
    have hsz := hb2.size
    clear hd2 hb2
    go_wp2_with (at_make; refine wpList_make_full _ rfl _ _ 70 rfl w.heap.size 21 i0 _ 1 Yba.underlying70 hi0 hz0 hz1 .i64 .i64 (n : Int) (n : Int) n rfl rfl rfl rfl ?b2 ?b3 ?b4 ?_)
    case b2 => rw [hz2]; omega
    case b3 => unfold maxLen; omega
    case b4 => exact hsz
    intro w3 hrow hgr
    have hg3 : Below w2.heap.size w2 w3 := (Below.refl _ _).grown hgr (Nat.le_refl _) (fun k hk => by cases hk)
    have HF := hid (made_rowD hpos hrow)
    have HD3 := hid (HD2.out.below hg3)
    have HB3 := hid (HB2.out.trans (below_le hg3 HB2.out.size))
    have hne : ob ≠ w2.heap.size := by have := HD2.out.lt; omega
    have hfb : w.heap.size ≤ w2.heap.size := hsz
    clear hrow hgr hg3 HD2 HB2 HD hsz
    generalize insTo cmp (upTo n n) n = ord at *
    generalize w2.heap.size = fb at *
    go_upto_block 2 with fail
    go_cut [35] from 15 to 68 (fun _ wx => RowD wx fb n (firstTo cmp ord n n) ∧ RowD wx ob n ord ∧ Below w.heap.size w wx)
    case first =>
      go_wp2_with fail
      go_loopw [35] (fun vi wr => ∃ i : Nat, i ≤ n ∧ vi = .int .i64 i ∧ RowD wr fb n (firstTo cmp ord n i) ∧ RowD wr ob n ord ∧ Below w.heap.size w wr) (fun vi _ => n - (intOf vi).toNat)
      case atStart => exact ⟨0, by omega, rfl, HF.out, HD3.out, HB3.out⟩
      case round =>
        obtain ⟨i, hi, rfl, hf, hd, hb⟩ := hrel
        clear HF HD3 HB3
        have HF := hid hf
        have HD := hid hd
        have HB := hid hb
        clear hf hd hb
        rcases Nat.lt_or_ge i n with hlt | hge
        · have t1 : (i : Int) < (n : Int) := by omega
          obtain ⟨hk, ck⟩ := HD.out.at hlt
          obtain ⟨_, cf⟩ := HF.out.at hk
          have ff := fun j => HF.out.fz j
          have t2 : ((ord.getD i 0 : Nat) : Int) < (n : Int) := by omega
          have hg1 : wr.grownBy (wr.setCell ⟨fb, ord.getD i 0, none⟩ (.int .i32 (ord.getD i 0 : Nat))) (some fb) := grown_setCell (World.grownBy.refl wr _)
          have HF1 := hid (HF.out.set hk hk)
          have HD1 := hid (HD.out.other hg1 hne)
          have HB1 := hid (HB.out.grown hg1 HB.out.size (fun k hk => by simp only [Option.some.injEq] at hk; omega))
          clear hg1
          have hst : firstTo cmp ord n (i + 1) = fstep cmp ord i (firstTo cmp ord n i) := rfl
          unfold fstep at hst
          have HST := hid hst
          clear hst
          generalize hkk : ord.getD i 0 = kk at *
          go_upto_region 13 with fail
          clear ck cf ff HF HD HB
          generalize wr.setCell ⟨fb, kk, none⟩ (.int .i32 (kk : Nat)) = W5 at *
          rcases Nat.eq_zero_or_pos i with h0 | h0
          · subst h0
            have HE := hid (show firstTo cmp ord n (0 + 1) = (firstTo cmp ord n 0).set kk kk from by have := HST.out; rw [if_neg (fun h => by have := h.1; omega)] at this; exact this)
            go_wp2_with fail
            go_roundw
            case rel => exact ⟨0 + 1, by omega, rfl, by rw [HE.out]; exact HF1.out, HD1.out, HB1.out⟩
            case measure => simp [intOf]; omega
          · obtain ⟨jm, hjm⟩ : ∃ jm, i = jm + 1 := ⟨i - 1, by omega⟩
            have HJM := hid hjm
            obtain ⟨hp, cp⟩ := HD1.out.at (show jm < n by omega)
            have t3 : (0 : Int) < (i : Int) := by omega
            have t4 : (jm : Int) < (n : Int) := by omega
            have t5 : (i : Int) - 1 = (jm : Int) := by omega
            have hst := HST.out
            rw [show i - 1 = jm by omega] at hst
            have HST2 := hid hst
            clear hst hjm HST
            generalize hpp : ord.getD jm 0 = pp at *
            have hcall := HC.out W5 pp kk HB1.out hp hk
            generalize hcv : cmp pp kk = cv at hcall HST2
            clear hcv
            have HCL := hid hcall
            clear hcall
            cases hz : (cv == 0)
            · have HE := hid (show firstTo cmp ord n (i + 1) = (firstTo cmp ord n i).set kk kk from by have := HST2.out; rw [if_neg (fun h => by simp [h.2] at hz)] at this; exact this)
              go_wp2_with fail
              refine HCL.out.mono ?_
              rintro e w6 ⟨rfl, hb6⟩
              have HF6 := hid (HF1.out.below hb6)
              have HD6 := hid (HD1.out.below hb6)
              have HB6 := hid (HB1.out.trans (below_le hb6 HB1.out.size))
              clear hb6 cp
              go_wp2_with fail
              go_roundw
              case rel => exact ⟨i + 1, by omega, rfl, by rw [HE.out]; exact HF6.out, HD6.out, HB6.out⟩
              case measure => simp [intOf]; omega
            · have HE := hid (show firstTo cmp ord n (i + 1) = ((firstTo cmp ord n i).set kk kk).set kk (((firstTo cmp ord n i).set kk kk).getD pp 0) from by have := HST2.out; rw [if_pos ⟨by omega, by simpa using hz⟩] at this; exact this)
              go_wp2_with fail
              refine HCL.out.mono ?_
              rintro e w6 ⟨rfl, hb6⟩
              have HF6 := hid (HF1.out.below hb6)
              have HD6 := hid (HD1.out.below hb6)
              have HB6 := hid (HB1.out.trans (below_le hb6 HB1.out.size))
              have c1 := (hb6.cell (block_lt_of_cell cp)).trans cp
              obtain ⟨hfp, c2⟩ := HF6.out.at hp
              obtain ⟨_, c3⟩ := HF6.out.at hk
              have ff := fun j => HF6.out.fz j
              have t6 : (pp : Int) < (n : Int) := by omega
              have hg7 : w6.grownBy (w6.setCell ⟨fb, kk, none⟩ (.int .i32 (((firstTo cmp ord n i).set kk kk).getD pp 0 : Nat))) (some fb) := grown_setCell (World.grownBy.refl w6 _)
              have HF7 := hid (HF6.out.set hk hfp)
              have HD7 := hid (HD6.out.other hg7 hne)
              have HB7 := hid (HB6.out.grown hg7 HB6.out.size (fun k hk => by simp only [Option.some.injEq] at hk; omega))
              clear hb6 cp hg7
              generalize ((firstTo cmp ord n i).set kk kk).getD pp 0 = fp at *
              go_wp2_with fail
              go_roundw
              case rel => exact ⟨i + 1, by omega, rfl, by rw [HE.out]; exact HF7.out, HD7.out, HB7.out⟩
              case measure => simp [intOf]; omega
        · have : i = n := by omega
          subst this
          have t1 : ¬ (i : Int) < (i : Int) := by omega
          go_wp2_with fail
          go_meet
          case rel => exact ⟨HF.out, HD.out, HB.out⟩
    case rest =>
      obtain ⟨hf, hd, hb⟩ := hcut
      clear HF HD3 HB3 hd
      have HF := hid hf
      have HB := hid hb
      have hsz := hb.size
      clear hf hb
      generalize firstTo cmp ord n n = fs at *
      go_wp2_with (at_make; refine wpList_make_full _ rfl _ _ 70 rfl w.heap.size 21 i0 _ 1 Yba.underlying70 hi0 hz0 hz1 .i64 .i64 (n : Int) (n : Int) n rfl rfl rfl rfl ?b2 ?b3 ?b4 ?_)
      case b2 => rw [hz2]; omega
      case b3 => unfold maxLen; omega
      case b4 => exact hsz
      intro w7 hrow hgr
      have hg3 : Below wc.heap.size wc w7 := (Below.refl _ _).grown hgr (Nat.le_refl _) (fun k hk => by cases hk)
      have HN := hid (made_rowD hpos hrow)
      have HF3 := hid (HF.out.below hg3)
      have HB3 := hid (HB.out.trans (below_le hg3 HB.out.size))
      have hne2 : fb ≠ wc.heap.size := by have := HF.out.lt; omega
      clear hrow hgr hg3 HF HB
      generalize wc.heap.size = nb at *
      go_wp2_with fail
      go_loopw [12, 73] (fun vc vi wr => ∃ k : Nat, k ≤ n ∧ vi = .int .i64 k ∧ vc = .int .i32 ((numTo fs n k).2 : Nat) ∧ RowD wr nb n (numTo fs n k).1 ∧ RowD wr fb n fs ∧ Below w.heap.size w wr) (fun _ vi _ => n - (intOf vi).toNat)
      case atStart => exact ⟨0, by omega, rfl, rfl, HN.out, HF3.out, HB3.out⟩
      case round =>
        obtain ⟨k, hk, rfl, rfl, hnn, hf, hb⟩ := hrel
        clear HN HF3 HB3
        have HN := hid hnn
        have HF := hid hf
        have HB := hid hb
        have hle := numTo_le fs n k
        clear hnn hf hb
        rcases Nat.lt_or_ge k n with hlt | hge
        · have t1 : (k : Int) < (n : Int) := by omega
          obtain ⟨hfk, ck⟩ := HF.out.at hlt
          obtain ⟨_, cn⟩ := HN.out.at hlt
          have ff := fun j => HN.out.fz j
          have hst : numTo fs n (k + 1) = nstep fs k (numTo fs n k) := rfl
          unfold nstep at hst
          have HST := hid hst
          clear hst
          generalize numTo fs n k = st at *
          obtain ⟨nm, ct⟩ := st
          simp only at hle cn HST HN
          have t2 : ((fs.getD k 0 : Nat) : Int) < (n : Int) := by omega
          generalize hfv : fs.getD k 0 = fv at *
          by_cases hfk2 : fv = k
          · have HE := hid (show numTo fs n (k + 1) = (nm.set k ct, ct + 1) from by have := HST.out; rw [if_pos hfk2] at this; exact this)
            have g1 : ((fv : Int) == (k : Int)) = true := by simp [hfk2]
            have HN2 := hid (HN.out.set hlt (show ct < n by omega))
            have hg9 : wr.grownBy (wr.setCell ⟨nb, k, none⟩ (.int .i32 (ct : Nat))) (some nb) := grown_setCell (World.grownBy.refl wr _)
            have HF2 := hid (HF.out.other hg9 hne2)
            have HB2 := hid (HB.out.grown hg9 HB.out.size (fun k hk => by simp only [Option.some.injEq] at hk; omega))
            clear hg9 hfk2
            go_wp2_with fail
            go_roundw
            case rel => exact ⟨k + 1, by omega, rfl, by rw [HE.out]; rfl, by rw [HE.out]; exact HN2.out, HF2.out, HB2.out⟩
            case measure => simp [intOf]; omega
          · have HE := hid (show numTo fs n (k + 1) = (nm.set k (nm.getD fv 0), ct) from by have := HST.out; rw [if_neg hfk2] at this; exact this)
            have g1 : ((fv : Int) == (k : Int)) = false := by simp; omega
            obtain ⟨hnv, cv⟩ := HN.out.at hfk
            have HN2 := hid (HN.out.set hlt hnv)
            have hg9 : wr.grownBy (wr.setCell ⟨nb, k, none⟩ (.int .i32 (nm.getD fv 0 : Nat))) (some nb) := grown_setCell (World.grownBy.refl wr _)
            have HF2 := hid (HF.out.other hg9 hne2)
            have HB2 := hid (HB.out.grown hg9 HB.out.size (fun k hk => by simp only [Option.some.injEq] at hk; omega))
            clear hg9 hfk2
            generalize nm.getD fv 0 = nv at *
            go_wp2_with fail
            go_roundw
            case rel => exact ⟨k + 1, by omega, rfl, by rw [HE.out], by rw [HE.out]; exact HN2.out, HF2.out, HB2.out⟩
            case measure => simp [intOf]; omega
        · have : k = n := by omega
          subst this
          have t1 : ¬ (k : Int) < (k : Int) := by omega
          go_wp2_with fail
          go_ret2
          exact ⟨nb, rfl, HN.out, hsz, HB.out⟩
end Go.Proofs.Ybulkatiq
