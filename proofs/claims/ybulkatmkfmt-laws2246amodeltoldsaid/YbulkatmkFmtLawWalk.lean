/-
  The law's walk: its parts.
-/
import Derived.Test.YbulkatmkFmtStageB
import Derived.Deep.RegionHeld3
namespace Go.Proofs.YbulkatmkFmt
open Go.ChangeShapes Go.WideShapes Go.ChangeAt Go.RowKit Go.Extern.Stop Go.Stop

structure Zi where
  issue : Int
  st : Int
  fixes : Int
  pr : Int
  br : ByteArray

structure ZAt (w : World) (b o : Nat) (z : Zi) : Prop where
  z0 : w.cell? ⟨b, o, none⟩ = some (.int .i64 z.issue)
  z1 : w.cell? ⟨b, o + 1, none⟩ = some (.int .u8 z.st)
  z2 : w.cell? ⟨b, o + 2, none⟩ = some (.int .i64 z.fixes)
  z3 : w.cell? ⟨b, o + 3, none⟩ = some (.int .i64 z.pr)
  z4 : w.cell? ⟨b, o + 4, none⟩ = some (.string z.br)

def InAt (w : World) (a : Option Addr) (len : Nat) (zs : Nat → Zi) : Prop :=
  len = 0 ∨ ∃ b off, a = some ⟨b, off, none⟩ ∧ ∀ i, i < len → ZAt w b (off + i * 5) (zs i)

theorem InAt.below {w w' : World} {a : Option Addr} {len : Nat} {zs : Nat → Zi} (h : InAt w a len zs) (hb : Below w.heap.size w w') : InAt w' a len zs := by
  rcases h with h | ⟨b, off, ha, h⟩
  · exact .inl h
  · refine .inr ⟨b, off, ha, fun i hi => ?_⟩
    have z := h i hi
    exact ⟨by rw [hb.cell (block_lt_of_cell z.z0)]; exact z.z0, by rw [hb.cell (block_lt_of_cell z.z1)]; exact z.z1, by rw [hb.cell (block_lt_of_cell z.z2)]; exact z.z2,
      by rw [hb.cell (block_lt_of_cell z.z3)]; exact z.z3, by rw [hb.cell (block_lt_of_cell z.z4)]; exact z.z4⟩

theorem InAt.below' {w w' : World} {a : Option Addr} {len : Nat} {zs : Nat → Zi} (h : InAt w a len zs) (hb : Below w.heap.size w w') : InAt w' a len zs := h.below hb

theorem grown_drew (w : World) : w.grownBy w.drew none := ⟨rfl, rfl, rfl, Nat.le_refl _, fun _ _ _ => rfl⟩

theorem Built.put_drew {n k : Nat} {w0 w : World} {v : Value} {q : Nat → Nat} {xs : List Iss} {bs : List Value} (h : Built w0.heap.size n k w v q xs bs) (hb : Below w0.heap.size w0 w) (hk : k < n) (x : Iss) :
    Built w0.heap.size n k (put5at w (w0.heap.size + 1) (k * 5) x).drew v q xs (bs5 bs k x) ∧ BefAt (bs5 bs k x) k x ∧ Below w0.heap.size w0 (put5at w (w0.heap.size + 1) (k * 5) x).drew := by
  obtain ⟨h1, h2⟩ := h.put hk x
  exact ⟨h1.grew (grown_drew _), h2, (hb.grown (put5at_grown w (w0.heap.size + 1) (k * 5) x) hb.size (fun j hj => by simp only [Option.some.injEq] at hj; omega)).drew⟩

theorem Built.round {n k cv : Nat} {ao : Option Addr} {w0 w w' : World} {v' : Value} {q : Nat → Nat} {xs : List Iss} {bs : List Value} {x : Iss} {o2 : Obj} (h : Built w0.heap.size n k w (.slice ao k cv) q xs bs) (hb : BefAt bs k x) (hbel : Below w0.heap.size w0 w)
    (hg : ((w.alloc (.cells x.cells 32)).alloc o2).grownBy w' (Value.slice ao k cv).ownBlock) (hrow : w'.ownsRow (w0.heap.size + 2) 33 1 v' (k + 1) (ptrs q k ++ [.pointer (some ⟨w.heap.size, 0, none⟩)])) :
    Built w0.heap.size n (k + 1) (w'.setCell ⟨w0.heap.size, 0, none⟩ v') v' (fun j => if j = k then w.heap.size else q j) (xs ++ [x]) bs ∧ Below w0.heap.size w0 (w'.setCell ⟨w0.heap.size, 0, none⟩ v') ∧
      w'.cell? ⟨w0.heap.size, 0, none⟩ = some (.slice ao k cv) ∧ w'.frozen? ⟨w0.heap.size, 0, none⟩ = false := by
  have g2 : w.grownBy ((w.alloc (.cells x.cells 32)).alloc o2) none := (World.grownBy_alloc w _ none).trans (World.grownBy_alloc _ _ none)
  have h2 := h.grew g2
  have hx : IssAt ((w.alloc (.cells x.cells 32)).alloc o2) w.heap.size x := by
    have h1 : IssAt (w.alloc (.cells x.cells 32)) w.heap.size x := by
      show (w.heap.push _)[w.heap.size]? = _
      simp
    exact ((World.grownBy_alloc (w.alloc (.cells x.cells 32)) o2 none).block _ h1.lt (by simp)).trans h1
  have hlt1 := h.lt1
  have hlen := h.len
  have hs := h2.snoc hb hx (by omega) (fun j hj => by
    have : IssAt w (q j) (xs[j]'(by omega)) := h.iss j _ (by simp [show j < xs.length by omega])
    have := this.lt
    omega) hg hrow
  have led' : w'.heap[w0.heap.size]? = some (.cells #[.slice ao k cv] 26 (0, 0)) := (hg.block _ h2.lt (fun e => by have := h2.vB e.symm; omega)).trans h2.led
  have hb2 : Below w0.heap.size w0 ((w.alloc (.cells x.cells 32)).alloc o2) := hbel.grown g2 hbel.size (fun k hk => by cases hk)
  have hb3 : Below w0.heap.size w0 w' := hb2.grown hg hb2.size (fun g e => by have := h2.vB e; omega)
  refine ⟨hs, hb3.grown (grown_setCell (World.grownBy.refl w' _)) hb3.size (fun g e => by simp only [Option.some.injEq] at e; omega), ?_, ?_⟩
  · simp [World.cell?, led']
  · simp [World.frozen?, led']

theorem info32 : (Ybaf.prog.info? 32).map (fun i => (i.zero, i.size, i.bytes)) = some (some (.agg #[.int .i64 0, .string ⟨#[]⟩, .int .i64 0, .int .i64 0, .string ⟨#[]⟩]), 5, 56) := by kernel_rfl
theorem info33 : (Ybaf.prog.info? 33).map (fun i => (i.zero, i.size, i.bytes)) = some (some (.pointer none), 1, 8) := by kernel_rfl

set_option maxRecDepth 100000 in
theorem law_long (a : Option Addr) (len cap : Nat) (n nSel tsel pr prSel : Int) (w : World) (hl : 1024 < len) :
    Calls Ybaf.prog 3 #[.slice a len cap, .int .i64 n, .int .u8 nSel, .int .u8 tsel, .int .i64 pr, .int .u8 prSel] w fun e w' => e = .returned (.bool true) ∧ w = w' := by
  have t : (1024 : Int) < (len : Int) := by omega
  go_enter Ybaf.func3, Ybaf.ntmps3
  go_wp2_with fail
  go_ret
  exact ⟨rfl, rfl⟩

set_option maxRecDepth 100000 in
set_option maxHeartbeats 8000000 in
theorem law_walk (F : Interp) (P : Places) (a : Option Addr) (len cap : Nat) (zs : Nat → Zi) (n nSel tsel pr prSel : Int) (w : World) (hin : InAt w a len zs) (hl : len ≤ 1024) (hV : VarsAt F P w) :
    Calls Ybaf.prog 3 #[.slice a len cap, .int .i64 n, .int .u8 nSel, .int .u8 tsel, .int .i64 pr, .int .u8 prSel] w (LawPost w) := by
  have HV := hid hV
  clear hV
  obtain ⟨i0, hi0, hz0, hz1, hz2⟩ := info_parts info32
  have t : ¬ (1024 : Int) < (len : Int) := by omega
  go_enter Ybaf.func3, Ybaf.ntmps3
  go_wp2_with (at_make; refine wpList_make_full _ rfl _ _ 27 rfl (w.heap.size + 1) 32 i0 _ 5 Ybaf.underlying27 hi0 hz0 hz1 .i64 .i64 (len : Int) (len : Int) len rfl rfl rfl rfl ?b2 ?b3 ?b4 ?_)
  case b2 => omega
  case b3 => unfold maxLen; omega
  intro w1 hbef hgr1
  have hled : w1.heap[w.heap.size]? = some (.cells #[.slice none 0 0] 26 (0, 0)) := (hgr1.block _ (by simp) (by simp)).trans (by show (w.heap.push _)[w.heap.size]? = _; simp)
  have HB0 := hid (show Built w.heap.size len 0 w1 (.slice none 0 0) (fun _ => 0) [] _ from ⟨rfl, hled, hbef, fun j x hx => by simp at hx, World.ownsRow_nil _ _ _ _, fun j x hx => by simp at hx, fun j hj => by omega, fun i j hi => by omega⟩)
  have HBL0 := hid (show Below w.heap.size w w1 from ((Below.refl _ _).alloc (Nat.le_refl _) _).grown hgr1 (by simp) (fun k hk => by cases hk))
  have HIN := hid hin
  clear hbef hgr1 hled hin t hi0 hz0 hz1 hz2
  obtain ⟨i0, hi0, hz0, hz1, hz2⟩ := info_parts info33
  go_upto_block 0 with fail
  go_cut [42] from 32 to 77 (fun _ wx => ∃ (q : Nat → Nat) (xs : List Iss) (v : Value) (bs : List Value), Built w.heap.size len len wx v q xs bs ∧ Below w.heap.size w wx)
  case first =>
    go_wp2_with fail
    go_loopw [42] (fun i wr => ∃ (k : Nat) (q : Nat → Nat) (xs : List Iss) (v : Value) (bs : List Value), k ≤ len ∧ i = .int .i64 k ∧ Built w.heap.size len k wr v q xs bs ∧ Below w.heap.size w wr) (fun i _ => len - (intOf i).toNat)
    case atStart => exact ⟨0, _, _, _, _, by omega, rfl, HB0.out, HBL0.out⟩
    case round =>
      obtain ⟨k, q, xs, v, bs, hk, rfl, hbu, hbel⟩ := hrel
      clear HB0 HBL0
      have HU := hid hbu
      have HL := hid hbel
      clear hbu hbel
      rcases Nat.lt_or_ge k len with hlt | hge
      · rcases HIN.out.below' HL.out with h0 | ⟨b, off, rfl, hz⟩
        · omega
        have zz := hz k hlt
        have y0 := zz.z0
        have y1 := zz.z1
        have y2 := zz.z2
        have y3 := zz.z3
        have y4 := zz.z4
        have t1 : (k : Int) < (len : Int) := by omega
        clear hz zz
        go_upto_region 9 with fail
        go_cut [15] (fun v15 wx => v15 = .int .i64 k ∧ ∃ (s : ByteArray) (bs' : List Value), Built w.heap.size len k wx v q xs bs' ∧ BefAt bs' k ⟨(zs k).issue, s, (zs k).fixes, (zs k).pr, (zs k).br⟩ ∧ Below w.heap.size w wx)
        case first =>
          clear y0 y1 y2 y3 y4
          have hb := HU.out.bef.alloc (.cells #[.int .i64 (zs k).issue, .int .u8 (zs k).st, .int .i64 (zs k).fixes, .int .i64 (zs k).pr, .string (zs k).br] 29)
          have f0 := fun j => hb.frozenAt j
          have hbl := HU.out.bslen
          have ex : ∀ t, t < 5 → ∃ u, bs[k * 5 + t]? = some u := fun t ht => ⟨bs[k * 5 + t]'(by omega), by simp [show k * 5 + t < bs.length by omega]⟩
          obtain ⟨u0, e0⟩ := ex 0 (by omega)
          obtain ⟨u1, e1⟩ := ex 1 (by omega)
          obtain ⟨u2, e2⟩ := ex 2 (by omega)
          obtain ⟨u3, e3⟩ := ex 3 (by omega)
          obtain ⟨u4, e4⟩ := ex 4 (by omega)
          have c0 := (hb.cellAt (k * 5) (by omega)).trans e0
          have c1 := (hb.cellAt (k * 5 + 1) (by omega)).trans e1
          have c2 := (hb.cellAt (k * 5 + 2) (by omega)).trans e2
          have c3 := (hb.cellAt (k * 5 + 3) (by omega)).trans e3
          have c4 := (hb.cellAt (k * 5 + 4) (by omega)).trans e4
          have HU1 := hid (HU.out.grew (World.grownBy_alloc wr (.cells #[.int .i64 (zs k).issue, .int .u8 (zs k).st, .int .i64 (zs k).fixes, .int .i64 (zs k).pr, .string (zs k).br] 29) none))
          have HL1 := hid (HL.out.alloc HL.out.size (.cells #[.int .i64 (zs k).issue, .int .u8 (zs k).st, .int .i64 (zs k).fixes, .int .i64 (zs k).pr, .string (zs k).br] 29))
          have hw1 := HU.out.lt1
          have y0 : (wr.alloc (.cells #[.int .i64 (zs k).issue, .int .u8 (zs k).st, .int .i64 (zs k).fixes, .int .i64 (zs k).pr, .string (zs k).br] 29)).cell? ⟨wr.heap.size, 0, none⟩ = some (.int .i64 (zs k).issue) := by go_simp
          have y1 : (wr.alloc (.cells #[.int .i64 (zs k).issue, .int .u8 (zs k).st, .int .i64 (zs k).fixes, .int .i64 (zs k).pr, .string (zs k).br] 29)).cell? ⟨wr.heap.size, 1, none⟩ = some (.int .u8 (zs k).st) := by go_simp
          have y2 : (wr.alloc (.cells #[.int .i64 (zs k).issue, .int .u8 (zs k).st, .int .i64 (zs k).fixes, .int .i64 (zs k).pr, .string (zs k).br] 29)).cell? ⟨wr.heap.size, 2, none⟩ = some (.int .i64 (zs k).fixes) := by go_simp
          have y3 : (wr.alloc (.cells #[.int .i64 (zs k).issue, .int .u8 (zs k).st, .int .i64 (zs k).fixes, .int .i64 (zs k).pr, .string (zs k).br] 29)).cell? ⟨wr.heap.size, 3, none⟩ = some (.int .i64 (zs k).pr) := by go_simp
          have y4 : (wr.alloc (.cells #[.int .i64 (zs k).issue, .int .u8 (zs k).st, .int .i64 (zs k).fixes, .int .i64 (zs k).pr, .string (zs k).br] 29)).cell? ⟨wr.heap.size, 4, none⟩ = some (.string (zs k).br) := by go_simp
          have hp1 : ¬ wr.heap.size = w.heap.size + 1 := by omega
          have hp2 : ¬ w.heap.size + 1 = wr.heap.size := by omega
          clear hb ex e0 e1 e2 e3 e4 hbl HU HL hw1
          generalize wr.alloc (.cells #[.int .i64 (zs k).issue, .int .u8 (zs k).st, .int .i64 (zs k).fixes, .int .i64 (zs k).pr, .string (zs k).br] 29) = wz at *
          generalize wr.heap.size = pz at *
          go_region_held3 (fun w' => w'.cell? ⟨pz, 0, none⟩ = some (.int .i64 (zs k).issue) ∧ w'.cell? ⟨pz, 1, none⟩ = some (.int .u8 (zs k).st) ∧ w'.cell? ⟨pz, 2, none⟩ = some (.int .i64 (zs k).fixes) ∧ w'.cell? ⟨pz, 3, none⟩ = some (.int .i64 (zs k).pr) ∧ w'.cell? ⟨pz, 4, none⟩ = some (.string (zs k).br))
            (go_keep)
            ((go_at_call 5; refine (state_some _ _).mono ?_; rintro e w' ⟨s, rfl, rfl⟩))
          go_wp2_with fail
          go_meet
          case rel =>
            obtain ⟨h1, h2, h3⟩ := HU1.out.put_drew HL1.out hlt ⟨(zs k).issue, s, (zs k).fixes, (zs k).pr, (zs k).br⟩
            exact ⟨rfl, s, _, h1, h2, h3⟩
        case rest =>
          obtain ⟨rfl, s, bs', hbu, hba, hbel⟩ := hcut
          clear HU HL y0 y1 y2 y3 y4
          obtain ⟨ao, cv, hv⟩ := owns_shape hbu.row
          subst hv
          have hbl := hbu.bslen
          have c0 := (hbu.bef.cellAt (k * 5) (by omega)).trans hba.b0
          have c1 := (hbu.bef.cellAt (k * 5 + 1) (by omega)).trans hba.b1
          have c2 := (hbu.bef.cellAt (k * 5 + 2) (by omega)).trans hba.b2
          have c3 := (hbu.bef.cellAt (k * 5 + 3) (by omega)).trans hba.b3
          have c4 := (hbu.bef.cellAt (k * 5 + 4) (by omega)).trans hba.b4
          have l0 : wc.cell? ⟨w.heap.size, 0, none⟩ = some (.slice ao k cv) := by simp [World.cell?, hbu.led]
          have hlt0 := hbu.lt
          have HU := hid hbu
          have HA := hid hba
          have HL := hid hbel
          clear hbu hba hbel hbl
          go_wp2_with (at_builtin; refine wpList_append_own_at _ rfl _ _ 24 rfl (w.heap.size + 2) 33 i0 (.pointer none) 1 8 Ybaf.underlying24 hi0 hz0 hz1 hz2 rfl (by decide) (.slice ao k cv) k (ptrs q k) rfl ?own ⟨wc.heap.size + 1, 0, none⟩ 1 1 [.pointer (some ⟨wc.heap.size, 0, none⟩)] rfl rfl ?d1 ?d2 ?d3 ?d4 ?d5 ?_)
          case own => exact (HU.out.row.alloc _).alloc _
          case d2 => rfl
          case d3 => unfold maxLen; omega
          case d4 => omega
          case d5 => omega
          · intro v' w2 hrow hgr _ _
            obtain ⟨ao', cv', rfl⟩ := owns_shape hrow
            obtain ⟨hu2, hl2, r0, r1⟩ := HU.out.round (x := ⟨(zs k).issue, s, (zs k).fixes, (zs k).pr, (zs k).br⟩) HA.out HL.out hgr hrow
            have HU2 := hid hu2
            have HL2 := hid hl2
            clear hu2 hl2 hrow hgr l0 c0 c1 c2 c3 c4 HU HL HA
            go_wp2_with fail
            go_roundw
            case rel => exact ⟨k + 1, _, _, _, _, by omega, rfl, HU2.out, HL2.out⟩
            case measure => simp [intOf]; omega
      · have : k = len := by omega
        subst this
        have hnle : ¬ (k : Int) < (k : Int) := by omega
        go_wp2_with fail
        go_meet
        case rel => exact ⟨_, _, _, _, HU.out, HL.out⟩
  case rest =>
    obtain ⟨q, xs, v, bs, hu, hl2⟩ := hcut
    apply (show ∀ (a : Act) (w' : World), Code.wp Ybaf.prog (dropC 5 (codeOf Ybaf.f3)) (bodyPost Ybaf.prog Ybaf.f3 (LawPost w)) a w' → _ from by assumption)
    exact stageB F P w wc len v q xs bs n nSel tsel pr prSel hu hl2 hl HV.out
end Go.Proofs.YbulkatmkFmt
