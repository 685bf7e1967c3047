/-
  slices.CompareFunc at class cells.
-/
import Derived.Test.YbulkatiqNum
namespace Go.Proofs.Ybulkatiq
open Go.ChangeShapes Go.WideShapes Go.ChangeAt Go.RowKit Go.Maps Go.WideMaps

def cmpL : List (Nat × Nat) → List (Nat × Nat) → Int
  | [], [] => 0
  | [], _ :: _ => -1
  | _ :: _, [] => 1
  | a :: l, b :: m => if cmpC a b = 0 then cmpL l m else cmpC a b

def CmpPost (w : World) (r : Int) (e : Ending) (w' : World) : Prop := e = .returned (.int .i64 r) ∧ Below w.heap.size w w'

theorem below_al {w wr : World} (h : Below w.heap.size w wr) (o : Obj) : Below w.heap.size w (wr.alloc o) := h.alloc h.size o

/-- One cell of a list, with the shape of the slice. -/
theorem DiffAt.one {w : World} {a : Option Addr} {n cap : Nat} {l : List (Nat × Nat)} (h : DiffAt w (.slice a n cap) l) {i : Nat} {p : Nat × Nat} (hp : l[i]? = some p) : ∃ b off, a = some ⟨b, off, none⟩ ∧ n = l.length ∧ w.cell? ⟨b, off + i * 2, none⟩ = some (.int .i32 (p.1 : Nat)) ∧ w.cell? ⟨b, off + i * 2 + 1, none⟩ = some (.int .u8 (p.2 : Nat)) := by
  obtain ⟨a', cap', e, _, h⟩ := h
  simp only [Value.slice.injEq] at e
  obtain ⟨rfl, rfl, rfl⟩ := e
  rcases h with rfl | ⟨b, off, cur, rfl, _, h⟩
  · simp at hp
  · exact ⟨b, off, rfl, rfl, h i p hp⟩

set_option maxRecDepth 100000 in
set_option maxHeartbeats 1600000 in
theorem compare38 {w : World} {v1 v2 : Value} {l1 l2 : List (Nat × Nat)} (h1 : DiffAt w v1 l1) (h2 : DiffAt w v2 l2) (hn1 : l1.length ≤ 1024) (hn2 : l2.length ≤ 1024) :
    Calls Yba.prog 38 #[v1, v2, .func (.func 33) #[] #[]] w (CmpPost w (cmpL l1 l2)) := by
  have H1 := hid h1
  have H2 := hid h2
  obtain ⟨a1, c1, rfl⟩ := h1.shape
  obtain ⟨a2, c2, rfl⟩ := h2.shape
  clear h1 h2
  go_enter Yba.func38, Yba.ntmps38
  go_wp2_with fail
  go_loopw [13] (fun vi wr => ∃ i : Nat, i ≤ l1.length ∧ i ≤ l2.length ∧ vi = .int .i64 i ∧ cmpL (l1.drop i) (l2.drop i) = cmpL l1 l2 ∧ Below w.heap.size w wr) (fun vi _ => l1.length - (intOf vi).toNat)
  case atStart => exact ⟨0, by omega, by omega, rfl, rfl, Below.refl _ _⟩
  case round =>
    obtain ⟨i, hi1, hi2, rfl, heq, hb⟩ := hrel
    have HE := hid heq
    have HB := hid hb
    clear heq
    rcases Nat.lt_or_ge i l1.length with hlt | hge
    · have t1 : (i : Int) < (l1.length : Int) := by omega
      have hp : l1[i]? = some l1[i] := by simp [hlt]
      obtain ⟨b1, o1, rfl, _, x0, x1⟩ := (H1.out.below hb).one hp
      have hd1 : l1.drop i = l1[i] :: l1.drop (i + 1) := List.drop_eq_getElem_cons hlt
      have HD1 := hid hd1
      clear hp hd1
      generalize l1[i] = p at *
      have HB1 := hid (hb.alloc hb.size (.cells #[.int .i32 (p.1 : Nat), .int .u8 (p.2 : Nat)] 55))
      rcases Nat.lt_or_ge i l2.length with hlt2 | hge2
      · have t2 : decide ((l2.length : Int) ≤ (i : Int)) = false := by simp; omega
        have hq : l2[i]? = some l2[i] := by simp [hlt2]
        obtain ⟨b2, o2, rfl, _, y0, y1⟩ := (H2.out.below HB1.out).one hq
        have hd2 : l2.drop i = l2[i] :: l2.drop (i + 1) := List.drop_eq_getElem_cons hlt2
        have HD2 := hid hd2
        clear hq hd2
        generalize l2[i] = q at *
        have t3 : (i : Int) < (l2.length : Int) := by omega
        clear hb
        have hs1 := HB.out.size
        cases g : (cmpC p q != 0)
        · have HK := hid (show cmpL (l1.drop (i + 1)) (l2.drop (i + 1)) = cmpL l1 l2 from by
            have := HE.out
            rw [HD1.out, HD2.out, cmpL, if_pos (by simpa using g)] at this
            exact this)
          go_wp2_with (go_at_call 33; refine (cells33 _ _ _).mono ?_; rintro e w' ⟨rfl, rfl⟩)
          go_roundw
          case rel => exact ⟨i + 1, by omega, by omega, rfl, HK.out, (below_al (below_al (below_al (below_al HB1.out _) _) _) _).drew⟩
          case measure => simp [intOf]; omega
        · have HK := hid (show cmpL l1 l2 = cmpC p q from by
            have := HE.out
            rw [HD1.out, HD2.out, cmpL, if_neg (by simpa using g)] at this
            exact this.symm)
          go_wp2_with (go_at_call 33; refine (cells33 _ _ _).mono ?_; rintro e w' ⟨rfl, rfl⟩)
          go_ret
          exact ⟨by rw [HK.out]; rfl, (below_al (below_al (below_al (below_al HB1.out _) _) _) _).drew⟩
      · have HK := hid (show cmpL l1 l2 = 1 from by
          have := HE.out
          rw [HD1.out, List.drop_eq_nil_of_le hge2] at this
          exact this.symm)
        have t2 : (l2.length : Int) ≤ (i : Int) := by omega
        clear hb
        go_wp2_with fail
        go_ret
        exact ⟨by rw [HK.out]; rfl, HB1.out⟩
    · have : i = l1.length := by omega
      subst this
      have t1 : ¬ (l1.length : Int) < (l1.length : Int) := by omega
      clear hb
      rcases Nat.lt_or_ge l1.length l2.length with hlt2 | hge2
      · have t2 : (l1.length : Int) < (l2.length : Int) := by omega
        have HK := hid (show cmpL l1 l2 = -1 from by
          have := HE.out
          rw [List.drop_length, List.drop_eq_getElem_cons hlt2] at this
          exact this.symm)
        go_wp2_with fail
        go_ret
        exact ⟨by rw [HK.out]; rfl, HB.out⟩
      · have t2 : ¬ (l1.length : Int) < (l2.length : Int) := by omega
        have HK := hid (show cmpL l1 l2 = 0 from by
          have := HE.out
          rw [List.drop_length, List.drop_eq_nil_of_le hge2] at this
          exact this.symm)
        go_wp2_with fail
        go_ret
        exact ⟨by rw [HK.out]; rfl, HB.out⟩
end Go.Proofs.Ybulkatiq
