/-
  The walks of names.found and names.remember.
-/
import Derived.Test.YbulkatkuFmtParts
import Derived.RegionTactic
import Derived.BigRegion
namespace Go.Proofs.YbulkatkuFmt.Nm
open Go.ChangeShapes Go.WideShapes Go.ChangeAt Go.RowKit Go.Maps
open Go.WideMaps (keyOf_string_mk)

theorem size28 : (Ybaf.prog.info? 28).map (·.size) = some 2 := by kernel_rfl

theorem copy_recent {w : World} {p : Nat} {mv nv iv bv : Value} {q : Q4} (h : At w p mv nv iv q bv) :
    ∃ w', (Builtin.copy_ #[53, 53] 3 #[.slice (some ⟨p, 5, none⟩) 3 3, .slice (some ⟨p, 3, none⟩) 4 4]).run Ybaf.prog w = .ok (.int .i64 3) w' ∧
      At w' p mv nv iv ⟨q.s0, q.n0, q.s0, q.n0, q.s1, q.n1, q.s2, q.n2⟩ bv ∧ w.grownBy w' (some p) := by
  have hl := run_loadCells_list (P := Ybaf.prog) w ⟨p, 3, none⟩ [.string q.s0, .int .i32 q.n0, .string q.s1, .int .i32 q.n1, .string q.s2, .int .i32 q.n2] (by
    intro j v hj
    rw [add_plain]
    match j, hj with
    | 0, hj => simp at hj; subst hj; exact h.c3
    | 1, hj => simp at hj; subst hj; exact h.c4
    | 2, hj => simp at hj; subst hj; exact h.c5
    | 3, hj => simp at hj; subst hj; exact h.c6
    | 4, hj => simp at hj; subst hj; exact h.c7
    | 5, hj => simp at hj; subst hj; exact h.c8)
  have hst : (storeCells ⟨p, 5, none⟩ [.string q.s0, .int .i32 q.n0, .string q.s1, .int .i32 q.n1, .string q.s2, .int .i32 q.n2]).run Ybaf.prog w = .ok () (w.setRow p (blk mv nv iv ⟨q.s0, q.n0, q.s0, q.n0, q.s1, q.n1, q.s2, q.n2⟩ bv)) := run_storeCells_at Ybaf.prog p 5 31 [.string q.s0, .int .i32 q.n0, .string q.s1, .int .i32 q.n1, .string q.s2, .int .i32 q.n2] 0 _ w h (by simp [blk]) (by
    intro u hu; simp at hu; rcases hu with rfl | rfl | rfl | rfl | rfl | rfl <;> rfl)
  refine ⟨w.setRow p (blk mv nv iv ⟨q.s0, q.n0, q.s0, q.n0, q.s1, q.n1, q.s2, q.n2⟩ bv), ?_, ?_, ?_⟩
  rotate_left
  · exact setRow_heap w p _ (blk mv nv iv ⟨q.s0, q.n0, q.s0, q.n0, q.s1, q.n1, q.s2, q.n2⟩ bv) 31 _ h
  · exact ⟨rfl, rfl, rfl, by simp [World.setRow], fun k hk hne => by
      simp only [World.setRow]
      rw [Array.getElem?_modify]
      have : p ≠ k := fun e => hne (by rw [e])
      simp [this]⟩
  · cases hq : Ybaf.prog.info? 28 with
    | none => have := size28; simp [hq] at this
    | some i =>
      have hi : i.size = 2 := by have := size28; simpa [hq] using this
      simp only [List.length_cons, List.length_nil] at hl
      simp [Builtin.copy_, run_underlying Ybaf.underlying53, Builtin.lenOf, Builtin.firstCells, sizeOf, typeInfo, hq, hi, hl, hst, goInt]

theorem _root_.Go.World.grownBy_setCell {w w' : World} {p o : Nat} {v : Value} (h : w.grownBy w' (some p)) : w.grownBy (w'.setCell ⟨p, o, none⟩ v) (some p) :=
  ⟨h.os, h.tape, h.output, by have := h.size; simpa using this, fun k hk hne => (Below.heap_setCell w' ⟨p, o, none⟩ v k (fun e => hne (by rw [e]))).trans (h.block k hk hne)⟩

theorem remember_any {w : World} {p : Nat} {s : ByteArray} {n : Int} {mv nv iv bv : Value} {q : Q4} (h : At w p mv nv iv q bv) :
    Calls Ybaf.prog 12 #[.pointer (some ⟨p, 0, none⟩), .string s, .int .i32 n] w fun e w' => e = .returned (.tuple #[]) ∧
      At w' p mv nv iv ⟨s, n, q.s0, q.n0, q.s1, q.n1, q.s2, q.n2⟩ bv ∧ w.grownBy w' (some p) := by
  obtain ⟨w2, hcopy, hat, hgr⟩ := copy_recent (w := w.drew) (show At w.drew p mv nv iv q bv from h)
  have h3 := hat.c3
  have h4 := hat.c4
  have hf := hat.fz
  have HA := hid hat
  have HG := hid hgr
  clear hat hgr h
  go_enter Ybaf.func12, Ybaf.ntmps12
  go_wp2
  go_region
  all_goals go_wp2
  all_goals go_end0
  all_goals
    refine ⟨rfl, ?_, ?_⟩
    · exact (HA.out.set (o := 3) (v := .string s) (q' := ⟨s, q.n0, q.s0, q.n0, q.s1, q.n1, q.s2, q.n2⟩) rfl).set (o := 4) (v := .int .i32 n) rfl
    · exact World.grownBy_setCell (World.grownBy_setCell ⟨HG.out.os, HG.out.tape, HG.out.output, HG.out.size, HG.out.block⟩)

def Q4.list (q : Q4) : List (ByteArray × Int) := [(q.s0, q.n0), (q.s1, q.n1), (q.s2, q.n2), (q.s3, q.n3)]

theorem law9 : Keyed Ybaf.prog 9 := string_keyed Ybaf.underlying9
theorem zero21 (w : World) : (zeroValue 21).run Ybaf.prog w = .ok (.int .i32 0) w := by kernel_rfl

/-- What the map holds: nil, or block r reads as D. -/
def MapIs (w : World) (mv : Value) (D : DataW Unit) (r : Option Nat) (n : Nat) : Prop :=
  (r = none ∧ mv = .map none ∧ D = .map []) ∨ ∃ b, r = some b ∧ mv = .map (some b) ∧ w.ownsMap Ybaf.prog 9 (plainElem Ybaf.prog 21) b n D

theorem MapIs.kept {w w' : World} {mv : Value} {D : DataW Unit} {r row : Option Nat} {n : Nat} (h : MapIs w mv D r n) (hg : w.grownBy w' row) (hne : r = none ∨ r ≠ row) : MapIs w' mv D r n := by
  rcases h with h | ⟨b, rfl, rfl, ho⟩
  · exact .inl h
  · exact .inr ⟨b, rfl, rfl, ho.kept hg (by simpa using hne)⟩

theorem MapIs.look {w : World} {mv : Value} {D : DataW Unit} {r : Option Nat} {n : Nat} (h : MapIs w mv D r n) (s : ByteArray) (hs : s.size ≤ maxLen) :
    ∃ c, (Instr.lookup 24 mv (.string s) true).run Ybaf.prog w = .ok (.tuple #[.int .i32 c, .bool (Maps.has D (.string s.data.toList))]) w ∧ D.atKey (.string s.data.toList) (.lit (.int .i32 0)) = .lit (.int .i32 c) ∧ (Lit.int .i32 c).wf = true := by
  have hkey : keyOf Ybaf.prog 9 (.string s) = some (.string s.data.toList) := keyOf_string_mk Ybaf.underlying9 hs
  rcases h with ⟨rfl, rfl, rfl⟩ | ⟨b, rfl, rfl, ho⟩
  · exact ⟨0, Maps.look_nil true law9 Ybaf.underlying24 (zero21 w) hkey, rfl, by decide⟩
  · obtain ⟨v, ps, hrun, hv⟩ := ho.look_ok law9 Ybaf.underlying24 (zero21 w) (plainElem_int Ybaf.underlying21 (by decide)) hkey
    obtain ⟨c, rfl, hc, hwc⟩ := plainElem_int_inv Ybaf.underlying21 hv
    simp only [Prod.mk.injEq] at hc
    exact ⟨c, hrun, hc.1, hwc⟩

def FoundPost (w : World) (p : Nat) (s : ByteArray) (mv nv iv bv : Value) (q : Q4) (D : DataW Unit) (e : Ending) (w' : World) : Prop :=
  ∃ n b q', e = .returned (.tuple #[.int .i32 n, .bool b]) ∧ At w' p mv nv iv q' bv ∧ w.grownBy w' (some p) ∧ (∀ x ∈ q'.list, x ∈ q.list ∨ (b = true ∧ x = (s, n))) ∧
    (b = true → (s, n) ∈ q.list ∨ (Maps.has D (.string s.data.toList) = true ∧ D.atKey (.string s.data.toList) (.lit (.int .i32 0)) = .lit (.int .i32 n)))

theorem grownBy_none {w w' : World} (h : w.grownBy w' none) (row : Option Nat) : w.grownBy w' row := ⟨h.os, h.tape, h.output, h.size, fun k hk _ => h.block k hk (by simp)⟩

theorem index_recent (q : Q4) (w : World) :
    (Instr.index 29 (.agg #[.string q.s0, .int .i32 q.n0, .string q.s1, .int .i32 q.n1, .string q.s2, .int .i32 q.n2, .string q.s3, .int .i32 q.n3]) (.int .i64 0)).run Ybaf.prog w = .ok (.agg #[.string q.s0, .int .i32 q.n0]) w ∧
    (Instr.index 29 (.agg #[.string q.s0, .int .i32 q.n0, .string q.s1, .int .i32 q.n1, .string q.s2, .int .i32 q.n2, .string q.s3, .int .i32 q.n3]) (.int .i64 1)).run Ybaf.prog w = .ok (.agg #[.string q.s1, .int .i32 q.n1]) w ∧
    (Instr.index 29 (.agg #[.string q.s0, .int .i32 q.n0, .string q.s1, .int .i32 q.n1, .string q.s2, .int .i32 q.n2, .string q.s3, .int .i32 q.n3]) (.int .i64 2)).run Ybaf.prog w = .ok (.agg #[.string q.s2, .int .i32 q.n2]) w ∧
    (Instr.index 29 (.agg #[.string q.s0, .int .i32 q.n0, .string q.s1, .int .i32 q.n1, .string q.s2, .int .i32 q.n2, .string q.s3, .int .i32 q.n3]) (.int .i64 3)).run Ybaf.prog w = .ok (.agg #[.string q.s3, .int .i32 q.n3]) w :=
  ⟨by kernel_rfl, by kernel_rfl, by kernel_rfl, by kernel_rfl⟩

theorem grown_alloc {w w' : World} (h : w.grownBy w' none) (o : Obj) : w.grownBy (w'.alloc o) none := h.trans (World.grownBy_alloc w' o none)

theorem eq_of_toList {s t : ByteArray} (h : (s.toList == t.toList) = true) : s = t := by
  have := beq_iff_eq.1 h
  rw [ByteArray.toList_eq, ByteArray.toList_eq] at this
  exact ByteArray.ext (Array.toList_inj.1 this)

theorem found_any {w : World} {p : Nat} {s : ByteArray} {mv nv iv bv : Value} {q : Q4} {D : DataW Unit} {r : Option Nat} {cnt : Nat} (h : At w p mv nv iv q bv) (hm : MapIs w mv D r cnt) (hr : r ≠ some p) (hs : s.size ≤ maxLen) :
    Calls Ybaf.prog 9 #[.pointer (some ⟨p, 0, none⟩), .string s] w (FoundPost w p s mv nv iv bv q D) := by
  have h3 := h.c3
  have h4 := h.c4
  have h5 := h.c5
  have h6 := h.c6
  have h7 := h.c7
  have h8 := h.c8
  have h9 := h.c9
  have h10 := h.c10
  go_enter Ybaf.func9, Ybaf.ntmps9
  go_wp2
  go_loopw [14] (fun i wr => ∃ k : Nat, k ≤ 4 ∧ i = .int .i64 k ∧ w.grownBy wr none) (fun i _ => 4 - (intOf i).toNat)
  case atStart => exact ⟨0, by omega, rfl, World.grownBy.refl _ _⟩
  case round =>
    obtain ⟨k, hk, rfl, hg⟩ := hrel
    clear h3 h4 h5 h6 h7 h8 h9 h10
    have HA := hid (h.kept hg (by simp))
    have HG := hid hg
    have HM := hid (hm.kept hg (by cases r <;> simp))
    clear h hm
    rcases (show k = 0 ∨ k = 1 ∨ k = 2 ∨ k = 3 ∨ k = 4 by omega) with rfl | rfl | rfl | rfl | rfl
    · have ix := (index_recent q wr).1
      by_cases hx : (q.s0.toList == s.toList) = true
      · go_wp2
        go_ret2
        exact ⟨q.n0, true, q, rfl, (HA.out).kept (World.grownBy_alloc wr _ none) (by simp), grownBy_none (grown_alloc HG.out _) _, fun x hx => .inl hx, fun _ => .inl (by rw [← eq_of_toList hx]; simp [Q4.list])⟩
      · go_wp2
        go_roundw
        case rel => exact ⟨1, by omega, rfl, grown_alloc HG.out _⟩
        case measure => simp [intOf]
    · have ix := (index_recent q wr).2.1
      by_cases hx : (q.s1.toList == s.toList) = true
      · go_wp2
        go_ret2
        exact ⟨q.n1, true, q, rfl, (HA.out).kept (World.grownBy_alloc wr _ none) (by simp), grownBy_none (grown_alloc HG.out _) _, fun x hx => .inl hx, fun _ => .inl (by rw [← eq_of_toList hx]; simp [Q4.list])⟩
      · go_wp2
        go_roundw
        case rel => exact ⟨2, by omega, rfl, grown_alloc HG.out _⟩
        case measure => simp [intOf]
    · have ix := (index_recent q wr).2.2.1
      by_cases hx : (q.s2.toList == s.toList) = true
      · go_wp2
        go_ret2
        exact ⟨q.n2, true, q, rfl, (HA.out).kept (World.grownBy_alloc wr _ none) (by simp), grownBy_none (grown_alloc HG.out _) _, fun x hx => .inl hx, fun _ => .inl (by rw [← eq_of_toList hx]; simp [Q4.list])⟩
      · go_wp2
        go_roundw
        case rel => exact ⟨3, by omega, rfl, grown_alloc HG.out _⟩
        case measure => simp [intOf]
    · have ix := (index_recent q wr).2.2.2
      by_cases hx : (q.s3.toList == s.toList) = true
      · go_wp2
        go_ret2
        exact ⟨q.n3, true, q, rfl, (HA.out).kept (World.grownBy_alloc wr _ none) (by simp), grownBy_none (grown_alloc HG.out _) _, fun x hx => .inl hx, fun _ => .inl (by rw [← eq_of_toList hx]; simp [Q4.list])⟩
      · go_wp2
        go_roundw
        case rel => exact ⟨4, by omega, rfl, grown_alloc HG.out _⟩
        case measure => simp [intOf]
    · have c0 := HA.out.c0
      obtain ⟨c, hlook, hat, hwc⟩ := HM.out.look s hs
      cases hhas : Maps.has D (.string s.data.toList)
      · go_wp2
        go_ret2
        exact ⟨0, false, q, rfl, HA.out, grownBy_none HG.out _, fun x hx => .inl hx, fun h => by cases h⟩
      · go_wp2_with (go_at_call 12; refine (remember_any HA.out).mono ?_; rintro e w' ⟨rfl, hat', hg'⟩)
        go_ret2
        refine ⟨c, true, _, rfl, hat', (grownBy_none HG.out _).trans hg', fun x hx => ?_, fun _ => .inr ⟨hhas, hat⟩⟩
        simp [Q4.list] at hx ⊢
        rcases hx with rfl | rfl | rfl | rfl <;> simp
end Go.Proofs.YbulkatkuFmt.Nm
