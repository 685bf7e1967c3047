/-
  The walks of names.name, names.appendName, and of strings.Clone.
-/
import Derived.Test.YbulkatkuFmtFound
import Derived.Lib.BufferRead
import Derived.Laws.IdiomStrings
namespace Go.Proofs.YbulkatkuFmt.Nm
open Go.ChangeShapes Go.WideShapes Go.ChangeAt Go.RowKit Go.Maps

theorem info5 : (Ybaf.prog.info? 5).map (fun i => (i.zero, i.size, i.bytes)) = some (some (.int .u8 0), 1, 1) := by kernel_rfl

/-- The library's table of powers of ten is as the program's text lays it. -/
def Tab (w : World) : Prop := Lib.TabIs Ybaf.prog w powName .u64 Lib.pow10Tab

def tname (k : Nat) : ByteArray := ⟨(84 :: Lib.itoa k).toArray⟩

theorem clone_any (s : ByteArray) (w : World) (h : s.size ≤ 281474976710656) :
    Calls Ybaf.prog 11 #[.string s] w fun e w' => e = .returned (.string s) ∧ Below w.heap.size w w' := by
  go_enter Ybaf.func11, Ybaf.ntmps11
  go_wp2_with (go_at_call 17; refine (Ybaf.stringslite_Clone s w h).mono ?_; rintro e w' ⟨rfl, hb⟩)
  go_ret
  exact ⟨rfl, hb⟩

theorem name_plain {w : World} {p j N ci n1 cn gi gn : Nat} {mv bv : Value} {q : Q4} {s : ByteArray} (h : At w p mv (.slice (some ⟨gn, 0, none⟩) n1 cn) (.slice (some ⟨gi, 0, none⟩) N ci) q bv)
    (hj : j < N) (hjn : j < n1) (hi : w.cell? ⟨gi, j, none⟩ = some (.int .i32 (-1))) (hn : w.cell? ⟨gn, j, none⟩ = some (.string s)) :
    Calls Ybaf.prog 7 #[.pointer (some ⟨p, 0, none⟩), .int .i32 j] w fun e w' => e = .returned (.string s) ∧ w = w' := by
  have h1 := h.c1
  have h2 := h.c2
  clear h
  go_enter Ybaf.func7, Ybaf.ntmps7
  go_wp2
  go_ret
  exact ⟨rfl, rfl⟩

theorem tab_on {w w1 : World} {o : Obj} (h : Tab w) (hg : ((w.alloc o).drew).grownBy w1 (Value.slice none 0 0).ownBlock) : Lib.TabBelow Ybaf.prog w.heap.size w1 powName .u64 Lib.pow10Tab := by
  have hb : Below w.heap.size w w1 := ((Below.refl _ _).alloc (Nat.le_refl _) o).drew.grown hg (by simp) (by intro k hk; simp [Value.ownBlock] at hk)
  exact (Lib.tabBelow_of_tabIs h).on hb

theorem below_app {w w1 : World} {o : Obj} (hg : ((w.alloc o).drew).grownBy w1 (Value.slice none 0 0).ownBlock) : Below w.heap.size w w1 :=
  ((Below.refl _ _).alloc (Nat.le_refl _) o).drew.grown hg (by simp) (by intro k hk; simp [Value.ownBlock] at hk)
theorem keepA {w w1 : World} {o : Obj} {p gi j : Nat} {x y : Value} (hg : ((w.alloc o).drew).grownBy w1 (Value.slice none 0 0).ownBlock) (lp : p < w.heap.size) (lg : gi < w.heap.size)
    (h2 : w.cell? ⟨p, 2, none⟩ = some x) (hi : w.cell? ⟨gi, j, none⟩ = some y) : w1.cell? ⟨p, 2, none⟩ = some x ∧ w1.cell? ⟨gi, j, none⟩ = some y :=
  ⟨((below_app hg).cell (p := ⟨p, 2, none⟩) lp).trans h2, ((below_app hg).cell (p := ⟨gi, j, none⟩) lg).trans hi⟩
theorem keepB {w w1 w2 : World} {o : Obj} {p gi j : Nat} {x y : Value} (hg : ((w.alloc o).drew).grownBy w1 (Value.slice none 0 0).ownBlock) (hb : Below w.heap.size w1 w2) (lp : p < w.heap.size) (lg : gi < w.heap.size)
    (h2 : w.cell? ⟨p, 2, none⟩ = some x) (hi : w.cell? ⟨gi, j, none⟩ = some y) : w2.cell? ⟨p, 2, none⟩ = some x ∧ w2.cell? ⟨gi, j, none⟩ = some y :=
  ⟨(((below_app hg).trans hb).cell (p := ⟨p, 2, none⟩) lp).trans h2, (((below_app hg).trans hb).cell (p := ⟨gi, j, none⟩) lg).trans hi⟩

set_option maxHeartbeats 800000 in
theorem appendName_idx {w : World} {p j N ci gi k : Nat} {mv nv bv : Value} {q : Q4} (h : At w p mv nv (.slice (some ⟨gi, 0, none⟩) N ci) q bv)
    (hj : j < N) (hk : k < 300) (hi : w.cell? ⟨gi, j, none⟩ = some (.int .i32 k)) (htab : Tab w) :
    Calls Ybaf.prog 14 #[.pointer (some ⟨p, 0, none⟩), .slice none 0 0, .int .i32 j] w fun e w' => ∃ v n, e = .returned v ∧ w'.ownsRow w.heap.size 5 1 v n (Lib.byteCells (84 :: Lib.itoa k)) ∧ Below w.heap.size w w' := by
  have h2 := h.c2
  have lp := h.lt
  have lg : gi < w.heap.size := World.block_lt_of_cell? w _ hi
  clear h
  obtain ⟨i0, hi0, hz0, hz1, hz2⟩ := info_parts info5
  have hj0 : (0 : Int) ≤ (j : Int) := Int.natCast_nonneg _
  have hj1 : (j : Int) < (N : Int) := by omega
  have hk0 : ¬ ((k : Int) < 0) := by omega
  have hk1 : (k : Int) < 300 := by omega
  have hwr : IntKind.i64.wrap (k : Int) = (k : Int) := by rw [IntKind.wrap_i64]; omega
  have HT := hid htab
  clear htab
  go_enter Ybaf.func14, Ybaf.ntmps14
  go_wp2_with fail
  go_region_held3 (fun w' => w'.cell? ⟨p, 2, none⟩ = some (.slice (some ⟨gi, 0, none⟩) N ci) ∧ w'.cell? ⟨gi, j, none⟩ = some (.int .i32 k))
    (first | go_keep | exact keepA hgrow lp lg h2 hi | exact keepB hgrow hbel2 lp lg h2 hi)
    (first | (refine step_append_lies _ (by rfl) _ _ _ (by rfl) w.heap.size 5 i0 _ 1 1 Ybaf.underlying48 hi0 hz0 hz1 hz2 rfl (by omega) (.slice none 0 0) 0 [] (by rfl) (World.ownsRow_nil _ _ _ _) ⟨w.heap.size, 0, none⟩ 1 1 [.int .u8 84] (by rfl) (by rfl) (World.news_of_block (cs := #[.int .u8 84]) (t := 5) (fr := (0, 0)) (heap_alloc_new w _)) (by simp [Value.oneCell']) (by omega) (by unfold maxLen; omega) (by omega) (by simp) (w.heap.size + 1) (by simp) ?_; intro gg cap w1 hown1 hgrow hat hlt) | (go_at_call 19; refine (Ybaf.strconv_AppendInt_10 w.heap.size 1 (k : Int) (by omega) (by omega) _ _ w1 hown1 (by have := hgrow.size; simp at this; omega) (by omega) (tab_on HT.out hgrow)).mono ?_; rintro e w2 ⟨v2, rfl, hown2, hbel2, _⟩))
  go_wp2
  go_ret
  exact ⟨v2, _, rfl, hown2, (below_app hgrow).trans hbel2⟩

theorem convert_own {w : World} {base n : Nat} {v : Value} {l : List UInt8} (h : w.ownsRow base 5 1 v n (Lib.byteCells l)) :
    (convert 48 9 v).run Ybaf.prog w = .ok (.string ⟨l.toArray⟩) w := by
  have hl : l.length = n := by have := h.1; simpa [Lib.byteCells] using this
  rcases h.2 with ⟨rfl, h0⟩ | ⟨g, cap, cur, rfl, _, hg, _, _, _, htake⟩
  · have : l = [] := by cases l <;> simp_all
    subst this
    exact Lib.run_convert_nil_bytes w 48 9 5 0 Ybaf.underlying48 Ybaf.underlying5 Ybaf.underlying9
  · subst hl
    exact run_convert_bytes_back w 48 9 5 ⟨g, 0, none⟩ cap l Ybaf.underlying48 Ybaf.underlying5 Ybaf.underlying9 (Lib.bytes_of_row hg (by simpa using htake))

theorem name_idx {w : World} {p j N ci gi k : Nat} {mv nv bv : Value} {q : Q4} (h : At w p mv nv (.slice (some ⟨gi, 0, none⟩) N ci) q bv)
    (hj : j < N) (hk : k < 300) (hi : w.cell? ⟨gi, j, none⟩ = some (.int .i32 k)) (htab : Tab w) :
    Calls Ybaf.prog 7 #[.pointer (some ⟨p, 0, none⟩), .int .i32 j] w fun e w' => e = .returned (.string (tname k)) ∧ Below w.heap.size w w' := by
  have h2 := h.c2
  have HA := hid h
  have hk0 : ¬ ((k : Int) < 0) := by omega
  clear h
  go_enter Ybaf.func7, Ybaf.ntmps7
  go_wp2_with fail
  refine (appendName_idx HA.out hj hk hi htab).mono ?_
  rintro e w1 ⟨v, n, rfl, hown, hbel⟩
  have hc := convert_own hown
  go_wp2
  go_ret
  exact ⟨rfl, hbel⟩
end Go.Proofs.YbulkatkuFmt.Nm
