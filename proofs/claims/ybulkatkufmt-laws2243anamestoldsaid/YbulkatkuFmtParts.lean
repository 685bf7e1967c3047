/-
  The memory of a 'names' and what it holds.
-/
import Derived.Test.YbulkatkuFmtRows
import Derived.Test.YbulkatkuFmtShelf
import Derived.WalkKit
import Derived.ProofKit
import Derived.OpenShut
import Derived.ShutString
import Derived.WalkSpells
import Derived.WalkLawsBesides
import Derived.Maps.OwnSet
import Derived.Maps.AppendAt
import Derived.Deep.AppendLies
import Derived.Deep.RegionHeld3
import Derived.Lib.AppendZerosOnto
import Derived.BigQuiet
import Derived.Deep.QuietTactic
namespace Go.Proofs.YbulkatkuFmt.Nm
open Go.ChangeShapes Go.WideShapes Go.ChangeAt Go.RowKit Go.Maps

theorem hid {p : Prop} (h : p) : Hid p := h

structure Q4 where
  s0 : ByteArray
  n0 : Int
  s1 : ByteArray
  n1 : Int
  s2 : ByteArray
  n2 : Int
  s3 : ByteArray
  n3 : Int

def blk (mv nv iv : Value) (q : Q4) (bv : Value) : Array Value :=
  #[mv, nv, iv, .string q.s0, .int .i32 q.n0, .string q.s1, .int .i32 q.n1, .string q.s2, .int .i32 q.n2, .string q.s3, .int .i32 q.n3, bv]

/-- Block p holds the struct. -/
def At (w : World) (p : Nat) (mv nv iv : Value) (q : Q4) (bv : Value) : Prop := w.heap[p]? = some (.cells (blk mv nv iv q bv) 31 (0, 0))

section
variable {w : World} {p : Nat} {mv nv iv bv : Value} {q : Q4}
theorem At.c0 (h : At w p mv nv iv q bv) : w.cell? ⟨p, 0, none⟩ = some mv := by unfold At at h; simp [World.cell?, h, blk]
theorem At.c1 (h : At w p mv nv iv q bv) : w.cell? ⟨p, 1, none⟩ = some nv := by unfold At at h; simp [World.cell?, h, blk]
theorem At.c2 (h : At w p mv nv iv q bv) : w.cell? ⟨p, 2, none⟩ = some iv := by unfold At at h; simp [World.cell?, h, blk]
theorem At.c3 (h : At w p mv nv iv q bv) : w.cell? ⟨p, 3, none⟩ = some (.string q.s0) := by unfold At at h; simp [World.cell?, h, blk]
theorem At.c4 (h : At w p mv nv iv q bv) : w.cell? ⟨p, 4, none⟩ = some (.int .i32 q.n0) := by unfold At at h; simp [World.cell?, h, blk]
theorem At.c5 (h : At w p mv nv iv q bv) : w.cell? ⟨p, 5, none⟩ = some (.string q.s1) := by unfold At at h; simp [World.cell?, h, blk]
theorem At.c6 (h : At w p mv nv iv q bv) : w.cell? ⟨p, 6, none⟩ = some (.int .i32 q.n1) := by unfold At at h; simp [World.cell?, h, blk]
theorem At.c7 (h : At w p mv nv iv q bv) : w.cell? ⟨p, 7, none⟩ = some (.string q.s2) := by unfold At at h; simp [World.cell?, h, blk]
theorem At.c8 (h : At w p mv nv iv q bv) : w.cell? ⟨p, 8, none⟩ = some (.int .i32 q.n2) := by unfold At at h; simp [World.cell?, h, blk]
theorem At.c9 (h : At w p mv nv iv q bv) : w.cell? ⟨p, 9, none⟩ = some (.string q.s3) := by unfold At at h; simp [World.cell?, h, blk]
theorem At.c10 (h : At w p mv nv iv q bv) : w.cell? ⟨p, 10, none⟩ = some (.int .i32 q.n3) := by unfold At at h; simp [World.cell?, h, blk]
theorem At.c11 (h : At w p mv nv iv q bv) : w.cell? ⟨p, 11, none⟩ = some bv := by unfold At at h; simp [World.cell?, h, blk]
theorem At.fz (h : At w p mv nv iv q bv) (o : Nat) : w.frozen? ⟨p, o, none⟩ = false := by unfold At at h; simp [World.frozen?, h]
theorem At.lt (h : At w p mv nv iv q bv) : p < w.heap.size := lt_of_block h
theorem At.kept {w' : World} {row : Option Nat} (h : At w p mv nv iv q bv) (hg : w.grownBy w' row) (hne : some p ≠ row) : At w' p mv nv iv q bv := (hg.block p h.lt hne).trans h
theorem At.set {o : Nat} {v : Value} {mv' nv' iv' bv' : Value} {q' : Q4} (h : At w p mv nv iv q bv) (he : (blk mv nv iv q bv).setIfInBounds o v = blk mv' nv' iv' q' bv') : At (w.setCell ⟨p, o, none⟩ v) p mv' nv' iv' q' bv' := by
  have := heap_setCell_same w p o _ 31 v h
  rw [he] at this
  exact this
end

/-! ### len -/
theorem len_any {w : World} {p n c : Nat} {a : Option Addr} {mv nv bv : Value} {q : Q4} (h : At w p mv nv (.slice a n c) q bv) :
    Calls Ybaf.prog 8 #[.pointer (some ⟨p, 0, none⟩)] w fun e w' => e = .returned (.int .i64 n) ∧ w = w' := by
  have h2 := h.c2
  go_enter Ybaf.func8, Ybaf.ntmps8
  go_wp2
  go_ret
  exact ⟨rfl, rfl⟩
end Go.Proofs.YbulkatkuFmt.Nm
