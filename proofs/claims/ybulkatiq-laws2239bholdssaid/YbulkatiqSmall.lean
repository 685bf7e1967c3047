/-
  The small closures: combine's two operations, mergeColumns' equality; Clone.
-/
import Derived.Test.YbulkatiqMerge
namespace Go.Proofs.Ybulkatiq
open Go.ChangeShapes Go.WideShapes Go.ChangeAt Go.RowKit Go.Maps Go.WideMaps

theorem andBs : ((List.range 4).all fun u => (List.range 4).all fun v => bits .and .u8 (u : Int) (v : Int) == ((u &&& v : Nat) : Int)) = true := by kernel_rfl
theorem orBs : ((List.range 4).all fun u => (List.range 4).all fun v => bits .or .u8 (u : Int) (v : Int) == ((u ||| v : Nat) : Int)) = true := by kernel_rfl
theorem andB {u v : Nat} (hu : u < 4) (hv : v < 4) : bits .and .u8 (u : Int) (v : Int) = ((u &&& v : Nat) : Int) := by
  have := List.all_eq_true.1 (List.all_eq_true.1 andBs u (List.mem_range.2 hu)) v (List.mem_range.2 hv)
  simpa using this
theorem orB {u v : Nat} (hu : u < 4) (hv : v < 4) : bits .or .u8 (u : Int) (v : Int) = ((u ||| v : Nat) : Int) := by
  have := List.all_eq_true.1 (List.all_eq_true.1 orBs u (List.mem_range.2 hu)) v (List.mem_range.2 hv)
  simpa using this

set_option maxRecDepth 100000 in
theorem and22 {u v : Nat} (hu : u < 4) (hv : v < 4) (w : World) : Calls Yba.prog 22 #[.int .u8 u, .int .u8 v] w fun e w' => e = .returned (.int .u8 (u &&& v : Nat)) ∧ w = w' := by
  have h := andB hu hv
  generalize (u &&& v) = r at *
  go_enter Yba.func22, Yba.ntmps22
  go_wp2
  go_ret
  exact ⟨rfl, rfl⟩

set_option maxRecDepth 100000 in
theorem or23 {u v : Nat} (hu : u < 4) (hv : v < 4) (w : World) : Calls Yba.prog 23 #[.int .u8 u, .int .u8 v] w fun e w' => e = .returned (.int .u8 (u ||| v : Nat)) ∧ w = w' := by
  have h := orB hu hv
  generalize (u ||| v) = r at *
  go_enter Yba.func23, Yba.ntmps23
  go_wp2
  go_ret
  exact ⟨rfl, rfl⟩

set_option maxRecDepth 100000 in
theorem same43 (a b : Nat × Nat) (w : World) : Calls Yba.prog 43 #[.agg #[.int .i32 (a.1 : Nat), .int .u8 (a.2 : Nat)], .agg #[.int .i32 (b.1 : Nat), .int .u8 (b.2 : Nat)]] w fun e w' => e = .returned (.bool (a.1 == b.1)) ∧ w' = (w.alloc (.cells #[.int .i32 (a.1 : Nat), .int .u8 (a.2 : Nat)] 55)).alloc (.cells #[.int .i32 (b.1 : Nat), .int .u8 (b.2 : Nat)] 55) := by
  have h : ((a.1 : Int) == (b.1 : Int)) = (a.1 == b.1) := by
    rw [Bool.eq_iff_iff]
    simp
    omega
  generalize (a.1 == b.1) = r at *
  go_enter Yba.func43, Yba.ntmps43
  go_wp2
  go_ret
  exact ⟨rfl, rfl⟩

def ints (l : List Nat) : List Value := l.map fun x => .int .i32 (x : Nat)

/-- What Clone leaves: the same numbers in a new row. -/
def ClonePost (w : World) (l : List Nat) (e : Ending) (w' : World) : Prop :=
  ∃ v, e = .returned v ∧ w'.ownsRow w.heap.size 21 1 v l.length (ints l) ∧ Below w.heap.size w w'

set_option maxRecDepth 100000 in
set_option maxHeartbeats 1600000 in
theorem clone40 {w : World} {b cap : Nat} {l : List Nat} (h : ∀ i x, l[i]? = some x → w.cell? ⟨b, i, none⟩ = some (.int .i32 (x : Nat))) (hpos : 0 < l.length) (hn : l.length ≤ 1024) :
    Calls Yba.prog 40 #[.slice (some ⟨b, 0, none⟩) l.length cap] w (ClonePost w l) := by
  obtain ⟨i0, hi0, hz0, hz1, hz2⟩ := info_parts info21
  have HC := hid h
  clear h
  have hown : (w.alloc (.cells #[] 21)).ownsRow w.heap.size 21 1 (.slice (some ⟨w.heap.size, 0, none⟩) 0 0) 0 [] :=
    ⟨rfl, .inr ⟨w.heap.size, 0, #[], rfl, Nat.le_refl _, heap_new w _, Nat.le_refl _, Nat.zero_le _, rfl, rfl⟩⟩
  have HO := hid hown
  clear hown
  have hnil : (binOp .eql 70 (.slice (some ⟨b, 0, none⟩) l.length cap) (.slice none 0 0)).run Yba.prog w = .ok (.bool false) w := by simpa using Go.Lib.run_eql_slice_nil w 70 21 (some ⟨b, 0, none⟩) l.length cap 0 0 Yba.underlying70
  go_enter Yba.func40, Yba.ntmps40
  go_wp2_with (at_builtin; refine wpList_append_own_at _ rfl _ _ 70 rfl w.heap.size 21 i0 (.int .i32 0) 1 4 Yba.underlying70 hi0 hz0 hz1 hz2 rfl (by decide) (.slice (some ⟨w.heap.size, 0, none⟩) 0 0) 0 [] rfl HO.out ⟨b, 0, none⟩ l.length cap (ints l) rfl ?d0 ?d1 ?d2 ?d3 ?d4 ?d5 ?_)
  case d0 => simp [ints]
  case d1 =>
    intro j u hu
    simp [ints] at hu
    obtain ⟨x, hx, rfl⟩ := hu
    rw [add_plain, Nat.zero_add]
    have := HC.out j x hx
    exact (((Below.refl w.heap.size w).alloc (Nat.le_refl _) _).cell (block_lt_of_cell this)).trans this
  case d2 =>
    intro u hu
    simp [ints] at hu
    obtain ⟨x, _, rfl⟩ := hu
    rfl
  case d3 => unfold maxLen; omega
  case d4 => omega
  case d5 => simp
  intro v' w' hrow hgr _ _
  have HR := hid (show w'.ownsRow w.heap.size 21 1 v' l.length (ints l) from by simpa using hrow)
  have HB := hid (show Below w.heap.size w w' from ((Below.refl w.heap.size w).alloc (Nat.le_refl _) _).grown hgr (by simp) (fun k hk => by simp [Value.ownBlock] at hk; omega))
  clear hrow hgr
  go_wp2_with fail
  go_ret
  exact ⟨v', rfl, HR.out, HB.out⟩
end Go.Proofs.Ybulkatiq
