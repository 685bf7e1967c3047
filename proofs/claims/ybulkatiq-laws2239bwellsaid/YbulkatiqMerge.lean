/-
  The comparison that mergeRows hands to numberAlike.
-/
import Derived.Test.YbulkatiqCmpF
set_option linter.unusedVariables false
set_option linter.unusedSimpArgs false
namespace Go.Proofs.Ybulkatiq
open Go.ChangeShapes Go.WideShapes Go.ChangeAt Go.RowKit Go.Maps Go.WideMaps

/-- How two rows compare. -/
def cmpRow (r s : Nat × List (Nat × Nat)) : Int := orI (cmpI r.1 s.1) (cmpL r.2 s.2)

theorem new2_0' (w : World) (a b : Value) (t : TypeId) : (w.alloc (.cells #[a, b] t)).cell? ⟨w.heap.size, 0, none⟩ = some a := by
  unfold World.cell?
  rw [heap_new]
  rfl
theorem new2_1' (w : World) (a b : Value) (t : TypeId) : (w.alloc (.cells #[a, b] t)).cell? ⟨w.heap.size, 1, none⟩ = some b := by
  unfold World.cell?
  rw [heap_new]
  rfl

theorem keep35 {W0 W : World} {bx p rb ro n0 n1 rc k l : Nat} {rows : List (Nat × List (Nat × Nat))} {r s : Nat × List (Nat × Nat)} {vr vs : Value} (hbx : W0.cell? ⟨bx, 0, none⟩ = some (.pointer (some ⟨p, 0, none⟩))) (h4 : W0.cell? ⟨p, 4, none⟩ = some (.slice (some ⟨rb, ro, none⟩) n0 rc))
    (r0 : W0.cell? ⟨rb, ro + k * 2, none⟩ = some (.int .u8 (r.1 : Nat))) (r1 : W0.cell? ⟨rb, ro + k * 2 + 1, none⟩ = some vr) (s0 : W0.cell? ⟨rb, ro + l * 2, none⟩ = some (.int .u8 (s.1 : Nat))) (s1 : W0.cell? ⟨rb, ro + l * 2 + 1, none⟩ = some vs) (h : Below W0.heap.size W0 W) :
    W.cell? ⟨bx, 0, none⟩ = some (.pointer (some ⟨p, 0, none⟩)) ∧ W.cell? ⟨p, 4, none⟩ = some (.slice (some ⟨rb, ro, none⟩) n0 rc) ∧ W.cell? ⟨rb, ro + k * 2, none⟩ = some (.int .u8 (r.1 : Nat)) ∧ W.cell? ⟨rb, ro + k * 2 + 1, none⟩ = some vr ∧ W.cell? ⟨rb, ro + l * 2, none⟩ = some (.int .u8 (s.1 : Nat)) ∧ W.cell? ⟨rb, ro + l * 2 + 1, none⟩ = some vs ∧ Below W0.heap.size W0 W :=
  ⟨(h.cell (block_lt_of_cell hbx)).trans hbx, (h.cell (block_lt_of_cell h4)).trans h4, (h.cell (block_lt_of_cell r0)).trans r0, (h.cell (block_lt_of_cell r1)).trans r1, (h.cell (block_lt_of_cell s0)).trans s0, (h.cell (block_lt_of_cell s1)).trans s1, h⟩

set_option maxRecDepth 100000 in
set_option maxHeartbeats 3200000 in
theorem cmp35 {W0 : World} {bx p rb ro n0 n1 rc : Nat} {rows : List (Nat × List (Nat × Nat))} (hbx : W0.cell? ⟨bx, 0, none⟩ = some (.pointer (some ⟨p, 0, none⟩))) (h4 : W0.cell? ⟨p, 4, none⟩ = some (.slice (some ⟨rb, ro, none⟩) n0 rc))
    (hl : rows.length = n0) (hr : RowsAt W0 rb ro n1 rows) (hn1 : n1 ≤ 1024) {k l : Nat} (hk : k < n0) (hll : l < n0) (hn0 : n0 ≤ 1024) :
    Calls Yba.prog 35 #[.int .i32 k, .int .i32 l, .pointer (some ⟨bx, 0, none⟩)] W0 fun e W' => e = .returned (.int .i64 (cmpRow (rows.getD k (0, [])) (rows.getD l (0, [])))) ∧ Below W0.heap.size W0 W' := by
  have hrk : rows[k]? = some (rows.getD k (0, [])) := by simp [List.getD, show k < rows.length by omega]
  have hrl : rows[l]? = some (rows.getD l (0, [])) := by simp [List.getD, show l < rows.length by omega]
  obtain ⟨ok1, r0, vr, r1, d1⟩ := hr k _ hrk
  obtain ⟨ok2, s0, vs, s1, d2⟩ := hr l _ hrl
  generalize rows.getD k (0, []) = r at *
  generalize rows.getD l (0, []) = s at *
  have e1 := ok1.len
  have e2 := ok2.len
  have KP := hid (fun W (h : Below W0.heap.size W0 W) => keep35 (rows := rows) (n1 := n1) hbx h4 r0 r1 s0 s1 h)
  have HD1 := hid d1
  have HD2 := hid d2
  have t1 : (k : Int) < (n0 : Int) := by omega
  have t2 : (l : Int) < (n0 : Int) := by omega
  have hb0 := Below.refl W0.heap.size W0
  unfold cmpRow
  clear hbx h4 hr hrk hrl ok1 ok2 r0 r1 s0 s1 d1 d2
  go_enter Yba.func35, Yba.ntmps35
  go_upto_region 1 with fail
  go_region_held3 (fun W => W.cell? ⟨bx, 0, none⟩ = some (.pointer (some ⟨p, 0, none⟩)) ∧ W.cell? ⟨p, 4, none⟩ = some (.slice (some ⟨rb, ro, none⟩) n0 rc) ∧ W.cell? ⟨rb, ro + k * 2, none⟩ = some (.int .u8 (r.1 : Nat)) ∧ W.cell? ⟨rb, ro + k * 2 + 1, none⟩ = some vr ∧ W.cell? ⟨rb, ro + l * 2, none⟩ = some (.int .u8 (s.1 : Nat)) ∧ W.cell? ⟨rb, ro + l * 2 + 1, none⟩ = some vs ∧ Below W0.heap.size W0 W)
    (first | exact KP.out _ (Below.drew (by assumption)) | exact KP.out _ (by assumption) | exact KP.out _ (Below.alloc (by assumption) (Below.size (by assumption)) _) | exact KP.out _ (Below.drew (Below.alloc (by assumption) (Below.size (by assumption)) _)))
    (first
      | (go_at_call 37; refine (compare37 _ _ _).mono ?_; rintro e w' ⟨rfl, rfl⟩)
      | (go_at_call 38; refine (compare38 (HD1.out.below (Below.drew hb0)) (HD2.out.below (Below.drew hb0)) (by omega) (by omega)).mono ?_; rintro e w' ⟨rfl, hb⟩; have hbn : Below W0.heap.size W0 w' := (Below.drew hb0).trans (below_le hb (Nat.le_refl _)))
      | (go_at_call 36; refine (or36 (new2_0' _ _ _ _) (new2_1' _ _ _ _)).mono ?_; rintro e w' ⟨rfl, rfl⟩))
  go_wp2_with fail
  go_ret
  exact ⟨rfl, Below.alloc (by assumption) (Below.size (by assumption)) _⟩

theorem cmpOk35 {w0 : World} {bx p rb ro n0 n1 rc : Nat} {rows : List (Nat × List (Nat × Nat))} (hbx : w0.cell? ⟨bx, 0, none⟩ = some (.pointer (some ⟨p, 0, none⟩))) (h4 : w0.cell? ⟨p, 4, none⟩ = some (.slice (some ⟨rb, ro, none⟩) n0 rc))
    (hl : rows.length = n0) (hr : RowsAt w0 rb ro n1 rows) (hn1 : n1 ≤ 1024) (hn0 : n0 ≤ 1024) : CmpOk w0 35 #[.pointer (some ⟨bx, 0, none⟩)] n0 (fun k l => cmpRow (rows.getD k (0, [])) (rows.getD l (0, []))) :=
  fun _ _ _ hb hk hll => cmp35 ((hb.cell (block_lt_of_cell hbx)).trans hbx) ((hb.cell (block_lt_of_cell h4)).trans h4) hl (hr.below hb) hn1 hk hll hn0
end Go.Proofs.Ybulkatiq
