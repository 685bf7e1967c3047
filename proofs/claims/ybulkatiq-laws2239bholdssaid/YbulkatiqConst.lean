/-
  constant, zzs2239bval, cmp.Or, compareCells.
-/
import Derived.Test.YbulkatiqRel
namespace Go.Proofs.Ybulkatiq
open Go.ChangeShapes Go.WideShapes Go.ChangeAt Go.RowKit Go.Maps Go.WideMaps

def valB (i : Nat) : ByteArray := ⟨#[(97 + i).toUInt8]⟩

theorem valB_size (i : Nat) : (valB i).size = 1 := rfl

set_option maxRecDepth 100000 in
theorem val12 (i : Nat) (hi : i < 5) (w : World) : Calls Yba.prog 12 #[.int .i64 i] w fun e w' => e = .returned (.string (valB i)) ∧ w = w' := by
  match i, hi with
  | 0, _ | 1, _ | 2, _ | 3, _ | 4, _ =>
    go_enter Yba.func12, Yba.ntmps12
    go_wp2
    go_ret
    exact ⟨rfl, rfl⟩

/-- len(m) of a map of exceptions. -/
theorem ExcAt.len {w : World} {v : Value} {B : Nat} {exc : ByteArray → ByteArray → Option Bool} (h : ExcAt w v B exc) :
    ∃ n : Nat, (∀ ty, (Builtin.len_ #[48] ty #[v]).run Yba.prog w = .ok (.int .i64 n) w) ∧ (n = 0 → ∀ x y, exc x y = none) := by
  rcases h with ⟨rfl, h0⟩ | ⟨b, N, D, rfl, ho, hN, hd⟩
  · exact ⟨0, fun ty => Maps.len_nil Yba.underlying48 ty, fun _ => h0⟩
  · refine ⟨Maps.size D, fun ty => ho.len Yba.underlying48 ty, fun h x y => ?_⟩
    obtain ⟨es, rfl⟩ := ho.isMap
    have : es = [] := List.eq_nil_of_length_eq_zero h
    subst this
    rw [hd]
    rfl

/-- What 'constant' says. -/
def ConstPost (R : Rel) (w : World) (e : Ending) (w' : World) : Prop :=
  ∃ i o : Bool, e = .returned (.tuple #[.bool i, .bool o]) ∧ (o = true → (∃ c, R.rows = [(c, [])] ∧ (c = if i then 3 else 0)) ∧ ∀ x y, R.exc x y = none) ∧ w = w'

set_option maxRecDepth 100000 in
set_option maxHeartbeats 1600000 in
theorem constant21 {w : World} {p : Nat} {R : Rel} (h : RelAt w p R) (hpos : 0 < R.n0) : Calls Yba.prog 21 #[.pointer (some ⟨p, 0, none⟩)] w (ConstPost R w) := by
  have c4 := h.c4
  have c5 := h.c5
  have hlen := h.len
  obtain ⟨r, hr⟩ : ∃ r, R.rows[0]? = some r := ⟨R.rows[0]'(by omega), by simp [show 0 < R.rows.length by omega]⟩
  obtain ⟨hro, hr0, v, hr1, a, cap, rfl, _, _⟩ := h.rows 0 r hr
  obtain ⟨n, hn, hz⟩ := h.se.len
  obtain ⟨rc, rl⟩ := r
  simp only at hr0 hr1 hro
  simp only [Nat.zero_mul, Nat.add_zero] at hr0 hr1
  have HZ := hid hz
  have HR := hid hr
  have HRO := hid hro
  clear h hz hr hro
  have hno : ∀ i, ConstPost R w (.returned (.tuple #[.bool i, .bool false])) w := fun i => ⟨i, false, rfl, (fun h => by cases h), rfl⟩
  have HNO := hid hno
  clear hno
  go_enter Yba.func21, Yba.ntmps21
  by_cases h1 : R.n0 = 1
  · have t1 : ((R.n0 : Int) != 1) = false := by simp; omega
    have t0 : (0 : Int) < (R.n0 : Int) := by omega
    by_cases h2 : rl = []
    · subst h2
      by_cases h3 : n = 0
      · have t3 : ¬ (0 : Int) < (n : Int) := by omega
        have HX := hid (show R.rows = [(rc, [])] ∧ ∀ x y, R.exc x y = none from ⟨by
          have h4 : R.rows.length = 1 := by omega
          match hh : R.rows, h4 with
          | [q], _ => have := HR.out; rw [hh] at this; simp at this; rw [this], HZ.out h3⟩)
        clear h1 h3 hlen
        have hc := HRO.out.cell
        cases g1 : ((rc : Int) == 0)
        · cases g2 : ((rc : Int) == 3)
          · go_wp2_with fail
            go_ret2
            exact HNO.out _
          · go_wp2_with fail
            go_ret2
            exact ⟨true, true, rfl, (fun _ => ⟨⟨rc, HX.out.1, by have := beq_iff_eq.1 g2; simp; omega⟩, HX.out.2⟩), rfl⟩
        · go_wp2_with fail
          go_ret2
          exact ⟨false, true, rfl, (fun _ => ⟨⟨rc, HX.out.1, by have := beq_iff_eq.1 g1; simp; omega⟩, HX.out.2⟩), rfl⟩
      · have t3 : (0 : Int) < (n : Int) := by omega
        go_wp2_with fail
        go_ret2
        exact HNO.out _
    · have t2' : 0 < rl.length := List.length_pos_iff.2 h2
      have t2 : (0 : Int) < (rl.length : Int) := by omega
      go_wp2_with fail
      go_ret2
      exact HNO.out _
  · have t1 : ((R.n0 : Int) != 1) = true := by simp; omega
    go_wp2_with fail
    go_ret2
    exact HNO.out _

def orI (p q : Int) : Int := if p = 0 then q else p

set_option maxRecDepth 100000 in
theorem or36 {w : World} {b c : Nat} {p q : Int} (h0 : w.cell? ⟨b, 0, none⟩ = some (.int .i64 p)) (h1 : w.cell? ⟨b, 1, none⟩ = some (.int .i64 q)) :
    Calls Yba.prog 36 #[.slice (some ⟨b, 0, none⟩) 2 c] w fun e w' => e = .returned (.int .i64 (orI p q)) ∧ w = w' := by
  unfold orI
  by_cases hp : p = 0
  · have g1 : (p != 0) = false := by simp [hp]
    rw [if_pos hp]
    clear hp
    cases g2 : (q != 0)
    · have HQ := hid (show q = 0 by simpa using g2)
      go_enter Yba.func36, Yba.ntmps36
      go_wp2_with fail
      refine wp_loop_rounds 3 ?_
      rw [rounds_succ]
      go_wp2_with fail
      rw [rounds_succ]
      go_wp2_with fail
      rw [rounds_succ]
      go_wp2_with fail
      go_ret
      exact ⟨by rw [HQ.out]; rfl, rfl⟩
    · go_enter Yba.func36, Yba.ntmps36
      go_wp2_with fail
      refine wp_loop_rounds 3 ?_
      rw [rounds_succ]
      go_wp2_with fail
      rw [rounds_succ]
      go_wp2_with fail
      go_ret
      exact ⟨rfl, rfl⟩
  · have g1 : (p != 0) = true := by simp [hp]
    rw [if_neg hp]
    go_enter Yba.func36, Yba.ntmps36
    go_wp2_with fail
    refine wp_loop_rounds 3 ?_
    rw [rounds_succ]
    go_wp2_with fail
    go_ret
    exact ⟨rfl, rfl⟩

def cmpC (a b : Nat × Nat) : Int := orI (cmpI a.1 b.1) (cmpI a.2 b.2)

theorem new2_0 (w : World) (a b : Value) (t : TypeId) : (w.alloc (.cells #[a, b] t)).drew.cell? ⟨w.heap.size, 0, none⟩ = some a := by
  show (w.alloc (.cells #[a, b] t)).cell? _ = _
  unfold World.cell?
  rw [heap_new]
  rfl
theorem new2_1 (w : World) (a b : Value) (t : TypeId) : (w.alloc (.cells #[a, b] t)).drew.cell? ⟨w.heap.size, 1, none⟩ = some b := by
  show (w.alloc (.cells #[a, b] t)).cell? _ = _
  unfold World.cell?
  rw [heap_new]
  rfl

theorem keep33 {W0 W : World} {A B : Nat} {a b : Nat × Nat} (ha : W0.heap[A]? = some (.cells #[.int .i32 (a.1 : Nat), .int .u8 (a.2 : Nat)] 55 (0, 0))) (hb : W0.heap[B]? = some (.cells #[.int .i32 (b.1 : Nat), .int .u8 (b.2 : Nat)] 55 (0, 0))) (h : Below W0.heap.size W0 W) :
    W.cell? ⟨A, 0, none⟩ = some (.int .i32 (a.1 : Nat)) ∧ W.cell? ⟨A, 1, none⟩ = some (.int .u8 (a.2 : Nat)) ∧ W.cell? ⟨B, 0, none⟩ = some (.int .i32 (b.1 : Nat)) ∧ W.cell? ⟨B, 1, none⟩ = some (.int .u8 (b.2 : Nat)) ∧ Below W0.heap.size W0 W := by
  have ha' := (h.block A (lt_of_block ha)).trans ha
  have hb' := (h.block B (lt_of_block hb)).trans hb
  exact ⟨by simp [World.cell?, ha'], by simp [World.cell?, ha'], by simp [World.cell?, hb'], by simp [World.cell?, hb'], h⟩

set_option maxRecDepth 100000 in
set_option maxHeartbeats 1600000 in
theorem cells33 (a b : Nat × Nat) (w : World) : Calls Yba.prog 33 #[.agg #[.int .i32 (a.1 : Nat), .int .u8 (a.2 : Nat)], .agg #[.int .i32 (b.1 : Nat), .int .u8 (b.2 : Nat)]] w fun e w' => e = .returned (.int .i64 (cmpC a b)) ∧ w' = (((w.alloc (.cells #[.int .i32 (a.1 : Nat), .int .u8 (a.2 : Nat)] 55)).alloc (.cells #[.int .i32 (b.1 : Nat), .int .u8 (b.2 : Nat)] 55)).alloc (.cells #[.int .i64 (cmpI a.1 b.1), .int .i64 (cmpI a.2 b.2)] 3)).drew := by
  have ha := heap_old (o := .cells #[.int .i32 (b.1 : Nat), .int .u8 (b.2 : Nat)] 55) (heap_new w (.cells #[.int .i32 (a.1 : Nat), .int .u8 (a.2 : Nat)] 55))
  have hb := heap_new (w.alloc (.cells #[.int .i32 (a.1 : Nat), .int .u8 (a.2 : Nat)] 55)) (.cells #[.int .i32 (b.1 : Nat), .int .u8 (b.2 : Nat)] 55)
  rw [show (w.alloc (.cells #[.int .i32 (a.1 : Nat), .int .u8 (a.2 : Nat)] 55)).heap.size = w.heap.size + 1 by simp] at hb
  go_enter Yba.func33, Yba.ntmps33
  go_upto_region 1 with fail
  generalize hW : (w.alloc (.cells #[.int .i32 (a.1 : Nat), .int .u8 (a.2 : Nat)] 55)).alloc (.cells #[.int .i32 (b.1 : Nat), .int .u8 (b.2 : Nat)] 55) = W0 at ha hb ⊢
  have HW0 := hid hW
  clear hW
  have KP := hid (fun W (h : Below W0.heap.size W0 W) => keep33 ha hb h)
  have hb0 := Below.refl W0.heap.size W0
  clear ha hb
  go_region_held3 (fun W => W.cell? ⟨w.heap.size, 0, none⟩ = some (.int .i32 (a.1 : Nat)) ∧ W.cell? ⟨w.heap.size, 1, none⟩ = some (.int .u8 (a.2 : Nat)) ∧ W.cell? ⟨w.heap.size + 1, 0, none⟩ = some (.int .i32 (b.1 : Nat)) ∧ W.cell? ⟨w.heap.size + 1, 1, none⟩ = some (.int .u8 (b.2 : Nat)) ∧ Below W0.heap.size W0 W)
    (first | exact KP.out _ (Below.drew (by assumption)) | exact KP.out _ (by assumption) | exact KP.out _ (Below.alloc (by assumption) (Below.size (by assumption)) _) | exact KP.out _ (Below.drew (Below.alloc (by assumption) (Below.size (by assumption)) _)))
    (first
      | (go_at_call 46; refine (compare46 _ _ _).mono ?_; rintro e w' ⟨rfl, rfl⟩)
      | (go_at_call 37; refine (compare37 _ _ _).mono ?_; rintro e w' ⟨rfl, rfl⟩)
      | (go_at_call 36; refine (or36 (new2_0 _ _ _ _) (new2_1 _ _ _ _)).mono ?_; rintro e w' ⟨rfl, rfl⟩))
  go_wp2_with fail
  go_ret
  exact ⟨rfl, by rw [HW0.out]⟩
end Go.Proofs.Ybulkatiq
