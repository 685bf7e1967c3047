/-
  A relation in memory; byClasses and Holds.
-/
import Derived.Test.YbulkatiqSettled
import Derived.Maps.OwnSet
import Derived.Maps.OwnOps
import Derived.Deep.RegionHeld3
import Derived.WideKeyPair
import Derived.DeepKeys4
namespace Go.Proofs.Ybulkatiq
open Go.ChangeShapes Go.WideShapes Go.ChangeAt Go.RowKit Go.Maps Go.WideMaps

theorem klaw : Keyed Yba.prog 9 := string_keyed Yba.underlying9
theorem zero21 (w : World) : (zeroValue 21).run Yba.prog w = .ok (.int .i32 0) w := by kernel_rfl

/-- A partition's map: nil, or a map of the program's own; it puts each string in a class below n. -/
structure ClsB (B : Nat) (w : World) (v : Value) (n : Nat) (of : ByteArray → Nat) : Prop where
  lt : ∀ s, of s < n
  shape : (v = .map none ∧ (∀ s, of s = 0) ∧ n ≤ 1) ∨ ∃ b N D, v = .map (some b) ∧ w.ownsMap Yba.prog 9 (plainElem (H := Unit) Yba.prog 21) b N D ∧ N ≤ B ∧ ∀ s : ByteArray, D.atKey (.string s.data.toList) (.lit (.int .i32 0)) = .lit (.int .i32 (of s))

abbrev ClsAt (w : World) (v : Value) (n : Nat) (of : ByteArray → Nat) : Prop := ClsB 4 w v n of

theorem ClsB.below {B : Nat} {w w' : World} {v : Value} {n : Nat} {of : ByteArray → Nat} (h : ClsB B w v n of) (hb : Below w.heap.size w w') : ClsB B w' v n of := by
  refine ⟨h.lt, ?_⟩
  rcases h.shape with h1 | ⟨b, N, D, rfl, ho, hN, hd⟩
  · exact .inl h1
  · refine .inr ⟨b, N, D, rfl, ?_, hN, hd⟩
    obtain ⟨es, clock, h1, h2⟩ := ho
    exact ⟨es, clock, (hb.block b (lt_of_block h1)).trans h1, h2⟩

/-- The look-up, in whatever world is so. -/
theorem ClsB.look {B : Nat} {w : World} {v : Value} {n : Nat} {of : ByteArray → Nat} (h : ClsB B w v n of) (s : ByteArray) (hs : s.size ≤ maxLen) : (Instr.lookup 43 v (.string s) false).run Yba.prog w = .ok (.int .i32 (of s)) w := by
  rcases h.shape with ⟨rfl, h0, _⟩ | ⟨b, N, D, rfl, ho, hN, hd⟩
  · rw [h0 s]
    simpa using Maps.look_nil (w := w) false klaw Yba.underlying43 (zero21 _) (keyOf_string_mk Yba.underlying9 hs)
  · obtain ⟨c, hrun, hat, _⟩ := ho.lookup_int klaw Yba.underlying43 Yba.underlying21 (zero21 _) (keyOf_string_mk Yba.underlying9 hs)
    rw [hd s] at hat
    simp only [DataW.lit.injEq, Lit.int.injEq, true_and] at hat
    rw [hrun, hat]

theorem arr60 : ArrKey Yba.prog 60 9 2 := ⟨Yba.underlying60, by kernel_rfl, by kernel_rfl, by kernel_rfl⟩
theorem typesSize : ∃ m, Yba.prog.types.size = m + 1 := by
  have h : 0 < Yba.prog.types.size := of_decide_eq_true (by kernel_rfl)
  exact ⟨Yba.prog.types.size - 1, by omega⟩

/-- How a pair of strings is told as a key. -/
def pk (x y : ByteArray) : Lit := .string (keyBytes [.string x.data.toList, .string y.data.toList])

theorem key60 {x y : ByteArray} (hx : x.size ≤ maxLen) (hy : y.size ≤ maxLen) : keyOf Yba.prog 60 (.agg #[.string x, .string y]) = some (pk x y) := by
  have hkt : Yba.prog.keyType 60 = true := by kernel_rfl
  obtain ⟨m, hm⟩ := typesSize
  unfold keyOf
  simp only [Yba.underlying60]
  rw [if_pos (by simp [hkt, Value.formed, Yba.underlying60, arr60.size]), hm]
  unfold Program.keyLits
  simp only [Yba.underlying60, Value.cells]
  rw [if_pos (by rw [arr60.size]; rfl), show List.range 2 = [0, 1] from rfl, List.mapM_cons, List.mapM_cons, List.mapM_nil]
  simp [arr60.one, Program.keyLits, Yba.underlying9, hx, hy, pk]

theorem plaw : Keyed Yba.prog 60 := Keyed.of_law (deep_law_laid (by kernel_rfl) (m := 2) (by omega) (of_decide_eq_true (by kernel_rfl)) (by kernel_rfl) (by kernel_rfl))
theorem zero4 (w : World) : (zeroValue 4).run Yba.prog w = .ok (.bool false) w := by kernel_rfl

theorem plainElem_bool_inv {P : Program} {e : TypeId} (he : P.underlying e = some .bool) {v : Value} {d : DataW Unit} {ps : List MemPlace} (h : plainElem P e v = some (d, ps)) : ∃ b, v = .bool b ∧ d = .lit (.bool b) := by
  unfold plainElem at h
  rw [he] at h
  cases v <;> simp at h
  exact ⟨_, rfl, h.1.symm⟩

/-- What a map of exceptions says of a pair. -/
def excOf (D : DataW Unit) (x y : ByteArray) : Option Bool := if Maps.has D (pk x y) then (match D.atKey (pk x y) (.lit (.bool false)) with | .lit (.bool b) => some b | _ => some false) else none

/-- The map of exceptions: nil, or a map of the program's own. -/
def ExcAt (w : World) (v : Value) (B : Nat) (exc : ByteArray → ByteArray → Option Bool) : Prop :=
  (v = .map none ∧ ∀ x y, exc x y = none) ∨ ∃ b N D, v = .map (some b) ∧ w.ownsMap Yba.prog 60 (plainElem (H := Unit) Yba.prog 4) b N D ∧ N ≤ B ∧ ∀ x y, exc x y = excOf D x y

theorem ExcAt.below {w w' : World} {v : Value} {B : Nat} {exc : ByteArray → ByteArray → Option Bool} (h : ExcAt w v B exc) (hb : Below w.heap.size w w') : ExcAt w' v B exc := by
  rcases h with h1 | ⟨b, N, D, rfl, ho, hN, hd⟩
  · exact .inl h1
  · refine .inr ⟨b, N, D, rfl, ?_, hN, hd⟩
    obtain ⟨es, clock, h1, h2⟩ := ho
    exact ⟨es, clock, (hb.block b (lt_of_block h1)).trans h1, h2⟩

theorem ExcAt.look {w : World} {v : Value} {B : Nat} {exc : ByteArray → ByteArray → Option Bool} (h : ExcAt w v B exc) {x y : ByteArray} (hx : x.size ≤ maxLen) (hy : y.size ≤ maxLen) :
    ∃ b f, (Instr.lookup 48 v (.agg #[.string x, .string y]) true).run Yba.prog w = .ok (.tuple #[.bool b, .bool f]) w ∧ exc x y = if f then some b else none := by
  have hk := key60 hx hy
  rcases h with ⟨rfl, h0⟩ | ⟨b, N, D, rfl, ho, hN, hd⟩
  · exact ⟨false, false, by simpa using Maps.look_nil (w := w) true plaw Yba.underlying48 (zero4 _) hk, by rw [h0]; rfl⟩
  · obtain ⟨v, ps, hrun, hv⟩ := ho.look_ok plaw Yba.underlying48 (zero4 _) (plainElem_bool Yba.underlying4 false) hk
    obtain ⟨b', rfl, hb'⟩ : ∃ b', v = .bool b' ∧ D.atKey (pk x y) (.lit (.bool false)) = .lit (.bool b') := by
      exact plainElem_bool_inv Yba.underlying4 hv
    exact ⟨b', _, hrun, by rw [hd, excOf, hb']⟩

/-- A relation's parts. -/
structure Rel where
  m0 : Value
  n0 : Nat
  m1 : Value
  n1 : Nat
  rb : Nat
  ro : Nat
  rc : Nat
  ex : Value
  of0 : ByteArray → Nat
  of1 : ByteArray → Nat
  exc : ByteArray → ByteArray → Option Bool
  rows : List (Nat × List (Nat × Nat))
  eb : Nat
  nb : Nat

def RowsAt (w : World) (rb ro n1 : Nat) (rows : List (Nat × List (Nat × Nat))) : Prop :=
  ∀ k r, rows[k]? = some r → RowOk n1 r.1 r.2 ∧ w.cell? ⟨rb, ro + k * 2, none⟩ = some (.int .u8 (r.1 : Nat)) ∧ ∃ v, w.cell? ⟨rb, ro + k * 2 + 1, none⟩ = some v ∧ DiffAt w v r.2

theorem RowsAt.below {w w' : World} {rb ro n1 : Nat} {rows : List (Nat × List (Nat × Nat))} (h : RowsAt w rb ro n1 rows) (hb : Below w.heap.size w w') : RowsAt w' rb ro n1 rows := fun k r hr => by
  obtain ⟨h1, h2, v, h3, h4⟩ := h k r hr
  exact ⟨h1, (hb.cell (block_lt_of_cell h2)).trans h2, v, (hb.cell (block_lt_of_cell h3)).trans h3, h4.below hb⟩

/-- The relation R lies at block p. -/
structure RelAt (w : World) (p : Nat) (R : Rel) : Prop where
  c0 : w.cell? ⟨p, 0, none⟩ = some R.m0
  c1 : w.cell? ⟨p, 1, none⟩ = some (.int .i32 (R.n0 : Nat))
  c2 : w.cell? ⟨p, 2, none⟩ = some R.m1
  c3 : w.cell? ⟨p, 3, none⟩ = some (.int .i32 (R.n1 : Nat))
  c4 : w.cell? ⟨p, 4, none⟩ = some (.slice (some ⟨R.rb, R.ro, none⟩) R.n0 R.rc)
  c5 : w.cell? ⟨p, 5, none⟩ = some R.ex
  s0 : ClsB R.nb w R.m0 R.n0 R.of0
  s1 : ClsB R.nb w R.m1 R.n1 R.of1
  se : ExcAt w R.ex R.eb R.exc
  len : R.rows.length = R.n0
  small : R.n0 ≤ 16 ∧ R.n1 ≤ 16
  rows : RowsAt w R.rb R.ro R.n1 R.rows

theorem RelAt.below {w w' : World} {p : Nat} {R : Rel} (h : RelAt w p R) (hb : Below w.heap.size w w') : RelAt w' p R :=
  ⟨(hb.cell (block_lt_of_cell h.c0)).trans h.c0, (hb.cell (block_lt_of_cell h.c1)).trans h.c1, (hb.cell (block_lt_of_cell h.c2)).trans h.c2, (hb.cell (block_lt_of_cell h.c3)).trans h.c3, (hb.cell (block_lt_of_cell h.c4)).trans h.c4, (hb.cell (block_lt_of_cell h.c5)).trans h.c5,
    h.s0.below hb, h.s1.below hb, h.se.below hb, h.len, h.small, h.rows.below hb⟩

def Rel.cellAt (R : Rel) (x y : ByteArray) : Nat := match R.rows[R.of0 x]? with
  | some r => atL r.1 r.2 (R.of1 y)
  | none => 0

def bitOf (c : Nat) (same : Bool) : Bool := if same then (bits .and .u8 (c : Int) 2 != 0) else (bits .and .u8 (c : Int) 1 != 0)

def Rel.byC (R : Rel) (x y : ByteArray) : Bool := bitOf (R.cellAt x y) (x.toList == y.toList)

theorem by_keep {w W : World} {p : Nat} {R : Rel} (h : RelAt w p R) {x y : ByteArray} (hx : x.size ≤ maxLen) (hy : y.size ≤ maxLen) {r : Nat × List (Nat × Nat)} {v : Value} (hr0 : w.cell? ⟨R.rb, R.ro + R.of0 x * 2, none⟩ = some (.int .u8 (r.1 : Nat))) (hr1 : w.cell? ⟨R.rb, R.ro + R.of0 x * 2 + 1, none⟩ = some v)
    (hb : Below w.heap.size w W) : W.cell? ⟨p, 0, none⟩ = some R.m0 ∧ W.cell? ⟨p, 2, none⟩ = some R.m1 ∧ W.cell? ⟨p, 4, none⟩ = some (.slice (some ⟨R.rb, R.ro, none⟩) R.n0 R.rc) ∧ W.cell? ⟨R.rb, R.ro + R.of0 x * 2, none⟩ = some (.int .u8 (r.1 : Nat)) ∧ W.cell? ⟨R.rb, R.ro + R.of0 x * 2 + 1, none⟩ = some v ∧
      (Instr.lookup 43 R.m0 (.string x) false).run Yba.prog W = .ok (.int .i32 (R.of0 x)) W ∧ (Instr.lookup 43 R.m1 (.string y) false).run Yba.prog W = .ok (.int .i32 (R.of1 y)) W ∧ Below w.heap.size w W :=
  ⟨(h.below hb).c0, (h.below hb).c2, (h.below hb).c4, (hb.cell (block_lt_of_cell hr0)).trans hr0, (hb.cell (block_lt_of_cell hr1)).trans hr1, (h.s0.below hb).look x hx, (h.s1.below hb).look y hy, hb⟩

set_option maxRecDepth 100000 in
set_option maxHeartbeats 1600000 in
theorem byClasses20 {w : World} {p : Nat} {R : Rel} (h : RelAt w p R) (x y : ByteArray) (hx : x.size ≤ maxLen) (hy : y.size ≤ maxLen) :
    Calls Yba.prog 20 #[.pointer (some ⟨p, 0, none⟩), .string x, .string y] w fun e w' => e = .returned (.bool (R.byC x y)) ∧ Below w.heap.size w w' := by
  have hkx := h.s0.lt x
  have hlen := h.len
  obtain ⟨r, hr⟩ : ∃ r, R.rows[R.of0 x]? = some r := ⟨R.rows[R.of0 x]'(by omega), by simp [show R.of0 x < R.rows.length by omega]⟩
  obtain ⟨hro, hr0, v, hr1, hd⟩ := h.rows _ r hr
  have hcell : R.cellAt x y = atL r.1 r.2 (R.of1 y) := by unfold Rel.cellAt; rw [hr]
  have HR := hid h
  have HD := hid hd
  have HRO := hid hro
  have HC := hid hcell
  have hl2 : r.2.length ≤ 1024 := by have := hro.len; have := h.small.2; omega
  have t1 : (R.of0 x : Int) < (R.n0 : Int) := by omega
  have KP := hid (fun W (hb : Below w.heap.size w W) => by_keep h hx hy hr0 hr1 hb)
  clear h hr hd hro hcell hr0 hr1
  go_enter Yba.func20, Yba.ntmps20
  go_upto_region 1 with fail
  go_cut [7] from 8 to 30 (fun v wx => v = .int .u8 (R.cellAt x y : Nat) ∧ Below w.heap.size w wx)
  case first =>
    have hb0 := Below.refl w.heap.size w
    go_region_held3 (fun W => W.cell? ⟨p, 0, none⟩ = some R.m0 ∧ W.cell? ⟨p, 2, none⟩ = some R.m1 ∧ W.cell? ⟨p, 4, none⟩ = some (.slice (some ⟨R.rb, R.ro, none⟩) R.n0 R.rc) ∧ W.cell? ⟨R.rb, R.ro + R.of0 x * 2, none⟩ = some (.int .u8 (r.1 : Nat)) ∧ W.cell? ⟨R.rb, R.ro + R.of0 x * 2 + 1, none⟩ = some v ∧
      (Instr.lookup 43 R.m0 (.string x) false).run Yba.prog W = .ok (.int .i32 (R.of0 x)) W ∧ (Instr.lookup 43 R.m1 (.string y) false).run Yba.prog W = .ok (.int .i32 (R.of1 y)) W ∧ Below w.heap.size w W)
      (first | exact KP.out _ (Below.drew (by assumption)) | exact KP.out _ (by assumption) | exact KP.out _ (Below.refl _ _))
      ((go_at_call 28; refine (at28 (HD.out.below (Below.drew (by assumption))) HRO.out.asc hl2 _ _).mono ?_; rintro e w' ⟨rfl, hb⟩; have hbn : Below w.heap.size w w' := (Below.drew (by assumption)).trans (below_le hb (Nat.le_refl _))))
    all_goals go_wp2_with fail
    all_goals go_meet
    all_goals exact ⟨by rw [HC.out], by assumption⟩
  case rest =>
    obtain ⟨rfl, hb⟩ := hcut
    have HB := hid hb
    have hby : R.byC x y = bitOf (R.cellAt x y) (x.toList == y.toList) := rfl
    have HBY := hid hby
    clear hb hby
    generalize R.cellAt x y = cc at *
    cases g : (x.toList == y.toList)
    · rw [g] at HBY
      go_wp2_with fail
      go_ret
      exact ⟨by rw [HBY.out]; rfl, HB.out⟩
    · rw [g] at HBY
      go_wp2_with fail
      go_ret
      exact ⟨by rw [HBY.out]; rfl, HB.out⟩

def Rel.holds (R : Rel) (x y : ByteArray) : Bool := (R.exc x y).getD (R.byC x y)

set_option maxRecDepth 100000 in
set_option maxHeartbeats 1600000 in
theorem holds13 {w : World} {p : Nat} {R : Rel} (h : RelAt w p R) (x y : ByteArray) (hx : x.size ≤ maxLen) (hy : y.size ≤ maxLen) :
    Calls Yba.prog 13 #[.pointer (some ⟨p, 0, none⟩), .string x, .string y] w fun e w' => e = .returned (.bool (R.holds x y)) ∧ Below w.heap.size w w' := by
  have c5 := h.c5
  obtain ⟨b, f, hrun, he⟩ := h.se.look hx hy
  have HE := hid he
  have HB := hid (byClasses20 h x y hx hy)
  clear he h
  go_enter Yba.func13, Yba.ntmps13
  cases f
  · go_wp2_with (go_at_call 20; refine HB.out.mono ?_; rintro e w' ⟨rfl, hb⟩)
    go_ret
    exact ⟨by unfold Rel.holds; rw [HE.out]; rfl, by assumption⟩
  · go_wp2_with fail
    go_ret
    exact ⟨by unfold Rel.holds; rw [HE.out]; rfl, Below.refl _ _⟩
end Go.Proofs.Ybulkatiq
