/-
  The laws' arguments, opened.
-/
import Derived.Test.YbulkatiqBuild2
import Derived.ProofKit
import Derived.OpenShut
import Derived.ChangeOld
set_option linter.unusedVariables false
set_option linter.unusedSimpArgs false
namespace Go.Proofs.Ybulkatiq
open Go.ChangeShapes Go.WideShapes Go.ChangeAt Go.RowKit Go.Maps Go.WideMaps

theorem cells5 : Yba.prog.cellsOf 5 = 1 := by kernel_rfl
theorem cells25 : Yba.prog.cellsOf 25 = 1 := by kernel_rfl
theorem cells30 : Yba.prog.cellsOf 30 = 4 := by kernel_rfl
theorem cells31 : Yba.prog.cellsOf 31 = 16 := by kernel_rfl
theorem cells33' : Yba.prog.cellsOf 33 = 27 := by kernel_rfl

theorem byte_of {n : Int} (h : (Lit.int .u8 n).wf = true) : ∃ z : Nat, z < 256 ∧ n = (z : Int) := by
  simp [Lit.wf, IntKind.min, IntKind.max, IntKind.signed, IntKind.bits] at h
  exact ⟨n.toNat, by omega, by omega⟩

section
variable {H : Type} {enc : TypeId × Value → H} {W : World} {base : Nat} {sp : Nat → Bool} {held : Bool} {fuel : Nat}

/-- A field that is one byte. -/
theorem byte_field {l : List Value} {o : Nat} {x : DataW H × List MemPlace} (h : DataW.trod enc Yba.prog W base sp held fuel 5 ((l.drop o).take 1) = some x) : ∃ z : Nat, z < 256 ∧ l[o]? = some (.int .u8 (z : Int)) := by
  obtain ⟨n, hc, _, hw⟩ := DataW.trod_int Yba.underlying5 h
  obtain ⟨z, hz, rfl⟩ := byte_of hw
  refine ⟨z, hz, ?_⟩
  have := congrArg (·[0]?) hc
  simpa using this

/-- .. and one that is an array of them. -/
theorem bytes_field {t : TypeId} {l : List Value} {o n : Nat} {x : DataW H × List MemPlace} (ht : Yba.prog.underlying t = some (.array n 5)) (h : DataW.trod enc Yba.prog W base sp held fuel t ((l.drop o).take n) = some x) : ∀ i, i < n → ∃ z : Nat, z < 256 ∧ l[o + i]? = some (.int .u8 (z : Int)) := by
  obtain ⟨xs, m, _, _, _, hl, hx⟩ := DataW.trod_array ht h
  intro i hi
  have h1 := hx i hi
  rw [cells5, show xs[i]? = some (xs[i]'(by omega)) by simp [show i < xs.length by omega], Nat.mul_one] at h1
  obtain ⟨n', hc, _, hw⟩ := DataW.trod_int Yba.underlying5 h1
  obtain ⟨z, hz, rfl⟩ := byte_of hw
  refine ⟨z, hz, ?_⟩
  have := congrArg (·[0]?) hc
  simp at this
  rw [List.getElem?_take] at this
  simpa [hi] using this

/-- What a slice of bytes is in memory. -/
def ExAny (w : World) (v : Value) : Prop := ∃ a len cap, v = .slice a len cap ∧ (len = 0 ∨ ∃ b off, a = some ⟨b, off, none⟩ ∧ ∀ i, i < len → ∃ e : Nat, e < 256 ∧ w.cell? ⟨b, off + i, none⟩ = some (.int .u8 (e : Nat)))

theorem slice_field {c : Value} {x : DataW H × List MemPlace} (h : DataW.trod enc Yba.prog W base sp held fuel 25 [c] = some x) : ExAny W c := by
  rcases open_ints Yba.underlying25 Yba.underlying5 cells5 h with ⟨hcs, _⟩ | ⟨a, len, cap, zs, hcs, _, hl, hm, hz, _, hcell, hwz⟩
  · simp at hcs
    subst hcs
    exact ⟨_, _, _, rfl, .inl rfl⟩
  · simp at hcs
    subst hcs
    have hle : len ≤ zs.length := by rw [hz]; split <;> omega
    refine ⟨_, _, _, rfl, ?_⟩
    rcases Nat.eq_zero_or_pos len with h0 | h0
    · exact .inl h0
    · obtain ⟨b, off, rfl, hc⟩ := ints_at hcell (by omega)
      refine .inr ⟨b, off, rfl, fun i hi => ?_⟩
      obtain ⟨z, hz1, hz2⟩ := byte_of (hwz (zs.getD i 0) (by
        rw [List.getD_eq_getElem?_getD, List.getElem?_eq_getElem (by omega)]
        exact List.getElem_mem _))
      exact ⟨z, hz1, by rw [hc i (by omega), hz2]⟩

theorem getD_lt {l : List Nat} (h : ∀ z ∈ l, z < 256) : ∀ i, l.getD i 0 < 256 := fun i => by
  rw [List.getD_eq_getElem?_getD]
  rcases Nat.lt_or_ge i l.length with hi | hi
  · rw [List.getElem?_eq_getElem hi]
    exact h _ (List.getElem_mem _)
  · rw [List.getElem?_eq_none hi]
    show 0 < 256
    omega

set_option maxRecDepth 100000 in
theorem dat_of_list {l : List Value} (hl : l.length = 27) (hb : ∀ i, i < 26 → ∃ z : Nat, z < 256 ∧ l[i]? = some (.int .u8 (z : Int))) : ∃ D : Dat, l = D.cells.toList ∧ DatOk D ∧ l[26]? = some D.ex := by
  obtain ⟨x0, l0, rfl⟩ : ∃ x l', l = x :: l' := by cases l with | nil => simp at hl | cons a b => exact ⟨_, _, rfl⟩
  simp only [List.length_cons] at hl
  obtain ⟨x1, l1, rfl⟩ : ∃ x l', l0 = x :: l' := by cases l0 with | nil => simp at hl | cons a b => exact ⟨_, _, rfl⟩
  simp only [List.length_cons] at hl
  obtain ⟨x2, l2, rfl⟩ : ∃ x l', l1 = x :: l' := by cases l1 with | nil => simp at hl | cons a b => exact ⟨_, _, rfl⟩
  simp only [List.length_cons] at hl
  obtain ⟨x3, l3, rfl⟩ : ∃ x l', l2 = x :: l' := by cases l2 with | nil => simp at hl | cons a b => exact ⟨_, _, rfl⟩
  simp only [List.length_cons] at hl
  obtain ⟨x4, l4, rfl⟩ : ∃ x l', l3 = x :: l' := by cases l3 with | nil => simp at hl | cons a b => exact ⟨_, _, rfl⟩
  simp only [List.length_cons] at hl
  obtain ⟨x5, l5, rfl⟩ : ∃ x l', l4 = x :: l' := by cases l4 with | nil => simp at hl | cons a b => exact ⟨_, _, rfl⟩
  simp only [List.length_cons] at hl
  obtain ⟨x6, l6, rfl⟩ : ∃ x l', l5 = x :: l' := by cases l5 with | nil => simp at hl | cons a b => exact ⟨_, _, rfl⟩
  simp only [List.length_cons] at hl
  obtain ⟨x7, l7, rfl⟩ : ∃ x l', l6 = x :: l' := by cases l6 with | nil => simp at hl | cons a b => exact ⟨_, _, rfl⟩
  simp only [List.length_cons] at hl
  obtain ⟨x8, l8, rfl⟩ : ∃ x l', l7 = x :: l' := by cases l7 with | nil => simp at hl | cons a b => exact ⟨_, _, rfl⟩
  simp only [List.length_cons] at hl
  obtain ⟨x9, l9, rfl⟩ : ∃ x l', l8 = x :: l' := by cases l8 with | nil => simp at hl | cons a b => exact ⟨_, _, rfl⟩
  simp only [List.length_cons] at hl
  obtain ⟨x10, l10, rfl⟩ : ∃ x l', l9 = x :: l' := by cases l9 with | nil => simp at hl | cons a b => exact ⟨_, _, rfl⟩
  simp only [List.length_cons] at hl
  obtain ⟨x11, l11, rfl⟩ : ∃ x l', l10 = x :: l' := by cases l10 with | nil => simp at hl | cons a b => exact ⟨_, _, rfl⟩
  simp only [List.length_cons] at hl
  obtain ⟨x12, l12, rfl⟩ : ∃ x l', l11 = x :: l' := by cases l11 with | nil => simp at hl | cons a b => exact ⟨_, _, rfl⟩
  simp only [List.length_cons] at hl
  obtain ⟨x13, l13, rfl⟩ : ∃ x l', l12 = x :: l' := by cases l12 with | nil => simp at hl | cons a b => exact ⟨_, _, rfl⟩
  simp only [List.length_cons] at hl
  obtain ⟨x14, l14, rfl⟩ : ∃ x l', l13 = x :: l' := by cases l13 with | nil => simp at hl | cons a b => exact ⟨_, _, rfl⟩
  simp only [List.length_cons] at hl
  obtain ⟨x15, l15, rfl⟩ : ∃ x l', l14 = x :: l' := by cases l14 with | nil => simp at hl | cons a b => exact ⟨_, _, rfl⟩
  simp only [List.length_cons] at hl
  obtain ⟨x16, l16, rfl⟩ : ∃ x l', l15 = x :: l' := by cases l15 with | nil => simp at hl | cons a b => exact ⟨_, _, rfl⟩
  simp only [List.length_cons] at hl
  obtain ⟨x17, l17, rfl⟩ : ∃ x l', l16 = x :: l' := by cases l16 with | nil => simp at hl | cons a b => exact ⟨_, _, rfl⟩
  simp only [List.length_cons] at hl
  obtain ⟨x18, l18, rfl⟩ : ∃ x l', l17 = x :: l' := by cases l17 with | nil => simp at hl | cons a b => exact ⟨_, _, rfl⟩
  simp only [List.length_cons] at hl
  obtain ⟨x19, l19, rfl⟩ : ∃ x l', l18 = x :: l' := by cases l18 with | nil => simp at hl | cons a b => exact ⟨_, _, rfl⟩
  simp only [List.length_cons] at hl
  obtain ⟨x20, l20, rfl⟩ : ∃ x l', l19 = x :: l' := by cases l19 with | nil => simp at hl | cons a b => exact ⟨_, _, rfl⟩
  simp only [List.length_cons] at hl
  obtain ⟨x21, l21, rfl⟩ : ∃ x l', l20 = x :: l' := by cases l20 with | nil => simp at hl | cons a b => exact ⟨_, _, rfl⟩
  simp only [List.length_cons] at hl
  obtain ⟨x22, l22, rfl⟩ : ∃ x l', l21 = x :: l' := by cases l21 with | nil => simp at hl | cons a b => exact ⟨_, _, rfl⟩
  simp only [List.length_cons] at hl
  obtain ⟨x23, l23, rfl⟩ : ∃ x l', l22 = x :: l' := by cases l22 with | nil => simp at hl | cons a b => exact ⟨_, _, rfl⟩
  simp only [List.length_cons] at hl
  obtain ⟨x24, l24, rfl⟩ : ∃ x l', l23 = x :: l' := by cases l23 with | nil => simp at hl | cons a b => exact ⟨_, _, rfl⟩
  simp only [List.length_cons] at hl
  obtain ⟨x25, l25, rfl⟩ : ∃ x l', l24 = x :: l' := by cases l24 with | nil => simp at hl | cons a b => exact ⟨_, _, rfl⟩
  simp only [List.length_cons] at hl
  obtain ⟨x26, l26, rfl⟩ : ∃ x l', l25 = x :: l' := by cases l25 with | nil => simp at hl | cons a b => exact ⟨_, _, rfl⟩
  simp only [List.length_cons] at hl
  obtain rfl : l26 = [] := List.eq_nil_of_length_eq_zero (by omega)
  obtain ⟨z0, b0, e0⟩ := hb 0 (by omega)
  simp at e0
  subst e0
  obtain ⟨z1, b1, e1⟩ := hb 1 (by omega)
  simp at e1
  subst e1
  obtain ⟨z2, b2, e2⟩ := hb 2 (by omega)
  simp at e2
  subst e2
  obtain ⟨z3, b3, e3⟩ := hb 3 (by omega)
  simp at e3
  subst e3
  obtain ⟨z4, b4, e4⟩ := hb 4 (by omega)
  simp at e4
  subst e4
  obtain ⟨z5, b5, e5⟩ := hb 5 (by omega)
  simp at e5
  subst e5
  obtain ⟨z6, b6, e6⟩ := hb 6 (by omega)
  simp at e6
  subst e6
  obtain ⟨z7, b7, e7⟩ := hb 7 (by omega)
  simp at e7
  subst e7
  obtain ⟨z8, b8, e8⟩ := hb 8 (by omega)
  simp at e8
  subst e8
  obtain ⟨z9, b9, e9⟩ := hb 9 (by omega)
  simp at e9
  subst e9
  obtain ⟨z10, b10, e10⟩ := hb 10 (by omega)
  simp at e10
  subst e10
  obtain ⟨z11, b11, e11⟩ := hb 11 (by omega)
  simp at e11
  subst e11
  obtain ⟨z12, b12, e12⟩ := hb 12 (by omega)
  simp at e12
  subst e12
  obtain ⟨z13, b13, e13⟩ := hb 13 (by omega)
  simp at e13
  subst e13
  obtain ⟨z14, b14, e14⟩ := hb 14 (by omega)
  simp at e14
  subst e14
  obtain ⟨z15, b15, e15⟩ := hb 15 (by omega)
  simp at e15
  subst e15
  obtain ⟨z16, b16, e16⟩ := hb 16 (by omega)
  simp at e16
  subst e16
  obtain ⟨z17, b17, e17⟩ := hb 17 (by omega)
  simp at e17
  subst e17
  obtain ⟨z18, b18, e18⟩ := hb 18 (by omega)
  simp at e18
  subst e18
  obtain ⟨z19, b19, e19⟩ := hb 19 (by omega)
  simp at e19
  subst e19
  obtain ⟨z20, b20, e20⟩ := hb 20 (by omega)
  simp at e20
  subst e20
  obtain ⟨z21, b21, e21⟩ := hb 21 (by omega)
  simp at e21
  subst e21
  obtain ⟨z22, b22, e22⟩ := hb 22 (by omega)
  simp at e22
  subst e22
  obtain ⟨z23, b23, e23⟩ := hb 23 (by omega)
  simp at e23
  subst e23
  obtain ⟨z24, b24, e24⟩ := hb 24 (by omega)
  simp at e24
  subst e24
  obtain ⟨z25, b25, e25⟩ := hb 25 (by omega)
  simp at e25
  subst e25
  refine ⟨⟨fun i => [z0, z1, z2, z3].getD i 0, z4, fun i => [z5, z6, z7, z8].getD i 0, z9, fun i => [z10, z11, z12, z13, z14, z15, z16, z17, z18, z19, z20, z21, z22, z23, z24, z25].getD i 0, x26⟩, rfl, ⟨?_, b4, ?_, b9, ?_⟩, rfl⟩
  · exact getD_lt (by simp; omega)
  · exact getD_lt (by simp; omega)
  · exact getD_lt (by simp; omega)

set_option maxRecDepth 100000 in
/-- The struct that a law is handed. -/
theorem dat_of {r : Reach} {b0 : Nat} {v : Value} {d : DataW H} {p : List MemPlace} (hv : Value.okWide Yba.prog W r b0 33 v) (h : DataW.Trod enc Yba.prog W base sp held 33 v d p) : ∃ D : Dat, v = .agg D.cells ∧ DatOk D ∧ ExAny W D.ex := by
  obtain ⟨cs, rfl, hs⟩ := okWide_struct Yba.underlying33 hv
  obtain ⟨fuel, hf⟩ := h
  obtain ⟨xs, n, _, _, hlen, hxl, hx⟩ := DataW.trod_struct Yba.underlying33 hf
  obtain ⟨l⟩ := cs
  simp only [Value.cells] at hx hlen
  rw [cells33'] at hs hlen
  simp only [List.size_toArray] at hs hlen hxl
  have hxs : ∀ i, i < 6 → ∃ y, xs[i]? = some y := fun i hi => ⟨xs[i]'(by rw [hxl]; exact hi), by simp⟩
  have g0 := hx 0 _ rfl
  have g1 := hx 1 _ rfl
  have g2 := hx 2 _ rfl
  have g3 := hx 3 _ rfl
  have g4 := hx 4 _ rfl
  have g5 := hx 5 _ rfl
  obtain ⟨y0, e0⟩ := hxs 0 (by omega)
  obtain ⟨y1, e1⟩ := hxs 1 (by omega)
  obtain ⟨y2, e2⟩ := hxs 2 (by omega)
  obtain ⟨y3, e3⟩ := hxs 3 (by omega)
  obtain ⟨y4, e4⟩ := hxs 4 (by omega)
  obtain ⟨y5, e5⟩ := hxs 5 (by omega)
  simp only [cells5, cells25, cells30, cells31, e0, e1, e2, e3, e4, e5] at g0 g1 g2 g3 g4 g5
  have k0 : ∀ i, i < 4 → ∃ z : Nat, z < 256 ∧ l[0 + i]? = some (.int .u8 (z : Int)) := bytes_field Yba.underlying30 g0
  have k1 : ∃ z : Nat, z < 256 ∧ l[4]? = some (.int .u8 (z : Int)) := byte_field g1
  have k2 : ∀ i, i < 4 → ∃ z : Nat, z < 256 ∧ l[5 + i]? = some (.int .u8 (z : Int)) := bytes_field Yba.underlying30 g2
  have k3 : ∃ z : Nat, z < 256 ∧ l[9]? = some (.int .u8 (z : Int)) := byte_field g3
  have k4 : ∀ i, i < 16 → ∃ z : Nat, z < 256 ∧ l[10 + i]? = some (.int .u8 (z : Int)) := bytes_field Yba.underlying31 g4
  obtain ⟨D, h1, h2, h3⟩ := dat_of_list (l := l) hs (fun i hi => by
    rcases Nat.lt_or_ge i 4 with h | h
    · simpa using k0 i h
    rcases Nat.lt_or_ge i 5 with h' | h'
    · obtain rfl : i = 4 := by omega
      exact k1
    rcases Nat.lt_or_ge i 9 with h'' | h''
    · have := k2 (i - 5) (by omega)
      rwa [show 5 + (i - 5) = i by omega] at this
    rcases Nat.lt_or_ge i 10 with h3 | h3
    · obtain rfl : i = 9 := by omega
      exact k3
    · have := k4 (i - 10) (by omega)
      rwa [show 10 + (i - 10) = i by omega] at this)
  refine ⟨D, by rw [h1], h2, ?_⟩
  have hd : (l.drop 26).take 1 = [D.ex] := by
    have hl26 : 26 < l.length := by omega
    rw [List.drop_eq_getElem_cons hl26]
    rw [List.getElem?_eq_getElem hl26] at h3
    simp at h3
    simp [h3]
  have g6 : DataW.trod enc Yba.prog W base sp held n 25 ((l.drop 26).take 1) = some y5 := g5
  rw [hd] at g6
  exact slice_field g6
end
end Go.Proofs.Ybulkatiq
