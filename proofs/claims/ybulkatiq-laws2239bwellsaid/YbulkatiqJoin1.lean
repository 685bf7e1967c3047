/-
  joinClasses: the pairs' numbers, and 'put'.
-/
import Derived.Test.YbulkatiqMergeF
set_option linter.unusedVariables false
set_option linter.unusedSimpArgs false
namespace Go.Proofs.Ybulkatiq
open Go.ChangeShapes Go.WideShapes Go.ChangeAt Go.RowKit Go.Maps Go.WideMaps

/-- How a pair of classes is told as a key. -/
def pk2 (k l : Nat) : Lit := .string (keyBytes [.int .i32 (k : Nat), .int .i32 (l : Nat)])

theorem arr75 : ArrKey Yba.prog 75 21 2 := ⟨Yba.underlying75, by kernel_rfl, by kernel_rfl, by kernel_rfl⟩

theorem key75 {k l : Nat} (hk : k ≤ 1024) (hl : l ≤ 1024) : keyOf Yba.prog 75 (.agg #[.int .i32 (k : Nat), .int .i32 (l : Nat)]) = some (pk2 k l) := by
  have hkt : Yba.prog.keyType 75 = true := by kernel_rfl
  obtain ⟨m, hm⟩ := typesSize
  unfold keyOf
  simp only [Yba.underlying75]
  rw [if_pos (by simp [hkt, Value.formed, Yba.underlying75, arr75.size]), hm]
  unfold Program.keyLits
  simp only [Yba.underlying75, Value.cells]
  rw [if_pos (by rw [arr75.size]; rfl), show List.range 2 = [0, 1] from rfl, List.mapM_cons, List.mapM_cons, List.mapM_nil]
  simp [arr75.one, Program.keyLits, Yba.underlying21, wf_i32 hk, wf_i32 hl, pk2]

theorem nlaw : Keyed Yba.prog 75 := Keyed.of_law (deep_law_laid (by kernel_rfl) (m := 2) (by omega) (of_decide_eq_true (by kernel_rfl)) (by kernel_rfl) (by kernel_rfl))

theorem pk2_inj {k l k' l' : Nat} (hk : k ≤ 1024) (hl : l ≤ 1024) (hk' : k' ≤ 1024) (hl' : l' ≤ 1024) (h : pk2 k l = pk2 k' l') : k = k' ∧ l = l' := by
  have h1 := key75 hk hl
  have h2 := key75 hk' hl'
  rw [← h] at h2
  have h3 := nlaw.inj h1 h2
  simp only [Value.agg.injEq] at h3
  have h4 := congrArg Array.toList h3
  simp at h4
  omega

/-- The map 'number' says where a pair of classes stands in the list. -/
def NumAt (D : DataW Unit) (fr : List (Nat × Nat)) : Prop := ∀ k l, k ≤ 1024 → l ≤ 1024 → (Maps.has D (pk2 k l) = true ↔ (k, l) ∈ fr) ∧ ∀ i, fr[i]? = some (k, l) → D.atKey (pk2 k l) (.lit (.int .i32 0)) = .lit (.int .i32 (i : Nat))

theorem NumAt.put {D : DataW Unit} {fr : List (Nat × Nat)} (h : NumAt D fr) (hm : IsMap D) {k l : Nat} (hk : k ≤ 1024) (hl : l ≤ 1024) (hno : (k, l) ∉ fr) : NumAt (D.put (pk2 k l) (.lit (.int .i32 (fr.length : Nat)))) (fr ++ [(k, l)]) := by
  intro k' l' hk' hl'
  by_cases e : (k', l') = (k, l)
  · cases e
    refine ⟨⟨fun _ => by simp, fun _ => has_put_same hm (by simp [pk2, WideAt.IsKeyLit]) _⟩, fun i hi => ?_⟩
    rw [atKey_put_same hm (by simp [pk2, WideAt.IsKeyLit])]
    rcases Nat.lt_or_ge i fr.length with h1 | h1
    · rw [List.getElem?_append_left h1] at hi
      exact absurd (List.mem_of_getElem? hi) hno
    · have h2 := (List.getElem?_eq_some_iff.1 hi).1
      simp at h2
      rw [show i = fr.length by omega]
  · have hne : pk2 k' l' ≠ pk2 k l := fun h => by
      obtain ⟨rfl, rfl⟩ := pk2_inj hk' hl' hk hl h
      exact e rfl
    obtain ⟨h1, h2⟩ := h k' l' hk' hl'
    refine ⟨?_, fun i hi => ?_⟩
    · rw [has_put_other hne, h1, List.mem_append]
      simp only [List.mem_singleton]
      exact ⟨.inl, fun h => h.resolve_right e⟩
    · rw [atKey_put_other hne]
      refine h2 i ?_
      rcases Nat.lt_or_ge i fr.length with h3 | h3
      · rwa [List.getElem?_append_left h3] at hi
      · have h4 := (List.getElem?_eq_some_iff.1 hi).1
        simp at h4
        have : i = fr.length := by omega
        subst this
        simp at hi
        exact absurd (Prod.ext hi.1.symm hi.2.symm) e

/-- The cells of a list of pairs. -/
def cellsP : List (Nat × Nat) → List Value
  | [] => []
  | p :: l => .int .i32 (p.1 : Nat) :: .int .i32 (p.2 : Nat) :: cellsP l
theorem cellsP_append (l m : List (Nat × Nat)) : cellsP (l ++ m) = cellsP l ++ cellsP m := by
  induction l with
  | nil => rfl
  | cons p l ih => simp [cellsP, ih]
theorem cellsP_len (l : List (Nat × Nat)) : (cellsP l).length = l.length * 2 := by
  induction l with
  | nil => rfl
  | cons p l ih => simp [cellsP, ih, Nat.add_mul]
theorem cellsP_get : ∀ {l : List (Nat × Nat)} {i : Nat} {p : Nat × Nat}, l[i]? = some p → (cellsP l)[i * 2]? = some (.int .i32 (p.1 : Nat)) ∧ (cellsP l)[i * 2 + 1]? = some (.int .i32 (p.2 : Nat))
  | [], _, _, h => by simp at h
  | q :: l, 0, p, h => by simp at h; subst h; exact ⟨rfl, rfl⟩
  | q :: l, i + 1, p, h => by
    rw [show (i + 1) * 2 = i * 2 + 1 + 1 by omega]
    simp only [cellsP, List.getElem?_cons_succ]
    simp only [List.getElem?_cons_succ] at h
    exact cellsP_get h

theorem info75 : (Yba.prog.info? 75).map (fun i => (i.zero, i.size, i.bytes)) = some (some (.agg #[.int .i32 0, .int .i32 0]), 2, 8) := by kernel_rfl

/-- The variables of joinClasses that 'put' writes. -/
structure JS (W : World) (base nx nm jx jm fx : Nat) (v : Value) (n : Nat) (fr : List (Nat × Nat)) (Nn : Nat) (Dn : DataW Unit) (Nj : Nat) (Dj : DataW Unit) : Prop where
  vn : W.heap[nx]? = some (.cells #[.map (some nm)] 67 (0, 0))
  vj : W.heap[jx]? = some (.cells #[.map (some jm), .int .i32 (n : Nat)] 45 (0, 0))
  vf : W.heap[fx]? = some (.cells #[v] 66 (0, 0))
  own : W.ownsRow base 75 2 v fr.length (cellsP fr)
  num : W.ownsMap Yba.prog 75 (plainElem (H := Unit) Yba.prog 21) nm Nn Dn
  jmap : W.ownsMap Yba.prog 9 (plainElem (H := Unit) Yba.prog 21) jm Nj Dj
  ne : nm ≠ jm
  far : base ≤ nm ∧ base ≤ jx ∧ base ≤ jm ∧ base ≤ fx ∧ base ≤ W.heap.size

/-- What 'put' leaves as it was: what lies below base, and every iterator. -/
structure PutFr (base : Nat) (W W' : World) : Prop where
  bel : Below base W W'
  it : ∀ (r : Nat) (a : Option Nat) (b : Nat) (c : Array Nat) (d : Nat), W.heap[r]? = some (Obj.mapIter a b c d) → W'.heap[r]? = some (Obj.mapIter a b c d)

theorem PutFr.trans {base : Nat} {a b c : World} (h : PutFr base a b) (k : PutFr base b c) : PutFr base a c := ⟨h.bel.trans k.bel, fun r x y z u hr => k.it r x y z u (h.it r x y z u hr)⟩
theorem PutFr.refl (base : Nat) (W : World) : PutFr base W W := ⟨Below.refl _ _, fun _ _ _ _ _ h => h⟩
theorem PutFr.below {base : Nat} {W W' : World} (h : Below W.heap.size W W') (hs : base ≤ W.heap.size) : PutFr base W W' := ⟨h.mono hs, fun r a b c d hr => (h.block r (lt_of_block hr)).trans hr⟩
/-- A block that is no iterator is turned. -/
theorem PutFr.grown {base q : Nat} {W W' : World} (hg : W.grownBy W' (some q)) (hb : base ≤ q) (hs : base ≤ W.heap.size) (hq : ∀ (a : Option Nat) (b : Nat) (c : Array Nat) (d : Nat), W.heap[q]? ≠ some (Obj.mapIter a b c d)) : PutFr base W W' :=
  ⟨(Below.refl _ _).grown hg hs (fun k hk => by simp only [Option.some.injEq] at hk; omega), fun r a b c d hr => by
    rw [hg.block r (lt_of_block hr) (fun e => by cases e; exact hq a b c d hr)]
    exact hr⟩

section
variable {W W' : World} {base nx nm jx jm fx n Nn Nj : Nat} {v : Value} {fr : List (Nat × Nat)} {Dn Dj : DataW Unit}

theorem mapBlk {k : TypeId} {b N : Nat} {D : DataW Unit} (h : W.ownsMap Yba.prog k (plainElem (H := Unit) Yba.prog 21) b N D) : ∃ es c, W.heap[b]? = some (.map es c) := by
  obtain ⟨es, c, h1, _⟩ := h
  exact ⟨es, c, h1⟩
theorem ne_mc {a b : Nat} {es : Array MapEntry} {c : Nat} {cs : Array Value} {t : TypeId} {f : Nat × Nat} (h1 : W.heap[a]? = some (.map es c)) (h2 : W.heap[b]? = some (.cells cs t f)) : a ≠ b := fun e => by rw [e, h2] at h1; cases h1
theorem ne_cc {a b : Nat} {cs cs' : Array Value} {t t' : TypeId} {f f' : Nat × Nat} (h1 : W.heap[a]? = some (.cells cs t f)) (h2 : W.heap[b]? = some (.cells cs' t' f')) (ht : t ≠ t') : a ≠ b := fun e => by rw [e, h2] at h1; cases h1; exact ht rfl

theorem JS.below (h : JS W base nx nm jx jm fx v n fr Nn Dn Nj Dj) (hb : Below W.heap.size W W') : JS W' base nx nm jx jm fx v n fr Nn Dn Nj Dj := by
  have hg := Below.grownBy hb none
  exact ⟨(hb.block _ (lt_of_block h.vn)).trans h.vn, (hb.block _ (lt_of_block h.vj)).trans h.vj, (hb.block _ (lt_of_block h.vf)).trans h.vf, h.own.kept hg (by cases hv : v.ownBlock <;> simp), h.num.kept hg (by simp), h.jmap.kept hg (by simp), h.ne, h.far.1, h.far.2.1, h.far.2.2.1, h.far.2.2.2.1, Nat.le_trans h.far.2.2.2.2 hb.size⟩

/-- One block is turned: what the others hold stays. -/
theorem JS.other {q : Nat} (h : JS W base nx nm jx jm fx v n fr Nn Dn Nj Dj) (hg : W.grownBy W' (some q)) : (nx ≠ q → W'.heap[nx]? = some (.cells #[.map (some nm)] 67 (0, 0))) ∧ (jx ≠ q → W'.heap[jx]? = some (.cells #[.map (some jm), .int .i32 (n : Nat)] 45 (0, 0))) ∧ (fx ≠ q → W'.heap[fx]? = some (.cells #[v] 66 (0, 0))) ∧ (v.ownBlock ≠ some q → W'.ownsRow base 75 2 v fr.length (cellsP fr)) ∧ (nm ≠ q → W'.ownsMap Yba.prog 75 (plainElem (H := Unit) Yba.prog 21) nm Nn Dn) ∧ (jm ≠ q → W'.ownsMap Yba.prog 9 (plainElem (H := Unit) Yba.prog 21) jm Nj Dj) ∧ base ≤ W'.heap.size :=
  ⟨fun e => (hg.block _ (lt_of_block h.vn) (fun e' => e (Option.some.inj e'))).trans h.vn, fun e => (hg.block _ (lt_of_block h.vj) (fun e' => e (Option.some.inj e'))).trans h.vj, fun e => (hg.block _ (lt_of_block h.vf) (fun e' => e (Option.some.inj e'))).trans h.vf, fun e => h.own.kept hg (.inr e), fun e => h.num.kept hg (fun e' => e (Option.some.inj e')), fun e => h.jmap.kept hg (fun e' => e (Option.some.inj e')), Nat.le_trans h.far.2.2.2.2 hg.size⟩
end
end Go.Proofs.Ybulkatiq
