/-
  join: the candidates and the quiet classes in memory.
-/
import Derived.Test.YbulkatiqRow1
namespace Go.Proofs.Ybulkatiq
open Go.ChangeShapes Go.WideShapes Go.ChangeAt Go.RowKit Go.Maps Go.WideMaps

/-- What join's loops keep. -/
structure JQ (w W : World) (base bx jb mb cx ax ay rs qx : Nat) (jc : Array Value) (n mc made ca cb : Nat) (va vb : Value) (marks cand : List Nat) (cv q0 q1 : Value) (Q0 Q1 : List Nat) : Prop where
  jc : JC W base bx jb mb cx jc n mc made marks cand cv
  fr : Fr2 jb mb w W
  hax : W.heap[ax]? = some (.cells #[.int .u8 (ca : Nat), va] 57 (0, 0))
  hay : W.heap[ay]? = some (.cells #[.int .u8 (cb : Nat), vb] 57 (0, 0))
  hrs : W.heap[rs]? = some (.cells #[.int .u8 0, .slice none 0 0] 57 (0, 0))
  hqx : W.heap[qx]? = some (.cells #[q0, q1] 84 (0, 0))
  o0 : W.ownsRow base 21 1 q0 Q0.length (ints Q0)
  o1 : W.ownsRow base 21 1 q1 Q1.length (ints Q1)
  d0 : ∀ g, q0.ownBlock = some g → cv.ownBlock ≠ some g
  d1 : ∀ g, q1.ownBlock = some g → cv.ownBlock ≠ some g
  d2 : ∀ g, q0.ownBlock = some g → q1.ownBlock ≠ some g
  wb : w.heap.size ≤ base ∧ w.heap.size ≤ rs

section
variable {w W W' : World} {base bx jb mb cx ax ay rs qx n mc made ca cb : Nat} {jc : Array Value} {va vb : Value} {marks cand : List Nat} {cv q0 q1 : Value} {Q0 Q1 : List Nat}

theorem JQ.below (h : JQ w W base bx jb mb cx ax ay rs qx jc n mc made ca cb va vb marks cand cv q0 q1 Q0 Q1) (hb : Below W.heap.size W W') : JQ w W' base bx jb mb cx ax ay rs qx jc n mc made ca cb va vb marks cand cv q0 q1 Q0 Q1 :=
  ⟨h.jc.below hb, h.fr.belowS hb, (hb.block _ (lt_of_block h.hax)).trans h.hax, (hb.block _ (lt_of_block h.hay)).trans h.hay, (hb.block _ (lt_of_block h.hrs)).trans h.hrs, (hb.block _ (lt_of_block h.hqx)).trans h.hqx, h.o0.kept (Below.grownBy hb none) (by cases hv : q0.ownBlock <;> simp), h.o1.kept (Below.grownBy hb none) (by cases hv : q1.ownBlock <;> simp), h.d0, h.d1, h.d2, h.wb⟩

theorem rowI_moved {v : Value} {N base' : Nat} {xs : List Value} (h : W.ownsRow base' 21 1 v N xs) (hk : ∀ (g : Nat) (cs : Array Value), v.ownBlock = some g → W.heap[g]? = some (.cells cs 21 (0, 0)) → W'.heap[g]? = some (.cells cs 21 (0, 0))) : W'.ownsRow base' 21 1 v N xs := by
  refine ⟨h.1, ?_⟩
  rcases h.2 with h1 | ⟨g, cap, cur, e, h3, h4, h5⟩
  · exact .inl h1
  · exact .inr ⟨g, cap, cur, e, h3, hk g cur (by rw [e]; rfl) h4, h5⟩

theorem JQ.take {l : Nat} {e : Ending} (h : JQ w W base bx jb mb cx ax ay rs qx jc n mc made ca cb va vb marks cand cv q0 q1 Q0 Q1) (hp : TakePost W base bx jb mb cx jc n mc made cand cv l e W') :
    e = .returned (.tuple #[]) ∧ ∃ marks' cand' cv', JQ w W' base bx jb mb cx ax ay rs qx jc n mc made ca cb va vb marks' cand' cv' q0 q1 Q0 Q1 ∧ l ∈ cand' ∧ ∀ x, x ∈ cand → x ∈ cand' := by
  obtain ⟨rfl, marks', cand', cv', hj, hl, hsub, ht⟩ := hp
  obtain ⟨f1, f2, f3, f4⟩ := h.jc.far
  have hcb : ∀ (b : Nat) (cs : Array Value) (t : TypeId), W.heap[b]? = some (.cells cs t (0, 0)) → t ≠ 21 → t ≠ 70 → W'.heap[b]? = some (.cells cs t (0, 0)) := fun b cs t hb h21 h70 => by
    obtain ⟨mcur, hm1, _⟩ := h.jc.mrk.blk
    exact (ht.block b (lt_of_block hb) (ne_cc hb hm1 h21) (ne_cc hb h.jc.cxk h70) (ownI_ne h.jc.own hb h21)).trans hb
  have hrow : ∀ (v : Value), (∀ g, v.ownBlock = some g → base ≤ g) → (∀ g, v.ownBlock = some g → cv.ownBlock ≠ some g) → ∀ (g : Nat) (cs : Array Value), v.ownBlock = some g → W.heap[g]? = some (.cells cs 21 (0, 0)) → W'.heap[g]? = some (.cells cs 21 (0, 0)) := fun v hbase hd g cs hg hb => by
    have hge := hbase g hg
    exact (ht.block g (lt_of_block hb) (by omega) (ne_cc hb h.jc.cxk (by decide)) (hd g hg)).trans hb
  have hdis : ∀ (v : Value) N xs, W.ownsRow base 21 1 v N xs → (∀ g, v.ownBlock = some g → cv.ownBlock ≠ some g) → ∀ g, v.ownBlock = some g → cv'.ownBlock ≠ some g := fun v N xs hv hd g hg e => by
    rcases ht.own with e1 | ⟨g', e1, hg'⟩
    · rw [e1] at e; exact hd g hg e
    · rw [e1] at e
      simp only [Option.some.injEq] at e
      have := (hv.lt g hg).2
      omega
  exact ⟨rfl, marks', cand', cv', ⟨hj, h.fr.take (base := base) ht (by have := h.wb.1; omega) (fun g hg => (h.jc.own.lt g hg).1) h.wb.1, hcb _ _ _ h.hax (by decide) (by decide), hcb _ _ _ h.hay (by decide) (by decide), hcb _ _ _ h.hrs (by decide) (by decide), hcb _ _ _ h.hqx (by decide) (by decide), rowI_moved h.o0 (hrow q0 (fun g hg => (h.o0.lt g hg).1) h.d0), rowI_moved h.o1 (hrow q1 (fun g hg => (h.o1.lt g hg).1) h.d1), hdis q0 _ _ h.o0 h.d0, hdis q1 _ _ h.o1 h.d1, h.d2, h.wb⟩, hl, hsub⟩
end

/-- A variable of join's own is turned. -/
theorem JQ.turn {w W W' : World} {base bx jb mb cx ax ay rs qx n mc made ca cb q : Nat} {jc : Array Value} {va vb : Value} {marks cand : List Nat} {cv q0 q1 : Value} {Q0 Q1 : List Nat} {cs : Array Value} (h : JQ w W base bx jb mb cx ax ay rs qx jc n mc made ca cb va vb marks cand cv q0 q1 Q0 Q1) (hg : W.grownBy W' (some q)) (hq : W.heap[q]? = some (.cells cs 86 (0, 0))) (hb : base ≤ q) : JQ w W' base bx jb mb cx ax ay rs qx jc n mc made ca cb va vb marks cand cv q0 q1 Q0 Q1 := by
  have hk : ∀ (b : Nat) (cs' : Array Value) (t : TypeId), W.heap[b]? = some (.cells cs' t (0, 0)) → t ≠ 86 → W'.heap[b]? = some (.cells cs' t (0, 0)) := fun b cs' t hb ht => (hg.block b (lt_of_block hb) (fun e => ne_cc hb hq ht (Option.some.inj e))).trans hb
  obtain ⟨mcur, hm1, _⟩ := h.jc.mrk.blk
  have hsz := hg.size
  exact ⟨⟨hk _ _ _ h.jc.bxk (by decide), hk _ _ _ h.jc.jbk (by decide), h.jc.j6, h.jc.j7, h.jc.mrk.other hg (ne_cc hm1 hq (by decide)), hk _ _ _ h.jc.cxk (by decide), h.jc.own.kept hg (.inr (ownI_ne h.jc.own hq (by decide))), h.jc.ok, h.jc.far.1, h.jc.far.2.1, h.jc.far.2.2.1, Nat.le_trans h.jc.far.2.2.2 hsz⟩,
    h.fr.below ((Below.refl _ _).grown hg h.fr.size (fun k hk => by simp only [Option.some.injEq] at hk; have := h.wb.1; omega)), hk _ _ _ h.hax (by decide), hk _ _ _ h.hay (by decide), hk _ _ _ h.hrs (by decide), hk _ _ _ h.hqx (by decide), h.o0.kept hg (.inr (ownI_ne h.o0 hq (by decide))), h.o1.kept hg (.inr (ownI_ne h.o1 hq (by decide))), h.d0, h.d1, h.d2, h.wb⟩

theorem idx84_0 (W : World) (a b : Option Addr) (n p m q : Nat) : (Instr.index 84 (.agg #[.slice a n p, .slice b m q]) (.int .i64 0)).run Yba.prog W = .ok (.slice a n p) W := by kernel_rfl
theorem idx84_1 (W : World) (a b : Option Addr) (n p m q : Nat) : (Instr.index 84 (.agg #[.slice a n p, .slice b m q]) (.int .i64 1)).run Yba.prog W = .ok (.slice b m q) W := by kernel_rfl
theorem idx85_0 (W : World) (a b : Option Addr) (n p m q : Nat) (c d : Int) : (Instr.index 85 (.agg #[.int .u8 c, .slice a n p, .int .u8 d, .slice b m q]) (.int .i64 0)).run Yba.prog W = .ok (.agg #[.int .u8 c, .slice a n p]) W := by kernel_rfl
theorem idx85_1 (W : World) (a b : Option Addr) (n p m q : Nat) (c d : Int) : (Instr.index 85 (.agg #[.int .u8 c, .slice a n p, .int .u8 d, .slice b m q]) (.int .i64 1)).run Yba.prog W = .ok (.agg #[.int .u8 d, .slice b m q]) W := by kernel_rfl

/-- The pairs of quiet classes are among the candidates. -/
def QComp (fr : List (Nat × Nat)) (Q0 Q1 cand : List Nat) : Prop := ∀ (x k m : Nat), fr[x]? = some (k, m) → k ∈ Q0 → m ∈ Q1 → x ∈ cand

/-- What the fixed parts of a rowJoin say. -/
structure RJS (fr : List (Nat × Nat)) (L0 L1 : Nat → List Nat) (n na nb : Nat) : Prop where
  len : fr.length = n
  each : ∀ (i k l : Nat), fr[i]? = some (k, l) → k < na ∧ l < nb
  l0 : ∀ (k x : Nat), k < na → (x ∈ L0 k ↔ ∃ m : Nat, fr[x]? = some (k, m))
  l1 : ∀ (k x : Nat), k < nb → (x ∈ L1 k ↔ ∃ m : Nat, fr[x]? = some (m, k))
  s0 : ∀ k, k < na → (L0 k).length ≤ 16
  s1 : ∀ k, k < nb → (L1 k).length ≤ 16
end Go.Proofs.Ybulkatiq
