/-
  join: a quiet class is noted; what the candidates must hold.
-/
import Derived.Test.YbulkatiqRow2
namespace Go.Proofs.Ybulkatiq
open Go.ChangeShapes Go.WideShapes Go.ChangeAt Go.RowKit Go.Maps Go.WideMaps

section
variable {w W W' : World} {base bx jb mb cx ax ay rs qx n mc made ca cb : Nat} {jc : Array Value} {va vb : Value} {marks cand : List Nat} {cv q0 q1 : Value} {Q0 Q1 : List Nat}

/-- What stays of JQ when a row of base's own, that is none of the others', grows. -/
theorem JQ.rowTurned {g : Option Nat} (h : JQ w W base bx jb mb cx ax ay rs qx jc n mc made ca cb va vb marks cand cv q0 q1 Q0 Q1) (hg : W.grownBy W' g) (hb : ∀ b, g = some b → base ≤ b) (h21 : ∀ b, g = some b → ∃ cs, W.heap[b]? = some (.cells cs 21 (0, 0))) (hc : ∀ b, g = some b → cv.ownBlock ≠ some b) :
    JC W' base bx jb mb cx jc n mc made marks cand cv ∧ Fr2 jb mb w W' ∧ W'.heap[ax]? = some (.cells #[.int .u8 (ca : Nat), va] 57 (0, 0)) ∧ W'.heap[ay]? = some (.cells #[.int .u8 (cb : Nat), vb] 57 (0, 0)) ∧ W'.heap[rs]? = some (.cells #[.int .u8 0, .slice none 0 0] 57 (0, 0)) ∧ W'.heap[qx]? = some (.cells #[q0, q1] 84 (0, 0)) := by
  have hk : ∀ (b : Nat) (cs : Array Value) (t : TypeId), W.heap[b]? = some (.cells cs t (0, 0)) → t ≠ 21 → W'.heap[b]? = some (.cells cs t (0, 0)) := fun b cs t hb ht => (hg.block b (lt_of_block hb) (fun e => by
    obtain ⟨cs', h'⟩ := h21 b e.symm
    rw [hb] at h'
    cases h'
    exact ht rfl)).trans hb
  obtain ⟨f1, f2, f3, f4⟩ := h.jc.far
  obtain ⟨mcur, hm1, hm2⟩ := h.jc.mrk.blk
  have hmg : some mb ≠ g := fun e => by have := hb mb e.symm; omega
  have hm3 := (hg.block mb (lt_of_block hm1) hmg).trans hm1
  refine ⟨⟨hk _ _ _ h.jc.bxk (by decide), hk _ _ _ h.jc.jbk (by decide), h.jc.j6, h.jc.j7, ⟨⟨mcur, hm3, hm2⟩, fun i x hx => ?_⟩, hk _ _ _ h.jc.cxk (by decide), h.jc.own.kept hg ?_, h.jc.ok, f1, f2, f3, Nat.le_trans f4 hg.size⟩, h.fr.below ((Below.refl _ _).grown hg h.fr.size (fun k hk => by have := hb k hk; have := h.wb.1; omega)), hk _ _ _ h.hax (by decide), hk _ _ _ h.hay (by decide), hk _ _ _ h.hrs (by decide), hk _ _ _ h.hqx (by decide)⟩
  · have := h.jc.mrk.each i x hx
    unfold World.cell? at this ⊢
    rw [hm3]
    rw [hm1] at this
    exact this
  · cases hv : cv.ownBlock with
    | none => exact .inl rfl
    | some b => exact .inr (fun e => hc b e.symm hv)

theorem ownI_kind {v : Value} {N b : Nat} {xs : List Value} (h : W.ownsRow base 21 1 v N xs) (hb : v.ownBlock = some b) : ∃ cs, W.heap[b]? = some (.cells cs 21 (0, 0)) := by
  rcases h.2 with ⟨rfl, _⟩ | ⟨g, cap, cur, rfl, _, hgg, _⟩
  · cases hb
  · simp only [Value.ownBlock, Option.some.injEq] at hb
    exact ⟨cur, hb ▸ hgg⟩

/-- The variable 'quiet' is written. -/
theorem JQ.setQ {q0' q1' : Value} {Q0' Q1' : List Nat} (hjc : JC W base bx jb mb cx jc n mc made marks cand cv) (hfr : Fr2 jb mb w W) (hax : W.heap[ax]? = some (.cells #[.int .u8 (ca : Nat), va] 57 (0, 0))) (hay : W.heap[ay]? = some (.cells #[.int .u8 (cb : Nat), vb] 57 (0, 0))) (hrs : W.heap[rs]? = some (.cells #[.int .u8 0, .slice none 0 0] 57 (0, 0))) {cs : Array Value} (hqx : W.heap[qx]? = some (.cells cs 84 (0, 0)))
    (hg : W.grownBy W' (some qx)) (hqx' : W'.heap[qx]? = some (.cells #[q0', q1'] 84 (0, 0))) (o0 : W.ownsRow base 21 1 q0' Q0'.length (ints Q0')) (o1 : W.ownsRow base 21 1 q1' Q1'.length (ints Q1')) (d0 : ∀ g, q0'.ownBlock = some g → cv.ownBlock ≠ some g) (d1 : ∀ g, q1'.ownBlock = some g → cv.ownBlock ≠ some g) (d2 : ∀ g, q0'.ownBlock = some g → q1'.ownBlock ≠ some g) (wb : w.heap.size ≤ base ∧ w.heap.size ≤ rs) (hqb : base ≤ qx) :
    JQ w W' base bx jb mb cx ax ay rs qx jc n mc made ca cb va vb marks cand cv q0' q1' Q0' Q1' := by
  have hk : ∀ (b : Nat) (cs' : Array Value) (t : TypeId), W.heap[b]? = some (.cells cs' t (0, 0)) → t ≠ 84 → W'.heap[b]? = some (.cells cs' t (0, 0)) := fun b cs' t hb ht => (hg.block b (lt_of_block hb) (fun e => ne_cc hb hqx ht (Option.some.inj e))).trans hb
  obtain ⟨mcur, hm1, _⟩ := hjc.mrk.blk
  exact ⟨⟨hk _ _ _ hjc.bxk (by decide), hk _ _ _ hjc.jbk (by decide), hjc.j6, hjc.j7, hjc.mrk.other hg (ne_cc hm1 hqx (by decide)), hk _ _ _ hjc.cxk (by decide), hjc.own.kept hg (.inr (ownI_ne hjc.own hqx (by decide))), hjc.ok, hjc.far.1, hjc.far.2.1, hjc.far.2.2.1, Nat.le_trans hjc.far.2.2.2 hg.size⟩, hfr.below ((Below.refl _ _).grown hg hfr.size (fun k hk => by simp only [Option.some.injEq] at hk; omega)), hk _ _ _ hax (by decide), hk _ _ _ hay (by decide), hk _ _ _ hrs (by decide), hqx', o0.kept hg (.inr (ownI_ne o0 hqx (by decide))), o1.kept hg (.inr (ownI_ne o1 hqx (by decide))), d0, d1, d2, wb⟩

theorem JQ.quiet0 {q0' : Value} {k : Nat} (h : JQ w W base bx jb mb cx ax ay rs qx jc n mc made ca cb va vb marks cand cv q0 q1 Q0 Q1) (hqb : base ≤ qx) (hg : W.grownBy W' q0.ownBlock) (ho : W'.ownsRow base 21 1 q0' (Q0 ++ [k]).length (ints (Q0 ++ [k]))) (hown : q0'.ownBlock = q0.ownBlock ∨ q0'.ownBlock = some W.heap.size) :
    JQ w (W'.setCell ⟨qx, 0, none⟩ q0') base bx jb mb cx ax ay rs qx jc n mc made ca cb va vb marks cand cv q0' q1 (Q0 ++ [k]) Q1 ∧ W'.heap[qx]? = some (.cells #[q0, q1] 84 (0, 0)) := by
  obtain ⟨a1, a2, a3, a4, a5, a6⟩ := h.rowTurned hg (fun b hb => (h.o0.lt b hb).1) (fun b hb => ownI_kind h.o0 hb) (fun b hb => h.d0 b hb)
  have o1 := h.o1.kept hg (by
    cases hv : q1.ownBlock with
    | none => exact .inl rfl
    | some b => exact .inr (fun e => h.d2 b e.symm hv))
  refine ⟨JQ.setQ a1 a2 a3 a4 a5 a6 (grown_setCell (World.grownBy.refl W' _)) (heap_setCell_same W' qx 0 _ 84 q0' a6) ho o1 (fun g e => ?_) h.d1 (fun g e => ?_) h.wb hqb, a6⟩
  · rcases hown with e1 | e1
    · exact h.d0 g (e1 ▸ e)
    · rw [e1] at e
      simp only [Option.some.injEq] at e
      intro e2
      have := (h.jc.own.lt g e2).2
      omega
  · rcases hown with e1 | e1
    · exact h.d2 g (e1 ▸ e)
    · rw [e1] at e
      simp only [Option.some.injEq] at e
      intro e2
      have := (h.o1.lt g e2).2
      omega

theorem JQ.quiet1 {q1' : Value} {k : Nat} (h : JQ w W base bx jb mb cx ax ay rs qx jc n mc made ca cb va vb marks cand cv q0 q1 Q0 Q1) (hqb : base ≤ qx) (hg : W.grownBy W' q1.ownBlock) (ho : W'.ownsRow base 21 1 q1' (Q1 ++ [k]).length (ints (Q1 ++ [k]))) (hown : q1'.ownBlock = q1.ownBlock ∨ q1'.ownBlock = some W.heap.size) :
    JQ w (W'.setCell ⟨qx, 1, none⟩ q1') base bx jb mb cx ax ay rs qx jc n mc made ca cb va vb marks cand cv q0 q1' Q0 (Q1 ++ [k]) ∧ W'.heap[qx]? = some (.cells #[q0, q1] 84 (0, 0)) := by
  obtain ⟨a1, a2, a3, a4, a5, a6⟩ := h.rowTurned hg (fun b hb => (h.o1.lt b hb).1) (fun b hb => ownI_kind h.o1 hb) (fun b hb => h.d1 b hb)
  have o0 := h.o0.kept hg (by
    cases hv : q0.ownBlock with
    | none => exact .inl rfl
    | some b => exact .inr (fun e => h.d2 b hv e.symm))
  refine ⟨JQ.setQ a1 a2 a3 a4 a5 a6 (grown_setCell (World.grownBy.refl W' _)) (heap_setCell_same W' qx 1 _ 84 q1' a6) o0 ho h.d0 (fun g e => ?_) (fun g e e2 => ?_) h.wb hqb, a6⟩
  · rcases hown with e1 | e1
    · exact h.d1 g (e1 ▸ e)
    · rw [e1] at e
      simp only [Option.some.injEq] at e
      intro e2
      have := (h.jc.own.lt g e2).2
      omega
  · rcases hown with e1 | e1
    · exact h.d2 g e (e1 ▸ e2)
    · rw [e1] at e2
      simp only [Option.some.injEq] at e2
      have := (h.o0.lt g e).2
      omega
end

/-- The classes of the entries whose cell says nothing new. -/
def quietOf (f : Nat → Nat) (cm : Nat) : List (Nat × Nat) → List Nat
  | [] => []
  | d :: ds => if f d.2 = cm then d.1 :: quietOf f cm ds else quietOf f cm ds
theorem quietOf_append (f : Nat → Nat) (cm : Nat) (a b : List (Nat × Nat)) : quietOf f cm (a ++ b) = quietOf f cm a ++ quietOf f cm b := by
  induction a with
  | nil => rfl
  | cons d a ih =>
    simp only [List.cons_append, quietOf]
    split <;> simp [ih]
theorem quietOf_mem {f : Nat → Nat} {cm k : Nat} {l : List (Nat × Nat)} : k ∈ quietOf f cm l ↔ ∃ d ∈ l, d.1 = k ∧ f d.2 = cm := by
  induction l with
  | nil => simp [quietOf]
  | cons d l ih =>
    simp only [quietOf, List.mem_cons, exists_eq_or_imp]
    split
    · rename_i h
      rw [List.mem_cons, ih]
      constructor
      · rintro (h1 | h1)
        · exact .inl ⟨h1.symm, h⟩
        · exact .inr h1
      · rintro (h1 | h1)
        · exact .inl h1.1.symm
        · exact .inr h1
    · rename_i h
      rw [ih]
      constructor
      · exact .inr
      · rintro (h1 | h1)
        · exact absurd h1.2 h
        · exact h1
theorem quietOf_len (f : Nat → Nat) (cm : Nat) (l : List (Nat × Nat)) : (quietOf f cm l).length ≤ l.length := by
  induction l with
  | nil => simp [quietOf]
  | cons d l ih =>
    simp only [quietOf]
    split <;> simp <;> omega

/-- The joined classes of the loud entries are among the candidates. -/
def Loud (f : Nat → Nat) (cm : Nat) (l : List (Nat × Nat)) (cls : Nat → Option Nat) (cand : List Nat) : Prop := ∀ (x : Nat) (d : Nat × Nat), d ∈ l → f d.2 ≠ cm → cls x = some d.1 → x ∈ cand
theorem JQ.step0 {w W : World} {base bx jb mb cx ax ay rs qx n mc made ca cb : Nat} {jc : Array Value} {va vb : Value} {marks cand : List Nat} {cv q0 q1 : Value} {Q0 Q1 : List Nat} {k rx D : Nat} {rxc dc : Array Value} (h : JQ w W base bx jb mb cx ax ay rs qx jc n mc made ca cb va vb marks cand cv q0 q1 Q0 Q1) (hqb : base ≤ qx) (hl : Q0.length ≤ 1024) (hrx : W.heap[rx]? = some (.cells rxc 85 (0, 0))) (hD : W.heap[D]? = some (.cells dc 55 (0, 0))) :
    ∃ (a' : Option Addr) (L c' : Nat) (w5 : World), (Builtin.append_ #[70, 70] 70 #[q0, .slice (some ⟨W.heap.size, 0, none⟩) 1 1]).run Yba.prog (W.alloc (.cells #[.int .i32 (k : Nat)] 21)).drew = .ok (.slice a' L c') w5 ∧ JQ w (w5.setCell ⟨qx, 0, none⟩ (.slice a' L c')) base bx jb mb cx ax ay rs qx jc n mc made ca cb va vb marks cand cv (.slice a' L c') q1 (Q0 ++ [k]) Q1 ∧ (w5.setCell ⟨qx, 0, none⟩ (.slice a' L c')).heap[rx]? = some (.cells rxc 85 (0, 0)) ∧ w5.heap[qx]? = some (.cells #[q0, q1] 84 (0, 0)) ∧ w5.heap[D]? = some (.cells dc 55 (0, 0)) ∧ (w5.setCell ⟨qx, 0, none⟩ (.slice a' L c')).heap[D]? = some (.cells dc 55 (0, 0)) := by
  have hb1 : Below W.heap.size W (W.alloc (.cells #[.int .i32 (k : Nat)] 21)).drew := Below.drew (below_al (Below.refl _ _) _)
  have h1 := h.below hb1
  have hD1 := (hb1.block _ (lt_of_block hD)).trans hD
  have hrx1 := (hb1.block _ (lt_of_block hrx)).trans hrx
  obtain ⟨i0, hi0, hz0, hz1, hz2⟩ := info_parts info21
  obtain ⟨v', w5, hrun, hown5, hg5, _, hob⟩ := run_append_own_at (P := Yba.prog) (W.alloc (.cells #[.int .i32 (k : Nat)] 21)).drew base 70 70 21 i0 (.int .i32 0) 1 4 Yba.underlying70 hi0 hz0 hz1 hz2 rfl (by decide) q0 Q0.length (ints Q0) h1.o0 ⟨W.heap.size, 0, none⟩ 1 1 [.int .i32 (k : Nat)] rfl (one_new W _ 21) (by intro u hu; simp at hu; subst hu; rfl) (by unfold maxLen; omega) (by omega) h1.jc.far.2.2.2
  have hrow5 : w5.ownsRow base 21 1 v' (Q0 ++ [k]).length (ints (Q0 ++ [k])) := by
    rw [List.length_append]
    simpa [ints] using hown5
  obtain ⟨hq, hqx⟩ := h1.quiet0 hqb hg5 hrow5 hob
  obtain ⟨a', c', hv⟩ := owns_shape hrow5
  have hD5 := (hg5.block D (lt_of_block hD1) (fun e => (ownI_ne h1.o0 hD1 (by decide)) e.symm)).trans hD1
  have hrx5 := (hg5.block rx (lt_of_block hrx1) (fun e => (ownI_ne h1.o0 hrx1 (by decide)) e.symm)).trans hrx1
  have hgs : w5.grownBy (w5.setCell ⟨qx, 0, none⟩ v') (some qx) := grown_setCell (World.grownBy.refl _ _)
  subst hv
  exact ⟨a', _, c', w5, hrun, hq, (hgs.block _ (lt_of_block hrx5) (fun e => ne_cc hrx5 hqx (by decide) (Option.some.inj e))).trans hrx5, hqx, hD5, (hgs.block _ (lt_of_block hD5) (fun e => ne_cc hD5 hqx (by decide) (Option.some.inj e))).trans hD5⟩

theorem JQ.step1 {w W : World} {base bx jb mb cx ax ay rs qx n mc made ca cb : Nat} {jc : Array Value} {va vb : Value} {marks cand : List Nat} {cv q0 q1 : Value} {Q0 Q1 : List Nat} {k rx D : Nat} {rxc dc : Array Value} (h : JQ w W base bx jb mb cx ax ay rs qx jc n mc made ca cb va vb marks cand cv q0 q1 Q0 Q1) (hqb : base ≤ qx) (hl : Q1.length ≤ 1024) (hrx : W.heap[rx]? = some (.cells rxc 85 (0, 0))) (hD : W.heap[D]? = some (.cells dc 55 (0, 0))) :
    ∃ (a' : Option Addr) (L c' : Nat) (w5 : World), (Builtin.append_ #[70, 70] 70 #[q1, .slice (some ⟨W.heap.size, 0, none⟩) 1 1]).run Yba.prog (W.alloc (.cells #[.int .i32 (k : Nat)] 21)).drew = .ok (.slice a' L c') w5 ∧ JQ w (w5.setCell ⟨qx, 1, none⟩ (.slice a' L c')) base bx jb mb cx ax ay rs qx jc n mc made ca cb va vb marks cand cv q0 (.slice a' L c') Q0 (Q1 ++ [k]) ∧ (w5.setCell ⟨qx, 1, none⟩ (.slice a' L c')).heap[rx]? = some (.cells rxc 85 (0, 0)) ∧ w5.heap[qx]? = some (.cells #[q0, q1] 84 (0, 0)) ∧ w5.heap[D]? = some (.cells dc 55 (0, 0)) ∧ (w5.setCell ⟨qx, 1, none⟩ (.slice a' L c')).heap[D]? = some (.cells dc 55 (0, 0)) := by
  have hb1 : Below W.heap.size W (W.alloc (.cells #[.int .i32 (k : Nat)] 21)).drew := Below.drew (below_al (Below.refl _ _) _)
  have h1 := h.below hb1
  have hD1 := (hb1.block _ (lt_of_block hD)).trans hD
  have hrx1 := (hb1.block _ (lt_of_block hrx)).trans hrx
  obtain ⟨i0, hi0, hz0, hz1, hz2⟩ := info_parts info21
  obtain ⟨v', w5, hrun, hown5, hg5, _, hob⟩ := run_append_own_at (P := Yba.prog) (W.alloc (.cells #[.int .i32 (k : Nat)] 21)).drew base 70 70 21 i0 (.int .i32 0) 1 4 Yba.underlying70 hi0 hz0 hz1 hz2 rfl (by decide) q1 Q1.length (ints Q1) h1.o1 ⟨W.heap.size, 0, none⟩ 1 1 [.int .i32 (k : Nat)] rfl (one_new W _ 21) (by intro u hu; simp at hu; subst hu; rfl) (by unfold maxLen; omega) (by omega) h1.jc.far.2.2.2
  have hrow5 : w5.ownsRow base 21 1 v' (Q1 ++ [k]).length (ints (Q1 ++ [k])) := by
    rw [List.length_append]
    simpa [ints] using hown5
  obtain ⟨hq, hqx⟩ := h1.quiet1 hqb hg5 hrow5 hob
  obtain ⟨a', c', hv⟩ := owns_shape hrow5
  have hD5 := (hg5.block D (lt_of_block hD1) (fun e => (ownI_ne h1.o1 hD1 (by decide)) e.symm)).trans hD1
  have hrx5 := (hg5.block rx (lt_of_block hrx1) (fun e => (ownI_ne h1.o1 hrx1 (by decide)) e.symm)).trans hrx1
  have hgs : w5.grownBy (w5.setCell ⟨qx, 1, none⟩ v') (some qx) := grown_setCell (World.grownBy.refl _ _)
  subst hv
  exact ⟨a', _, c', w5, hrun, hq, (hgs.block _ (lt_of_block hrx5) (fun e => ne_cc hrx5 hqx (by decide) (Option.some.inj e))).trans hrx5, hqx, hD5, (hgs.block _ (lt_of_block hD5) (fun e => ne_cc hD5 hqx (by decide) (Option.some.inj e))).trans hD5⟩

end Go.Proofs.Ybulkatiq
