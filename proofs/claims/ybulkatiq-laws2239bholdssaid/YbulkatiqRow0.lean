/-
  join: how it starts, and what its candidates are worth.
-/
import Derived.Test.YbulkatiqRow3a
import Derived.Test.YbulkatiqRow5
namespace Go.Proofs.Ybulkatiq
open Go.ChangeShapes Go.WideShapes Go.ChangeAt Go.RowKit Go.Maps Go.WideMaps

theorem size_al (w : World) (o : Obj) : (w.alloc o).heap.size = w.heap.size + 1 := by
  show (w.heap.push o).size = _
  simp

theorem heap_at {w : World} {o : Obj} {b : Nat} (h : b = w.heap.size) : (w.alloc o).heap[b]? = some o := h ▸ heap_new w o

/-- The world behind join's first two regions. -/
def jW2 (w : World) (jb made ca cb : Nat) (va vb : Value) : World :=
  ((((w.alloc (.cells #[.pointer (some ⟨jb, 0, none⟩)] 82)).alloc (.cells #[.int .u8 (ca : Nat), va] 57)).alloc (.cells #[.int .u8 (cb : Nat), vb] 57)).alloc (.cells #[.int .u8 0, .slice none 0 0] 57)).setCell ⟨jb, 7, none⟩ (.int .i32 ((made + 1 : Nat) : Int))

theorem JQ.start {w WD : World} {jb mb n mc made ca cb ax ay rs qx rx : Nat} {jc : Array Value} {va vb : Value} {marks : List Nat} (hjb : w.heap[jb]? = some (.cells jc 72 (0, 0))) (hjs : jc.size = 8) (j6 : jc[6]? = some (.slice (some ⟨mb, 0, none⟩) n mc)) (hmk : RowI w mb marks) (hml : marks.length = n) (hmm : ∀ l, marks.getD l 0 ≤ made)
    (hb : Below (jW2 w jb made ca cb va vb).heap.size (jW2 w jb made ca cb va vb) WD) (hax : ax = w.heap.size + 1) (hay : ay = w.heap.size + 2) (hrs : rs = w.heap.size + 3) (hqx : qx = WD.heap.size + 1) (hrx : rx = WD.heap.size + 2) :
    JQ w (((WD.alloc (.cells #[.slice none 0 0] 70)).alloc (.cells #[.slice none 0 0, .slice none 0 0] 84)).alloc (.cells #[.int .u8 (ca : Nat), va, .int .u8 (cb : Nat), vb] 85)) (w.heap.size + 4) w.heap.size jb mb WD.heap.size ax ay rs qx (jc.setIfInBounds 7 (.int .i32 ((made + 1 : Nat) : Int))) n mc (made + 1) ca cb va vb marks [] (.slice none 0 0) (.slice none 0 0) (.slice none 0 0) [] []
    ∧ (((WD.alloc (.cells #[.slice none 0 0] 70)).alloc (.cells #[.slice none 0 0, .slice none 0 0] 84)).alloc (.cells #[.int .u8 (ca : Nat), va, .int .u8 (cb : Nat), vb] 85)).heap[rx]? = some (.cells #[.int .u8 (ca : Nat), va, .int .u8 (cb : Nat), vb] 85 (0, 0)) := by
  have hjl := lt_of_block hjb
  obtain ⟨mcur, hm1, _⟩ := hmk.blk
  have hml2 := lt_of_block hm1
  have hjm : mb ≠ jb := ne_cc hm1 hjb (by decide)
  subst hax hay hrs hqx hrx
  unfold jW2 at hb
  generalize ho0 : (Obj.cells #[.pointer (some ⟨jb, 0, none⟩)] 82 : Obj) = o0 at hb
  generalize ho1 : (Obj.cells #[.int .u8 (ca : Nat), va] 57 : Obj) = o1 at hb
  generalize ho2 : (Obj.cells #[.int .u8 (cb : Nat), vb] 57 : Obj) = o2 at hb
  generalize ho3 : (Obj.cells #[.int .u8 0, .slice none 0 0] 57 : Obj) = o3 at hb
  have e0 := heap_old (o := o3) (heap_old (o := o2) (heap_old (o := o1) (heap_new w o0)))
  have e1 := heap_old (o := o3) (heap_old (o := o2) (heap_at (w := w.alloc o0) (o := o1) (b := w.heap.size + 1) (by rw [size_al])))
  have e2 := heap_old (o := o3) (heap_at (w := (w.alloc o0).alloc o1) (o := o2) (b := w.heap.size + 2) (by rw [size_al, size_al]))
  have e3 := heap_at (w := ((w.alloc o0).alloc o1).alloc o2) (o := o3) (b := w.heap.size + 3) (by rw [size_al, size_al, size_al])
  have hb1 : Below w.heap.size w ((((w.alloc o0).alloc o1).alloc o2).alloc o3) := below_al (below_al (below_al (below_al (Below.refl _ _) _) _) _) _
  have s1 : ((((w.alloc o0).alloc o1).alloc o2).alloc o3).heap.size = w.heap.size + 4 := by rw [size_al, size_al, size_al, size_al]
  have f1 : Fr2 jb mb w ((((w.alloc o0).alloc o1).alloc o2).alloc o3) := (Fr2.refl jb mb w).below hb1
  have k1 := (hb1.block _ hjl).trans hjb
  have m1 := hmk.below hb1
  generalize ((((w.alloc o0).alloc o1).alloc o2).alloc o3) = W1 at *
  have hg : W1.grownBy (W1.setCell ⟨jb, 7, none⟩ (.int .i32 ((made + 1 : Nat) : Int))) (some jb) := grown_setCell (World.grownBy.refl _ _)
  have k2 := heap_setCell_same W1 jb 7 _ 72 (.int .i32 ((made + 1 : Nat) : Int)) k1
  have s2 : (W1.setCell ⟨jb, 7, none⟩ (.int .i32 ((made + 1 : Nat) : Int))).heap.size = w.heap.size + 4 := by simp [s1]
  have m2 := m1.other hg hjm
  have f2 : Fr2 jb mb w (W1.setCell ⟨jb, 7, none⟩ (.int .i32 ((made + 1 : Nat) : Int))) := ⟨hg.os.trans f1.os, hg.tape.trans f1.tape, hg.output.trans f1.output, by omega, fun b h1 h2 h3 => (hg.block b (by omega) (fun e => h2 (Option.some.inj e))).trans (f1.block b h1 h2 h3)⟩
  have kp : ∀ (b : Nat) (o : Obj), W1.heap[b]? = some o → w.heap.size ≤ b → (W1.setCell ⟨jb, 7, none⟩ (.int .i32 ((made + 1 : Nat) : Int))).heap[b]? = some o := fun b o h1 h2 => (hg.block b (lt_of_block h1) (fun e => by have := Option.some.inj e; omega)).trans h1
  have e0 := kp _ _ e0 (Nat.le_refl _)
  have e1 := kp _ _ e1 (by omega)
  have e2 := kp _ _ e2 (by omega)
  have e3 := kp _ _ e3 (by omega)
  generalize W1.setCell ⟨jb, 7, none⟩ (.int .i32 ((made + 1 : Nat) : Int)) = W2 at *
  have k3 := (hb.block _ (lt_of_block k2)).trans k2
  have m3 := m2.below hb
  have f3 := f2.belowS hb
  have e0 := (hb.block _ (lt_of_block e0)).trans e0
  have e1 := (hb.block _ (lt_of_block e1)).trans e1
  have e2 := (hb.block _ (lt_of_block e2)).trans e2
  have e3 := (hb.block _ (lt_of_block e3)).trans e3
  have s3 := hb.size
  clear hb hg kp k2 m2 f2
  generalize hp0 : (Obj.cells #[.slice none 0 0] 70 : Obj) = p0
  generalize hp1 : (Obj.cells #[.slice none 0 0, .slice none 0 0] 84 : Obj) = p1
  generalize hp2 : (Obj.cells #[.int .u8 (ca : Nat), va, .int .u8 (cb : Nat), vb] 85 : Obj) = p2
  have g0 := heap_old (o := p2) (heap_old (o := p1) (heap_new WD p0))
  have g1 := heap_old (o := p2) (heap_at (w := WD.alloc p0) (o := p1) (b := WD.heap.size + 1) (by rw [size_al]))
  have g2 := heap_at (w := (WD.alloc p0).alloc p1) (o := p2) (b := WD.heap.size + 2) (by rw [size_al, size_al])
  have hb4 : Below WD.heap.size WD (((WD.alloc p0).alloc p1).alloc p2) := below_al (below_al (below_al (Below.refl _ _) _) _) _
  have s4 : (((WD.alloc p0).alloc p1).alloc p2).heap.size = WD.heap.size + 3 := by rw [size_al, size_al, size_al]
  have kp : ∀ (b : Nat) (o : Obj), WD.heap[b]? = some o → (((WD.alloc p0).alloc p1).alloc p2).heap[b]? = some o := fun b o h => (hb4.block _ (lt_of_block h)).trans h
  subst ho0 ho1 ho2 ho3 hp0 hp1 hp2
  refine ⟨⟨⟨kp _ _ e0, kp _ _ k3, ?_, ?_, m3.below hb4, g0, World.ownsRow_nil _ _ _ _, ⟨hml, List.nodup_nil, fun l => ?_, fun l => by have := hmm l; omega⟩, by omega, by omega, by omega, by omega⟩, f3.belowS hb4, kp _ _ e1, kp _ _ e2, kp _ _ e3, g1, World.ownsRow_nil _ _ _ _, World.ownsRow_nil _ _ _ _, fun g e => (by cases e), fun g e => (by cases e), fun g e => (by cases e), by omega, by omega⟩, g2⟩
  · rw [Array.getElem?_setIfInBounds_ne (by omega)]; exact j6
  · rw [Array.getElem?_setIfInBounds_self_of_lt (by omega)]
  · constructor
    · intro h; simp at h
    · rintro ⟨_, h⟩; have := hmm l; omega

/-- A joined class that is no candidate takes the common cell. -/
theorem cell_common {fr : List (Nat × Nat)} {opf : Nat → Nat → Nat} {ca cb cm n na nb x : Nat} {la lb : List (Nat × Nat)} {cand : List Nat} (hcm : opf ca cb = cm) (hcomm : ∀ u v, u < 4 → v < 4 → opf u v = opf v u) (hoa : RowOk na ca la) (hob : RowOk nb cb lb) (hlen : fr.length = n) (hx : x < n)
    (l0 : ∀ (x m : Nat) (d : Nat × Nat), d ∈ la → opf d.2 cb ≠ cm → fr[x]? = some (d.1, m) → x ∈ cand) (l1 : ∀ (x m : Nat) (d : Nat × Nat), d ∈ lb → opf d.2 ca ≠ cm → fr[x]? = some (m, d.1) → x ∈ cand)
    (hq : QComp fr (quietOf (fun c => opf c cb) cm la) (quietOf (fun c => opf c ca) cm lb) cand) (hno : x ∉ cand) : cellJ opf fr ca cb la lb x = cm := by
  have hf : fr[x]? = some (fr.getD x (0, 0)) := by
    rw [List.getD_eq_getElem?_getD]
    have : x < fr.length := by omega
    simp [this]
  unfold cellJ
  generalize fr.getD x (0, 0) = km at *
  obtain ⟨k, m⟩ := km
  show opf (atL ca la k) (atL cb lb m) = cm
  by_cases hk : ∃ d ∈ la, d.1 = k
  · obtain ⟨d, hd, rfl⟩ := hk
    obtain ⟨i, hi⟩ := List.getElem?_of_mem hd
    rw [atL_some hoa.asc hi rfl]
    have q1 : opf d.2 cb = cm := Classical.byContradiction fun h => hno (l0 x m d hd h hf)
    by_cases hm : ∃ e ∈ lb, e.1 = m
    · obtain ⟨e, he, rfl⟩ := hm
      have q2 : opf e.2 ca = cm := Classical.byContradiction fun h => hno (l1 x d.1 e he h hf)
      exact absurd (hq x d.1 e.1 hf (quietOf_mem.2 ⟨d, hd, rfl, q1⟩) (quietOf_mem.2 ⟨e, he, rfl, q2⟩)) hno
    · rw [atL_none (fun i p hp e => hm ⟨p, List.mem_of_getElem? hp, e⟩)]
      exact q1
  · rw [atL_none (fun i p hp e => hk ⟨p, List.mem_of_getElem? hp, e⟩)]
    by_cases hm : ∃ e ∈ lb, e.1 = m
    · obtain ⟨e, he, rfl⟩ := hm
      obtain ⟨i, hi⟩ := List.getElem?_of_mem he
      rw [atL_some hob.asc hi rfl, hcomm _ _ hoa.cell (hob.each i e hi).2.1]
      exact Classical.byContradiction fun h => hno (l1 x k e he h hf)
    · rw [atL_none (fun i p hp e => hm ⟨p, List.mem_of_getElem? hp, e⟩)]
      exact hcm

theorem quiet_incr {f : Nat → Nat} {cm : Nat} {l : List (Nat × Nat)} (h : Asc l) : Incr (quietOf f cm l) := by
  have hp : l.Pairwise (fun a b => a.1 < b.1) := by
    rw [List.pairwise_iff_getElem]
    intro i j hi hj hij
    exact h i j _ _ hij (by simp [hi]) (by simp [hj])
  have hq : (quietOf f cm l).Pairwise (· < ·) := by
    clear h
    induction l with
    | nil => simp [quietOf]
    | cons d l ih =>
      have h1 := List.pairwise_cons.1 hp
      simp only [quietOf]
      split
      · refine List.pairwise_cons.2 ⟨fun b hb => ?_, ih h1.2⟩
        obtain ⟨e, he, rfl, _⟩ := quietOf_mem.1 hb
        exact h1.1 e he
      · exact ih h1.2
  intro i j a b hij ha hb
  rw [List.pairwise_iff_getElem] at hq
  obtain ⟨hi, rfl⟩ := List.getElem?_eq_some_iff.1 ha
  obtain ⟨hj, rfl⟩ := List.getElem?_eq_some_iff.1 hb
  exact hq i j hi hj hij
end Go.Proofs.Ybulkatiq
