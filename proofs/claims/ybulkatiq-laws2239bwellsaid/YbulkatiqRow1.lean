/-
  join: the data of a rowJoin, and the row that the candidates make.
-/
import Derived.Test.YbulkatiqTake
namespace Go.Proofs.Ybulkatiq
open Go.ChangeShapes Go.WideShapes Go.ChangeAt Go.RowKit Go.Maps Go.WideMaps

/-- All blocks but two stay as they were. -/
structure Fr2 (jb mb : Nat) (w w' : World) : Prop where
  os : w'.os = w.os
  tape : w'.tape = w.tape
  output : w'.output = w.output
  size : w.heap.size ≤ w'.heap.size
  block : ∀ b, b < w.heap.size → b ≠ jb → b ≠ mb → w'.heap[b]? = w.heap[b]?

theorem Fr2.refl (jb mb : Nat) (w : World) : Fr2 jb mb w w := ⟨rfl, rfl, rfl, Nat.le_refl _, fun _ _ _ _ => rfl⟩
theorem Fr2.below {jb mb : Nat} {w a b : World} (h : Fr2 jb mb w a) (hb : Below w.heap.size a b) : Fr2 jb mb w b := ⟨hb.os.trans h.os, hb.tape.trans h.tape, hb.output.trans h.output, Nat.le_trans h.size hb.size, fun k h1 h2 h3 => (hb.block k h1).trans (h.block k h1 h2 h3)⟩
theorem Fr2.belowS {jb mb : Nat} {w a b : World} (h : Fr2 jb mb w a) (hb : Below a.heap.size a b) : Fr2 jb mb w b := h.below (hb.mono h.size)
theorem Fr2.take {jb mb cx base : Nat} {cv cv' : Value} {w a b : World} (h : Fr2 jb mb w a) (ht : TFr mb cx cv cv' a b) (h1 : w.heap.size ≤ cx) (h2 : ∀ g, cv.ownBlock = some g → base ≤ g) (h3 : w.heap.size ≤ base) : Fr2 jb mb w b :=
  ⟨ht.os.trans h.os, ht.tape.trans h.tape, ht.output.trans h.output, Nat.le_trans h.size ht.size, fun k k1 k2 k3 => (ht.block k (by have := h.size; omega) k3 (by omega) (fun e => by have := h2 k e; omega)).trans (h.block k k1 k2 k3)⟩

/-- A list of lists of numbers behind a slice. -/
def OfAt (W : World) (v : Value) (N : Nat) (L : Nat → List Nat) (U : Nat → Value) : Prop := ∃ b cap, v = .slice (some ⟨b, 0, none⟩) N cap ∧ ∀ k, k < N → W.cell? ⟨b, k, none⟩ = some (U k) ∧ IntsAt W (U k) (L k)

/-- What a rowJoin reads. -/
structure RD (W : World) (fromv atv of0 of1 va vb : Value) (fr : List (Nat × Nat)) (L0 L1 : Nat → List Nat) (U0 U1 : Nat → Value) (na nb : Nat) (la lb : List (Nat × Nat)) : Prop where
  prs : PairsAt W fromv fr
  atm : AtMap W atv fr na nb
  o0 : OfAt W of0 na L0 U0
  o1 : OfAt W of1 nb L1 U1
  da : DiffAt W va la
  db : DiffAt W vb lb

/-- The cell of joined class x. -/
def cellJ (opf : Nat → Nat → Nat) (fr : List (Nat × Nat)) (ca cb : Nat) (la lb : List (Nat × Nat)) (x : Nat) : Nat := opf (atL ca la (fr.getD x (0, 0)).1) (atL cb lb (fr.getD x (0, 0)).2)

/-- The entries that the candidates make. -/
def diffJ (cell : Nat → Nat) (cm : Nat) : List Nat → List (Nat × Nat)
  | [] => []
  | l :: ls => if cell l = cm then diffJ cell cm ls else (l, cell l) :: diffJ cell cm ls

theorem diffJ_append (cell : Nat → Nat) (cm : Nat) (a b : List Nat) : diffJ cell cm (a ++ b) = diffJ cell cm a ++ diffJ cell cm b := by
  induction a with
  | nil => rfl
  | cons l a ih =>
    simp only [List.cons_append, diffJ]
    split <;> simp [ih]

theorem diffJ_mem {cell : Nat → Nat} {cm : Nat} {c : List Nat} {p : Nat × Nat} : p ∈ diffJ cell cm c ↔ p.1 ∈ c ∧ p.2 = cell p.1 ∧ p.2 ≠ cm := by
  induction c with
  | nil => simp [diffJ]
  | cons l c ih =>
    simp only [diffJ, List.mem_cons]
    split
    · rename_i h
      rw [ih]
      constructor
      · rintro ⟨h1, h2⟩; exact ⟨.inr h1, h2⟩
      · rintro ⟨h1 | h1, h2, h3⟩
        · exact absurd (by rw [h2, h1]; exact h) h3
        · exact ⟨h1, h2, h3⟩
    · rename_i h
      rw [List.mem_cons, ih]
      constructor
      · rintro (rfl | ⟨h1, h2⟩)
        · exact ⟨.inl rfl, rfl, h⟩
        · exact ⟨.inr h1, h2⟩
      · rintro ⟨h1 | h1, h2, h3⟩
        · exact .inl (Prod.ext h1 (by rw [h2, h1]))
        · exact .inr ⟨h1, h2, h3⟩

theorem diffJ_nodup {cell : Nat → Nat} {cm : Nat} {c : List Nat} (h : c.Nodup) : (diffJ cell cm c).Nodup := by
  induction c with
  | nil => simp [diffJ]
  | cons l c ih =>
    simp only [diffJ]
    have h1 := List.nodup_cons.1 h
    split
    · exact ih h1.2
    · exact List.nodup_cons.2 ⟨fun hm => h1.1 (diffJ_mem.1 hm).1, ih h1.2⟩

theorem diffJ_len (cell : Nat → Nat) (cm : Nat) (c : List Nat) : (diffJ cell cm c).length ≤ c.length := by
  induction c with
  | nil => simp [diffJ]
  | cons l c ih =>
    simp only [diffJ]
    split <;> simp <;> omega

theorem joinRow_ok {cell : Nat → Nat} {n cm : Nat} {cand : List Nat} {srt : List (Nat × Nat)} (hcm : cm < 4) (hcell : ∀ x, cell x < 4) (hnd : cand.Nodup) (hlt : ∀ x ∈ cand, x < n) (hp : srt.Perm (diffJ cell cm cand)) (ho : Ordered srt) : RowOk n cm srt := by
  have hmem : ∀ (i : Nat) (p : Nat × Nat), srt[i]? = some p → p.1 ∈ cand ∧ p.2 = cell p.1 ∧ p.2 ≠ cm := fun i p h => diffJ_mem.1 (hp.mem_iff.1 (List.mem_of_getElem? h))
  refine ⟨hcm, fun i j p q hij h1 h2 => ?_, fun i p h => ?_⟩
  · rcases ho i j p q hij h1 h2 with h3 | ⟨h3, _⟩
    · exact h3
    · have hpq : p = q := Prod.ext h3 (by rw [(hmem i p h1).2.1, (hmem j q h2).2.1, h3])
      subst hpq
      have hns : srt.Nodup := hp.nodup_iff.2 (diffJ_nodup hnd)
      have hi := (List.getElem?_eq_some_iff.1 h1)
      have hj := (List.getElem?_eq_some_iff.1 h2)
      have := (List.getElem_inj hns).1 (hi.2.trans hj.2.symm)
      omega
  · obtain ⟨h1, h2, h3⟩ := hmem i p h
    exact ⟨hlt _ h1, by rw [h2]; exact hcell _, h3⟩

theorem joinRow_at {cell : Nat → Nat} {cm n : Nat} {cand : List Nat} {srt : List (Nat × Nat)} (ok : RowOk n cm srt) (hp : srt.Perm (diffJ cell cm cand)) (x : Nat) : (x ∈ cand → atL cm srt x = cell x) ∧ (x ∉ cand → atL cm srt x = cm) := by
  have hmem : ∀ (i : Nat) (p : Nat × Nat), srt[i]? = some p → p.1 ∈ cand ∧ p.2 = cell p.1 ∧ p.2 ≠ cm := fun i p h => diffJ_mem.1 (hp.mem_iff.1 (List.mem_of_getElem? h))
  refine ⟨fun hx => ?_, fun hx => ?_⟩
  · by_cases hc : cell x = cm
    · rw [hc]
      exact atL_none (fun i p h e => by
        obtain ⟨_, h2, h3⟩ := hmem i p h
        rw [e] at h2
        exact h3 (by rw [h2, hc]))
    · have h1 : (x, cell x) ∈ srt := hp.mem_iff.2 (diffJ_mem.2 ⟨hx, rfl, hc⟩)
      obtain ⟨i, hi, e⟩ := List.getElem_of_mem h1
      exact atL_some ok.asc (by rw [List.getElem?_eq_getElem hi, e]) rfl
  · exact atL_none (fun i p h e => hx (e ▸ (hmem i p h).1))

/-- What the last stage of join leaves. -/
def JoinPost (w : World) (jb mb n made : Nat) (jc : Array Value) (cand : List Nat) (cell : Nat → Nat) (cm : Nat) (e : Ending) (w' : World) : Prop :=
  ∃ (c' : Nat) (v' : Value) (l' : List (Nat × Nat)), e = .returned (.agg #[.int .u8 (c' : Nat), v']) ∧ DiffAt w' v' l' ∧ RowOk n c' l' ∧ (∀ x, x < n → (x ∈ cand → atL c' l' x = cell x) ∧ (x ∉ cand → atL c' l' x = cm)) ∧ Fr2 jb mb w w' ∧ w'.heap[jb]? = some (.cells jc 72 (0, 0)) ∧ (∃ marks, RowI w' mb marks ∧ marks.length = n ∧ ∀ l, marks.getD l 0 ≤ made)
end Go.Proofs.Ybulkatiq
