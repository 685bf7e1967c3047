/-
  mergeColumns: the second half, plainly and in memory.
-/
import Derived.Test.YbulkatiqColLaw
import Derived.Test.YbulkatiqSort
import Derived.BigRegion
namespace Go.Proofs.Ybulkatiq
open Go.ChangeShapes Go.WideShapes Go.ChangeAt Go.RowKit Go.Maps Go.WideMaps

theorem cpt_mem {l : List (Nat × Nat)} {p : Nat × Nat} : ∀ {i : Nat}, i ≤ l.length → p ∈ cptTo l i → ∃ j, j < i ∧ l[j]? = some p
  | 0, _, h => by simp [cptTo] at h
  | i + 1, hi, h => by
    rw [cptTo] at h
    split at h
    · rcases List.mem_append.1 h with h1 | h1
      · obtain ⟨j, hj, e⟩ := cpt_mem (by omega) h1
        exact ⟨j, by omega, e⟩
      · simp only [List.mem_singleton] at h1
        exact ⟨i, by omega, by rw [h1]; simp [List.getD, show i < l.length by omega]⟩
    · obtain ⟨j, hj, e⟩ := cpt_mem (by omega) h
      exact ⟨j, by omega, e⟩

theorem ord_le {l : List (Nat × Nat)} (h : Ordered l) {i j : Nat} {p q : Nat × Nat} (hij : i ≤ j) (hp : l[i]? = some p) (hq : l[j]? = some q) : p.1 ≤ q.1 := by
  rcases Nat.lt_or_ge i j with h1 | h1
  · rcases h i j p q h1 hp hq with h2 | h2
    · omega
    · omega
  · have : i = j := by omega
    subst this
    rw [hp] at hq
    cases hq
    exact Nat.le_refl _

theorem cpt_asc {l : List (Nat × Nat)} (h : Ordered l) : ∀ {i : Nat}, i ≤ l.length → Asc (cptTo l i)
  | 0, _ => fun a b p q _ hp => by simp [cptTo] at hp
  | i + 1, hi => by
    rw [cptTo]
    split
    · rename_i hc
      refine asc_append (cpt_asc h (by omega)) _ (fun p hp => ?_)
      obtain ⟨j, hj, e⟩ := cpt_mem (by omega) hp
      have h1 : l[i - 1]? = some (l.getD (i - 1) (0, 0)) := by simp [List.getD, show i - 1 < l.length by omega]
      have h2 : l[i]? = some (l.getD i (0, 0)) := by simp [List.getD, show i < l.length by omega]
      have h3 := ord_le h (show j ≤ i - 1 by omega) e h1
      have h4 := ord_le h (show i - 1 ≤ i by omega) h1 h2
      rcases hc with h5 | h5
      · omega
      · omega
    · exact cpt_asc h (by omega)

/-- The row that mergeColumns makes of a row. -/
def NewRow (num : List Nat) (m : Nat) (r r' : Row) : Prop := RowOk m r'.1 r'.2 ∧ ∃ srt : List (Nat × Nat), srt.Perm (r.2.map (fun d => (num.getD d.1 0, d.2))) ∧ Ordered srt ∧ ∀ x, x < m → atL r'.1 r'.2 x = atL r.1 (cptTo srt srt.length) x

theorem cpt_ok {num : List Nat} {n m c : Nat} {l srt : List (Nat × Nat)} (ok : RowOk n c l) (hm : ∀ k, num.getD k 0 < m) (hp : srt.Perm (l.map (fun d => (num.getD d.1 0, d.2)))) (ho : Ordered srt) : RowOk m c (cptTo srt srt.length) := by
  refine ⟨ok.cell, cpt_asc ho (Nat.le_refl _), fun i p hpi => ?_⟩
  obtain ⟨j, _, e⟩ := cpt_mem (Nat.le_refl _) (List.mem_of_getElem? hpi)
  have h1 := hp.mem_iff.1 (List.mem_of_getElem? e)
  obtain ⟨d, hd, rfl⟩ := List.mem_map.1 h1
  obtain ⟨k, hk, e2⟩ := List.getElem_of_mem hd
  have := ok.each k d (by rw [← e2]; simp [hk])
  exact ⟨hm _, this.2⟩

def fillTo (f : Nat × Nat → Nat × Nat) (l : List (Nat × Nat)) : Nat → List (Nat × Nat)
  | 0 => List.replicate l.length (0, 0)
  | i + 1 => (fillTo f l i).set i (f (l.getD i (0, 0)))
theorem fillTo_len (f : Nat × Nat → Nat × Nat) (l : List (Nat × Nat)) (i : Nat) : (fillTo f l i).length = l.length := by
  induction i with
  | zero => simp [fillTo]
  | succ i ih => simp [fillTo, ih]
theorem fillTo_get (f : Nat × Nat → Nat × Nat) (l : List (Nat × Nat)) : ∀ i j, j < i → i ≤ l.length → (fillTo f l i)[j]? = some (f (l.getD j (0, 0)))
  | 0, j, h, _ => by omega
  | i + 1, j, h, hn => by
    rw [fillTo]
    by_cases e : j = i
    · subst e
      rw [List.getElem?_set_self (by rw [fillTo_len]; omega)]
    · rw [List.getElem?_set_ne (fun e' => e e'.symm)]
      exact fillTo_get f l i j (by omega) (by omega)
theorem fillTo_all (f : Nat × Nat → Nat × Nat) (l : List (Nat × Nat)) : fillTo f l l.length = l.map f := by
  apply List.ext_getElem?
  intro j
  rcases Nat.lt_or_ge j l.length with h | h
  · rw [fillTo_get f l l.length j h (Nat.le_refl _)]
    simp [List.getD, h]
  · rw [List.getElem?_eq_none (by rw [fillTo_len]; exact h), List.getElem?_eq_none (by simpa using h)]

def Rel.colNum (R : Rel) : List Nat × Nat := numberOf (fun k l => cmpL (colE (ents 0 R.rows) k) (colE (ents 0 R.rows) l)) R.n1
def Rel.cols (R : Rel) (v : Value) (rows' : List Row) : Rel := { R with m1 := v, n1 := R.colNum.2, of1 := fun s => R.colNum.1.getD (R.of1 s) 0, rows := rows' }

def MCPost (w : World) (p : Nat) (R : Rel) (e : Ending) (w' : World) : Prop :=
  e = .returned (.tuple #[]) ∧ ∃ R', (R' = R ∨ ∃ v rows', R' = R.cols v rows' ∧ ∀ k, k < R.n0 → NewRow R.colNum.1 R.colNum.2 (R.rows.getD k (0, [])) (rows'.getD k (0, []))) ∧ RelOn w' p R' ∧ ∀ B, B ≤ p → B ≤ R.rb → B ≤ w.heap.size → Below B w w'

/-- What the last loop of mergeColumns keeps. -/
structure RM (w wr : World) (p nb : Nat) (R : Rel) (num : List Nat) (m : Nat) (v : Value) (k : Nat) (rows' : List Row) : Prop where
  fr : ∀ B, B ≤ p → B ≤ R.rb → B ≤ w.heap.size → Below B w wr
  sz : w.heap.size ≤ wr.heap.size
  blk : wr.heap[p]? = some (.cells #[R.m0, .int .i32 (R.n0 : Nat), v, .int .i32 (m : Nat), .slice (some ⟨R.rb, 0, none⟩) R.n0 R.rc, R.ex] 50 (0, 0))
  s0 : ClsB R.nb wr R.m0 R.n0 R.of0
  s1 : ClsB R.nb wr v m (fun s => num.getD (R.of1 s) 0)
  se : ExcAt wr R.ex R.eb R.exc
  row : ∃ cur, wr.heap[R.rb]? = some (.cells cur 57 (0, 0)) ∧ cur.size = R.n0 * 2
  rows : RowsAt wr R.rb 0 R.n1 rows'
  nrow : RowD wr nb R.n1 num
  len : rows'.length = R.n0
  done : ∀ i, i < k → NewRow num m (R.rows.getD i (0, [])) (rows'.getD i (0, []))
  rest : ∀ i, k ≤ i → rows'.getD i (0, []) = R.rows.getD i (0, [])

theorem RM.below {w wr wx : World} {p nb : Nat} {R : Rel} {num : List Nat} {m : Nat} {v : Value} {k : Nat} {rows' : List Row} (h : RM w wr p nb R num m v k rows') (hb : Below wr.heap.size wr wx) : RM w wx p nb R num m v k rows' :=
  ⟨fun B h1 h2 h3 => (h.fr B h1 h2 h3).trans (hb.mono (by have := h.sz; omega)), Nat.le_trans h.sz hb.size, (hb.block _ (lt_of_block h.blk)).trans h.blk, h.s0.below hb, h.s1.below hb, h.se.below hb, by obtain ⟨cur, h1, h2⟩ := h.row; exact ⟨cur, (hb.block _ (lt_of_block h1)).trans h1, h2⟩, h.rows.below hb, h.nrow.below hb, h.len, h.done, h.rest⟩

theorem ExcAt.kept {w w' : World} {v : Value} {B p : Nat} {exc : ByteArray → ByteArray → Option Bool} {cs : Array Value} {t : TypeId} (h : ExcAt w v B exc) (hg : w.grownBy w' (some p)) (hb : w.heap[p]? = some (.cells cs t (0, 0))) : ExcAt w' v B exc := by
  rcases h with h1 | ⟨b, N, D, h1, ho, hN, hd⟩
  · exact .inl h1
  · refine .inr ⟨b, N, D, h1, ho.kept hg (fun e => ?_), hN, hd⟩
    obtain ⟨es, clock, h1, _⟩ := ho
    simp only [Option.some.injEq] at e
    rw [e, hb] at h1
    cases h1

theorem getD_setR {l : List Row} {i : Nat} {x : Row} (h : i < l.length) : (l.set i x).getD i (0, []) = x := by simp [List.getD, List.getElem?_set_self h]
theorem getD_setR_ne {l : List Row} {i j : Nat} {x : Row} (h : i ≠ j) : (l.set i x).getD j (0, []) = l.getD j (0, []) := by simp only [List.getD, List.getElem?_set_ne h]

theorem RM.put {w wr : World} {p nb : Nat} {R : Rel} {num : List Nat} {m : Nat} {v : Value} {k : Nat} {rows' : List Row} (h : RM w wr p nb R num m v k rows') (hk : k < R.n0) (hmn : m ≤ R.n1) {c : Nat} {l : List (Nat × Nat)} {u : Value} (hn : NewRow num m (R.rows.getD k (0, [])) (c, l)) (hd : DiffAt wr u l) (hnp : R.rb ≠ nb) (hpr : R.rb ≠ p) :
    RM w ((wr.setCell ⟨R.rb, k * 2, none⟩ (.int .u8 (c : Nat))).setCell ⟨R.rb, k * 2 + 1, none⟩ u) p nb R num m v (k + 1) (rows'.set k (c, l)) := by
  obtain ⟨cur, h1, h2⟩ := h.row
  have hl := h.len
  have hg : wr.grownBy ((wr.setCell ⟨R.rb, k * 2, none⟩ (.int .u8 (c : Nat))).setCell ⟨R.rb, k * 2 + 1, none⟩ u) (some R.rb) := grown_setCell (grown_setCell (World.grownBy.refl wr _))
  have hr := h.rows.put h1 (by omega) (i := k) (by omega) (hn.1.mono hmn) hd
  have g1 := heap_setCell_same wr R.rb (k * 2) _ 57 (.int .u8 (c : Nat)) h1
  have g2 := heap_setCell_same _ R.rb (k * 2 + 1) _ 57 u g1
  refine ⟨fun B b1 b2 b3 => (h.fr B b1 b2 b3).grown hg (by have := h.sz; omega) (fun j hj => by simp only [Option.some.injEq] at hj; omega), Nat.le_trans h.sz hg.size, (hg.block _ (lt_of_block h.blk) (fun e => hpr (Option.some.inj e).symm)).trans h.blk, h.s0.grown hg h1, h.s1.grown hg h1, h.se.kept hg h1, ⟨_, g2, by simp [h2]⟩, hr, h.nrow.other hg (fun e => hnp e.symm), by simp [hl], fun i hi => ?_, fun i hi => ?_⟩
  · by_cases e : i = k
    · subst e
      rw [getD_setR (by omega)]
      exact hn
    · rw [getD_setR_ne (fun e' => e e'.symm)]
      exact h.done i (by omega)
  · rw [getD_setR_ne (by omega)]
    exact h.rest i (by omega)

theorem RM.post {w wr : World} {p nb : Nat} {R : Rel} {v : Value} {rows' : List Row} (h : RM w wr p nb R R.colNum.1 R.colNum.2 v R.n0 rows') (h0 : R.n0 ≤ 16) (h1 : R.colNum.2 ≤ 16) (hro : R.ro = 0) : MCPost w p R (.returned (.tuple #[])) wr := by
  have g3 : wr.heap[p]? = some (.cells (R.cols v rows').cells 50 (0, 0)) := by
    have := h.blk
    unfold Rel.cells Rel.cols
    rw [hro]
    exact this
  refine ⟨rfl, R.cols v rows', .inr ⟨v, rows', rfl, fun k hk => h.done k hk⟩, ⟨⟨?_, ?_, ?_, ?_, ?_, ?_, h.s0, h.s1, h.se, h.len, ⟨h0, h1⟩, fun k r hr => ?_⟩, g3, hro, h.row⟩, h.fr⟩
  · unfold World.cell?; rw [g3]; rfl
  · unfold World.cell?; rw [g3]; rfl
  · unfold World.cell?; rw [g3]; rfl
  · unfold World.cell?; rw [g3]; rfl
  · unfold World.cell?; rw [g3]; rfl
  · unfold World.cell?; rw [g3]; rfl
  · obtain ⟨e1, e2, u, e3, e4⟩ := h.rows k r hr
    have hr2 : rows'[k]? = some r := hr
    have hk : k < R.n0 := by have := (List.getElem?_eq_some_iff.1 hr2).1; have := h.len; omega
    have hd := h.done k hk
    have : rows'.getD k (0, []) = r := by simp [List.getD, hr2]
    rw [this] at hd
    show RowOk R.colNum.2 r.1 r.2 ∧ wr.cell? ⟨R.rb, R.ro + k * 2, none⟩ = _ ∧ ∃ v, wr.cell? ⟨R.rb, R.ro + k * 2 + 1, none⟩ = _ ∧ _
    rw [hro]
    exact ⟨hd.1, e2, u, e3, e4⟩

theorem below_chain {wo W w' : World} (h1 : Below wo.heap.size wo W) (h2 : Below W.heap.size W w') : Below wo.heap.size wo w' := h1.trans (below_le h2 h1.size)

/-- What is left of a sequence behind its first k parts. -/
def dropC : Nat → Code → Code
  | 0, c => c
  | k + 1, .seq _ b => dropC k b
  | _, c => c
def codeOf (f : Func) : Code := f.body.getD .skip
end Go.Proofs.Ybulkatiq
