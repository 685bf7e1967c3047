/-
  mergeColumns: rows of numbers, and the comparison of two columns.
-/
import Derived.Test.YbulkatiqCompact
set_option linter.unusedVariables false
set_option linter.unusedSimpArgs false
namespace Go.Proofs.Ybulkatiq
open Go.ChangeShapes Go.WideShapes Go.ChangeAt Go.RowKit Go.Maps Go.WideMaps

/-- A row of numbers in block b. -/
structure RowI (w : World) (b : Nat) (d : List Nat) : Prop where
  blk : ∃ cur, w.heap[b]? = some (.cells cur 21 (0, 0)) ∧ d.length ≤ cur.size
  each : ∀ i x, d[i]? = some x → w.cell? ⟨b, i, none⟩ = some (.int .i32 (x : Nat))

theorem RowI.below {w w' : World} {b : Nat} {d : List Nat} (h : RowI w b d) (hb : Below w.heap.size w w') : RowI w' b d := by
  obtain ⟨cur, h1, h2⟩ := h.blk
  exact ⟨⟨cur, (hb.block b (lt_of_block h1)).trans h1, h2⟩, fun i x hx => (hb.cell (block_lt_of_cell (h.each i x hx))).trans (h.each i x hx)⟩
theorem RowI.lt {w : World} {b : Nat} {d : List Nat} (h : RowI w b d) : b < w.heap.size := by
  obtain ⟨cur, h1, _⟩ := h.blk
  exact lt_of_block h1
theorem RowI.fz {w : World} {b : Nat} {d : List Nat} (h : RowI w b d) (j : Nat) : w.frozen? ⟨b, j, none⟩ = false := by
  obtain ⟨cur, h1, _⟩ := h.blk
  simp [World.frozen?, h1]
theorem RowI.at {w : World} {b : Nat} {d : List Nat} (h : RowI w b d) {i : Nat} (hi : i < d.length) : w.cell? ⟨b, i, none⟩ = some (.int .i32 (d.getD i 0 : Nat)) := h.each i _ (by simp [List.getD, hi])
theorem RowI.other {w w' : World} {b p : Nat} {d : List Nat} (h : RowI w b d) (hg : w.grownBy w' (some p)) (hne : b ≠ p) : RowI w' b d := by
  obtain ⟨cur, h1, h2⟩ := h.blk
  exact ⟨⟨cur, (hg.block b (lt_of_block h1) (fun e => hne (Option.some.inj e))).trans h1, h2⟩, fun i x hx => cell_kept hg (h.each i x hx) hne⟩
theorem RowI.set {w : World} {b : Nat} {d : List Nat} (h : RowI w b d) {i : Nat} (x : Nat) (hi : i < d.length) : RowI (w.setCell ⟨b, i, none⟩ (.int .i32 (x : Nat))) b (d.set i x) := by
  obtain ⟨cur, h1, h2⟩ := h.blk
  have g1 := heap_setCell_same w b i _ 21 (.int .i32 (x : Nat)) h1
  refine ⟨⟨_, g1, by simpa using h2⟩, fun j z hz => ?_⟩
  have hcell : (w.setCell ⟨b, i, none⟩ (.int .i32 (x : Nat))).cell? ⟨b, j, none⟩ = (cur.setIfInBounds i (.int .i32 (x : Nat)))[j]? := by simp [World.cell?, g1]
  rw [hcell]
  by_cases e : j = i
  · subst e
    rw [List.getElem?_set_self hi] at hz
    simp only [Option.some.injEq] at hz
    subst hz
    rw [Array.getElem?_setIfInBounds_self_of_lt (by omega)]
  · rw [List.getElem?_set_ne (fun e' => e e'.symm)] at hz
    have := h.each j z hz
    rw [Array.getElem?_setIfInBounds_ne (fun e' => e e'.symm), ← this]
    simp [World.cell?, h1]

theorem made_rowI {w : World} {base g n : Nat} (h : w.ownsRow base 21 1 (.slice (some ⟨g, 0, none⟩) n n) n (madeCells #[.int .i32 0] n).toList) : RowI w g (List.replicate n 0) := by
  have hc := fun j hj => h.cellAt j hj
  rcases h.2 with ⟨e, _⟩ | ⟨g', cap, cur, e, _, hgg, _, _, hcs, _⟩
  · cases e
  · simp only [Value.slice.injEq, Option.some.injEq, Addr.mk.injEq, true_and, and_true] at e
    obtain ⟨rfl, rfl⟩ := e
    refine ⟨⟨cur, hgg, by simp; omega⟩, fun i x hx => ?_⟩
    rw [List.getElem?_replicate] at hx
    split at hx
    · simp only [Option.some.injEq] at hx
      subst hx
      rw [hc i (by omega)]
      rename_i hi
      simp [madeCells, hi, Nat.mod_one]
    · cases hx

theorem made_rowC {w : World} {base g n : Nat} (h : w.ownsRow base 55 2 (.slice (some ⟨g, 0, none⟩) n n) n (madeCells #[.int .i32 0, .int .u8 0] (n * 2)).toList) : RowC w g 0 (List.replicate n (0, 0)) := by
  have hc := fun j hj => h.cellAt j hj
  rcases h.2 with ⟨e, _⟩ | ⟨g', cap, cur, e, _, hgg, _, _, hcs, _⟩
  · cases e
  · simp only [Value.slice.injEq, Option.some.injEq, Addr.mk.injEq, true_and, and_true] at e
    obtain ⟨rfl, rfl⟩ := e
    refine ⟨⟨cur, hgg⟩, fun i x hx => ?_⟩
    rw [List.getElem?_replicate] at hx
    split at hx
    · simp only [Option.some.injEq] at hx
      subst hx
      rename_i hi
      rw [Nat.zero_add, hc (i * 2) (by omega), hc (i * 2 + 1) (by omega)]
      exact ⟨by simp [madeCells, show i * 2 < n * 2 by omega], by simp [madeCells, show i * 2 + 1 < n * 2 by omega, Nat.add_mod]⟩
    · cases hx

theorem RowC.other {w w' : World} {b off p : Nat} {d : List (Nat × Nat)} (h : RowC w b off d) (hg : w.grownBy w' (some p)) (hne : b ≠ p) : RowC w' b off d := by
  obtain ⟨cur, h1⟩ := h.blk
  exact ⟨⟨cur, (hg.block b (lt_of_block h1) (fun e => hne (Option.some.inj e))).trans h1⟩, fun i p hp => ⟨cell_kept hg (h.each i p hp).1 hne, cell_kept hg (h.each i p hp).2 hne⟩⟩

/-- A stretch of a row of class cells. -/
theorem RowC.seg {w : World} {b s n cap : Nat} {d m : List (Nat × Nat)} (h : RowC w b 0 d) (hm : ∀ j p, m[j]? = some p → d[s + j]? = some p) (hn : m.length = n) (hc : n ≤ cap) : DiffAt w (.slice (some ⟨b, s * 2, none⟩) n cap) m := by
  obtain ⟨cur, h1⟩ := h.blk
  refine ⟨some ⟨b, s * 2, none⟩, cap, by rw [hn], by omega, .inr ⟨b, s * 2, cur, rfl, h1, fun i p hp => ?_⟩⟩
  have := h.each _ p (hm i p hp)
  rw [show s * 2 + i * 2 = 0 + (s + i) * 2 by omega]
  exact this

/-- What the comparison of two columns needs: the two variables, the starts and the listing. -/
structure ColAt (w : World) (lx sx lb sb n tot : Nat) (st : List Nat) (ls : List (Nat × Nat)) (col : Nat → List (Nat × Nat)) : Prop where
  vl : w.cell? ⟨lx, 0, none⟩ = some (.slice (some ⟨lb, 0, none⟩) tot tot)
  vs : w.cell? ⟨sx, 0, none⟩ = some (.slice (some ⟨sb, 0, none⟩) ((n + 1 : Nat) : Nat) ((n + 1 : Nat) : Nat))
  rs : RowI w sb st
  rl : RowC w lb 0 ls
  slen : st.length = n + 1
  step : ∀ c, c < n → st.getD (c + 1) 0 = st.getD c 0 + (col c).length ∧ st.getD (c + 1) 0 ≤ tot
  seg : ∀ c, c < n → ∀ j p, (col c)[j]? = some p → ls[st.getD c 0 + j]? = some p

theorem ColAt.below {w w' : World} {lx sx lb sb n tot : Nat} {st : List Nat} {ls : List (Nat × Nat)} {col : Nat → List (Nat × Nat)} (h : ColAt w lx sx lb sb n tot st ls col) (hb : Below w.heap.size w w') : ColAt w' lx sx lb sb n tot st ls col :=
  ⟨(hb.cell (block_lt_of_cell h.vl)).trans h.vl, (hb.cell (block_lt_of_cell h.vs)).trans h.vs, h.rs.below hb, h.rl.below hb, h.slen, h.step, h.seg⟩

/-- Where a slice begins: at the end of the row the model keeps the row's own address. -/
def offS (tot s : Nat) : Nat := if tot = s then 0 else s * 2
theorem offS_or (tot s : Nat) : (tot = s ∧ offS tot s = 0) ∨ (¬ tot = s ∧ offS tot s = s * 2) := by
  unfold offS
  by_cases h : tot = s
  · exact .inl ⟨h, if_pos h⟩
  · exact .inr ⟨h, if_neg h⟩

theorem offS_eq {lb tot s : Nat} : (if tot = s then some (⟨lb, 0, none⟩ : Addr) else some ⟨lb, s * 2, none⟩) = some ⟨lb, offS tot s, none⟩ := by
  unfold offS
  split <;> rfl

theorem RowC.segS {w : World} {b s n tot : Nat} {d m : List (Nat × Nat)} (h : RowC w b 0 d) (hm : ∀ j p, m[j]? = some p → d[s + j]? = some p) (hn : m.length = n) (hc : s + n ≤ tot) : DiffAt w (.slice (some ⟨b, offS tot s, none⟩) n (tot - s)) m := by
  rcases offS_or tot s with ⟨e, e2⟩ | ⟨e, e2⟩
  · have : m = [] := List.eq_nil_of_length_eq_zero (by omega)
    exact ⟨_, _, by rw [hn], by omega, .inl this⟩
  · rw [e2]
    exact h.seg hm hn (by omega)

theorem wrap32 {x : Nat} (h : x ≤ 65536) : IntKind.i32.wrap (x : Int) = (x : Int) := by
  simp [IntKind.wrap, IntKind.bits, IntKind.signed]
  omega

set_option maxRecDepth 100000 in
set_option maxHeartbeats 3200000 in
theorem cmp41 {w : World} {lx sx lb sb n tot : Nat} {st : List Nat} {ls : List (Nat × Nat)} {col : Nat → List (Nat × Nat)} (h : ColAt w lx sx lb sb n tot st ls col) {k l : Nat} (hk : k < n) (hl : l < n) (hn : n ≤ 1024) (ht : tot ≤ 1024) :
    Calls Yba.prog 41 #[.int .i32 (k : Nat), .int .i32 (l : Nat), .pointer (some ⟨lx, 0, none⟩), .pointer (some ⟨sx, 0, none⟩)] w fun e W' => e = .returned (.int .i64 (cmpL (col k) (col l))) ∧ Below w.heap.size w W' := by
  have hsl := h.slen
  obtain ⟨ek, ek2⟩ := h.step k hk
  obtain ⟨el, el2⟩ := h.step l hl
  have HK : ∀ W, Below w.heap.size w W → DiffAt W (.slice (some ⟨lb, offS tot (st.getD k 0), none⟩) (col k).length (tot - st.getD k 0)) (col k) := fun W hb => (h.below hb).rl.segS (h.seg k hk) rfl (by omega)
  have HL : ∀ W, Below w.heap.size w W → DiffAt W (.slice (some ⟨lb, offS tot (st.getD l 0), none⟩) (col l).length (tot - st.getD l 0)) (col l) := fun W hb => (h.below hb).rl.segS (h.seg l hl) rfl (by omega)
  obtain ⟨k1, hk1⟩ : ∃ k1, k1 = k + 1 := ⟨_, rfl⟩
  obtain ⟨l1, hl1⟩ : ∃ l1, l1 = l + 1 := ⟨_, rfl⟩
  obtain ⟨N, hN⟩ : ∃ N, N = n + 1 := ⟨_, rfl⟩
  rw [← hk1] at ek ek2
  rw [← hl1] at el el2
  have KP := hid (fun W (hb : Below w.heap.size w W) => (⟨(h.below hb).vl, by rw [hN]; exact (h.below hb).vs, (h.below hb).rs.at (by omega), (h.below hb).rs.at (by omega), (h.below hb).rs.at (by omega), (h.below hb).rs.at (by omega), hb⟩ :
    W.cell? ⟨lx, 0, none⟩ = some (.slice (some ⟨lb, 0, none⟩) tot tot) ∧ W.cell? ⟨sx, 0, none⟩ = some (.slice (some ⟨sb, 0, none⟩) N N) ∧ W.cell? ⟨sb, k, none⟩ = some (.int .i32 (st.getD k 0 : Nat)) ∧ W.cell? ⟨sb, k1, none⟩ = some (.int .i32 (st.getD k1 0 : Nat)) ∧ W.cell? ⟨sb, l, none⟩ = some (.int .i32 (st.getD l 0 : Nat)) ∧ W.cell? ⟨sb, l1, none⟩ = some (.int .i32 (st.getD l1 0 : Nat)) ∧ Below w.heap.size w W))
  have hw1 : IntKind.i32.wrap ((k : Int) + 1) = (k1 : Int) := by
    simp [IntKind.wrap, IntKind.bits, IntKind.signed]
    omega
  have hw2 : IntKind.i32.wrap ((l : Int) + 1) = (l1 : Int) := by
    simp [IntKind.wrap, IntKind.bits, IntKind.signed]
    omega
  have t1 : (k : Int) < (N : Int) := by omega
  have t2 : (l : Int) < (N : Int) := by omega
  have t3 : (k1 : Int) < (N : Int) := by omega
  have t4 : (l1 : Int) < (N : Int) := by omega
  have hb0 := Below.refl w.heap.size w
  clear h
  generalize hsk : st.getD k 0 = sk at *
  generalize hsl2 : st.getD l 0 = sl at *
  generalize hsk1 : st.getD k1 0 = sk1 at *
  generalize hsl1 : st.getD l1 0 = sl1 at *
  have u1 : (sk : Int) ≤ (sk1 : Int) := by omega
  have u2 : (sl : Int) ≤ (sl1 : Int) := by omega
  have u3 : (sk1 : Int) ≤ (tot : Int) := by omega
  have u4 : (sl1 : Int) ≤ (tot : Int) := by omega
  have e1 : sk1 - sk = (col k).length := by omega
  have e2 : sl1 - sl = (col l).length := by omega
  have HK2 : ∀ W, Below w.heap.size w W → DiffAt W (.slice (some ⟨lb, offS tot sk, none⟩) (sk1 - sk) (tot - sk)) (col k) := fun W hb => by rw [e1]; exact HK W hb
  have HL2 : ∀ W, Below w.heap.size w W → DiffAt W (.slice (some ⟨lb, offS tot sl, none⟩) (sl1 - sl) (tot - sl)) (col l) := fun W hb => by rw [e2]; exact HL W hb
  have HCA := hid (fun W (hb : Below w.heap.size w W) => compare38 (HK2 W hb) (HL2 W hb) (by omega) (by omega))
  clear hsk hsl2 hsk1 hsl1 e1 e2 ek el hk1 hl1 hN HK HL HK2 HL2
  generalize cmpL (col k) (col l) = cv at *
  go_enter Yba.func41, Yba.ntmps41
  go_upto_region 1 with fail
  refine wp_region_held_drew (S := fun W => W.cell? ⟨lx, 0, none⟩ = some (.slice (some ⟨lb, 0, none⟩) tot tot) ∧ W.cell? ⟨sx, 0, none⟩ = some (.slice (some ⟨sb, 0, none⟩) N N) ∧ W.cell? ⟨sb, k, none⟩ = some (.int .i32 (sk : Nat)) ∧ W.cell? ⟨sb, k1, none⟩ = some (.int .i32 (sk1 : Nat)) ∧ W.cell? ⟨sb, l, none⟩ = some (.int .i32 (sl : Nat)) ∧ W.cell? ⟨sb, l1, none⟩ = some (.int .i32 (sl1 : Nat)) ∧ Below w.heap.size w W) (by kernel_rfl) (KP.out _ (Below.drew hb0)) (fun hHeld => ?_)
  refine wpAnyH_take (i := 0) (v := .slice (some ⟨lb, 0, none⟩) tot tot) rfl (by kernel_rfl) (by kernel_rfl) (by kernel_rfl) (fun _ _ _ h => h) (Or.inl ⟨by rfl, fun W hSw => by obtain ⟨g1, g2, g3, g4, g5, g6, _⟩ := hSw; go_simp⟩) hHeld ?_
  simp only [Act.put, List.setIfInBounds_toArray, List.set_cons_zero, List.set_cons_succ]
  refine wpAnyH_take (i := 1) (v := .slice (some ⟨sb, 0, none⟩) N N) rfl (by kernel_rfl) (by kernel_rfl) (by kernel_rfl) (fun _ _ _ h => h) (Or.inl ⟨by rfl, fun W hSw => by obtain ⟨g1, g2, g3, g4, g5, g6, _⟩ := hSw; go_simp⟩) hHeld ?_
  simp only [Act.put, List.setIfInBounds_toArray, List.set_cons_zero, List.set_cons_succ]
  refine wpAnyH_take (i := 2) (v := .int .i32 (k : Nat)) rfl (by kernel_rfl) (by kernel_rfl) (by kernel_rfl) (fun _ _ _ h => h) (Or.inl ⟨by rfl, fun W hSw => by obtain ⟨g1, g2, g3, g4, g5, g6, _⟩ := hSw; go_simp⟩) hHeld ?_
  simp only [Act.put, List.setIfInBounds_toArray, List.set_cons_zero, List.set_cons_succ]
  refine wpAnyH_take (i := 3) (v := .pointer (some ⟨sb, k, none⟩)) rfl (by kernel_rfl) (by kernel_rfl) (by kernel_rfl) (fun _ _ _ h => h) (Or.inl ⟨by rfl, fun W hSw => by obtain ⟨g1, g2, g3, g4, g5, g6, _⟩ := hSw; go_simp⟩) hHeld ?_
  simp only [Act.put, List.setIfInBounds_toArray, List.set_cons_zero, List.set_cons_succ]
  refine wpAnyH_take (i := 4) (v := .int .i32 (sk : Nat)) rfl (by kernel_rfl) (by kernel_rfl) (by kernel_rfl) (fun _ _ _ h => h) (Or.inl ⟨by rfl, fun W hSw => by obtain ⟨g1, g2, g3, g4, g5, g6, _⟩ := hSw; go_simp⟩) hHeld ?_
  simp only [Act.put, List.setIfInBounds_toArray, List.set_cons_zero, List.set_cons_succ]
  refine wpAnyH_take (i := 5) (v := .slice (some ⟨sb, 0, none⟩) N N) rfl (by kernel_rfl) (by kernel_rfl) (by kernel_rfl) (fun _ _ _ h => h) (Or.inl ⟨by rfl, fun W hSw => by obtain ⟨g1, g2, g3, g4, g5, g6, _⟩ := hSw; go_simp⟩) hHeld ?_
  simp only [Act.put, List.setIfInBounds_toArray, List.set_cons_zero, List.set_cons_succ]
  refine wpAnyH_take (i := 6) (v := .int .i32 (k : Nat)) rfl (by kernel_rfl) (by kernel_rfl) (by kernel_rfl) (fun _ _ _ h => h) (Or.inl ⟨by rfl, fun W hSw => by obtain ⟨g1, g2, g3, g4, g5, g6, _⟩ := hSw; go_simp⟩) hHeld ?_
  simp only [Act.put, List.setIfInBounds_toArray, List.set_cons_zero, List.set_cons_succ]
  refine wpAnyH_take (i := 7) (v := .int .i32 (k1 : Nat)) rfl (by kernel_rfl) (by kernel_rfl) (by kernel_rfl) (fun _ _ _ h => h) (Or.inl ⟨by rfl, fun W hSw => by obtain ⟨g1, g2, g3, g4, g5, g6, _⟩ := hSw; go_simp⟩) hHeld ?_
  simp only [Act.put, List.setIfInBounds_toArray, List.set_cons_zero, List.set_cons_succ]
  refine wpAnyH_take (i := 8) (v := .pointer (some ⟨sb, k1, none⟩)) rfl (by kernel_rfl) (by kernel_rfl) (by kernel_rfl) (fun _ _ _ h => h) (Or.inl ⟨by rfl, fun W hSw => by obtain ⟨g1, g2, g3, g4, g5, g6, _⟩ := hSw; go_simp⟩) hHeld ?_
  simp only [Act.put, List.setIfInBounds_toArray, List.set_cons_zero, List.set_cons_succ]
  refine wpAnyH_take (i := 9) (v := .int .i32 (sk1 : Nat)) rfl (by kernel_rfl) (by kernel_rfl) (by kernel_rfl) (fun _ _ _ h => h) (Or.inl ⟨by rfl, fun W hSw => by obtain ⟨g1, g2, g3, g4, g5, g6, _⟩ := hSw; go_simp⟩) hHeld ?_
  simp only [Act.put, List.setIfInBounds_toArray, List.set_cons_zero, List.set_cons_succ]
  refine wpAnyH_take (i := 10) (v := .slice (some ⟨lb, offS tot sk, none⟩) (sk1 - sk) (tot - sk)) rfl (by kernel_rfl) (by kernel_rfl) (by kernel_rfl) (fun _ _ _ h => h) (Or.inl ⟨by rfl, fun W hSw => by obtain ⟨g1, g2, g3, g4, g5, g6, _⟩ := hSw; go_simp; exact offS_eq⟩) hHeld ?_
  simp only [Act.put, List.setIfInBounds_toArray, List.set_cons_zero, List.set_cons_succ]
  refine wpAnyH_take (i := 11) (v := .slice (some ⟨lb, 0, none⟩) tot tot) rfl (by kernel_rfl) (by kernel_rfl) (by kernel_rfl) (fun _ _ _ h => h) (Or.inl ⟨by rfl, fun W hSw => by obtain ⟨g1, g2, g3, g4, g5, g6, _⟩ := hSw; go_simp⟩) hHeld ?_
  simp only [Act.put, List.setIfInBounds_toArray, List.set_cons_zero, List.set_cons_succ]
  refine wpAnyH_take (i := 12) (v := .slice (some ⟨sb, 0, none⟩) N N) rfl (by kernel_rfl) (by kernel_rfl) (by kernel_rfl) (fun _ _ _ h => h) (Or.inl ⟨by rfl, fun W hSw => by obtain ⟨g1, g2, g3, g4, g5, g6, _⟩ := hSw; go_simp⟩) hHeld ?_
  simp only [Act.put, List.setIfInBounds_toArray, List.set_cons_zero, List.set_cons_succ]
  refine wpAnyH_take (i := 13) (v := .int .i32 (l : Nat)) rfl (by kernel_rfl) (by kernel_rfl) (by kernel_rfl) (fun _ _ _ h => h) (Or.inl ⟨by rfl, fun W hSw => by obtain ⟨g1, g2, g3, g4, g5, g6, _⟩ := hSw; go_simp⟩) hHeld ?_
  simp only [Act.put, List.setIfInBounds_toArray, List.set_cons_zero, List.set_cons_succ]
  refine wpAnyH_take (i := 14) (v := .pointer (some ⟨sb, l, none⟩)) rfl (by kernel_rfl) (by kernel_rfl) (by kernel_rfl) (fun _ _ _ h => h) (Or.inl ⟨by rfl, fun W hSw => by obtain ⟨g1, g2, g3, g4, g5, g6, _⟩ := hSw; go_simp⟩) hHeld ?_
  simp only [Act.put, List.setIfInBounds_toArray, List.set_cons_zero, List.set_cons_succ]
  refine wpAnyH_take (i := 15) (v := .int .i32 (sl : Nat)) rfl (by kernel_rfl) (by kernel_rfl) (by kernel_rfl) (fun _ _ _ h => h) (Or.inl ⟨by rfl, fun W hSw => by obtain ⟨g1, g2, g3, g4, g5, g6, _⟩ := hSw; go_simp⟩) hHeld ?_
  simp only [Act.put, List.setIfInBounds_toArray, List.set_cons_zero, List.set_cons_succ]
  refine wpAnyH_take (i := 16) (v := .slice (some ⟨sb, 0, none⟩) N N) rfl (by kernel_rfl) (by kernel_rfl) (by kernel_rfl) (fun _ _ _ h => h) (Or.inl ⟨by rfl, fun W hSw => by obtain ⟨g1, g2, g3, g4, g5, g6, _⟩ := hSw; go_simp⟩) hHeld ?_
  simp only [Act.put, List.setIfInBounds_toArray, List.set_cons_zero, List.set_cons_succ]
  refine wpAnyH_take (i := 17) (v := .int .i32 (l : Nat)) rfl (by kernel_rfl) (by kernel_rfl) (by kernel_rfl) (fun _ _ _ h => h) (Or.inl ⟨by rfl, fun W hSw => by obtain ⟨g1, g2, g3, g4, g5, g6, _⟩ := hSw; go_simp⟩) hHeld ?_
  simp only [Act.put, List.setIfInBounds_toArray, List.set_cons_zero, List.set_cons_succ]
  refine wpAnyH_take (i := 18) (v := .int .i32 (l1 : Nat)) rfl (by kernel_rfl) (by kernel_rfl) (by kernel_rfl) (fun _ _ _ h => h) (Or.inl ⟨by rfl, fun W hSw => by obtain ⟨g1, g2, g3, g4, g5, g6, _⟩ := hSw; go_simp⟩) hHeld ?_
  simp only [Act.put, List.setIfInBounds_toArray, List.set_cons_zero, List.set_cons_succ]
  refine wpAnyH_take (i := 19) (v := .pointer (some ⟨sb, l1, none⟩)) rfl (by kernel_rfl) (by kernel_rfl) (by kernel_rfl) (fun _ _ _ h => h) (Or.inl ⟨by rfl, fun W hSw => by obtain ⟨g1, g2, g3, g4, g5, g6, _⟩ := hSw; go_simp⟩) hHeld ?_
  simp only [Act.put, List.setIfInBounds_toArray, List.set_cons_zero, List.set_cons_succ]
  refine wpAnyH_take (i := 20) (v := .int .i32 (sl1 : Nat)) rfl (by kernel_rfl) (by kernel_rfl) (by kernel_rfl) (fun _ _ _ h => h) (Or.inl ⟨by rfl, fun W hSw => by obtain ⟨g1, g2, g3, g4, g5, g6, _⟩ := hSw; go_simp⟩) hHeld ?_
  simp only [Act.put, List.setIfInBounds_toArray, List.set_cons_zero, List.set_cons_succ]
  refine wpAnyH_take (i := 21) (v := .slice (some ⟨lb, offS tot sl, none⟩) (sl1 - sl) (tot - sl)) rfl (by kernel_rfl) (by kernel_rfl) (by kernel_rfl) (fun _ _ _ h => h) (Or.inl ⟨by rfl, fun W hSw => by obtain ⟨g1, g2, g3, g4, g5, g6, _⟩ := hSw; go_simp; exact offS_eq⟩) hHeld ?_
  simp only [Act.put, List.setIfInBounds_toArray, List.set_cons_zero, List.set_cons_succ]
  refine wpAnyH_ready (rs := [22]) (by kernel_rfl) (by simp) ?_
  refine AllReadyH.cons rfl (fun K hK => ?_) AllReadyH.nil
  go_simp
  refine (HCA.out _ (Below.drew hb0)).mono ?_
  rintro e w' ⟨rfl, hb⟩
  have hbn : Below w.heap.size w w' := (Below.drew hb0).trans (below_le hb (Nat.le_refl _))
  go_wp2_with fail
  refine hK.out _ _ ?_ (fun hHeld2 => ?_)
  · exact KP.out _ hbn
  clear hK K hHeld
  try simp only [Act.put, List.setIfInBounds_toArray, List.set_cons_zero, List.set_cons_succ]
  refine wpAnyH_ready (rs := [23]) (by kernel_rfl) (by simp) ?_
  refine AllReadyH.cons rfl (fun K hK => ?_) AllReadyH.nil
  go_simp
  refine hK.out _ _ ?_ (fun hHeld => ?_)
  · exact hHeld2
  clear hK K
  try simp only [Act.put, List.setIfInBounds_toArray, List.set_cons_zero, List.set_cons_succ]
  refine wpAnyH_done (by kernel_rfl) ?_ _
  go_wp2_with fail
  go_ret
  exact ⟨rfl, by assumption⟩
theorem cmpOk41 {w0 : World} {lx sx lb sb n tot : Nat} {st : List Nat} {ls : List (Nat × Nat)} {col : Nat → List (Nat × Nat)} (h : ColAt w0 lx sx lb sb n tot st ls col) (hn : n ≤ 1024) (ht : tot ≤ 1024) : CmpOk w0 41 #[.pointer (some ⟨lx, 0, none⟩), .pointer (some ⟨sx, 0, none⟩)] n (fun k l => cmpL (col k) (col l)) :=
  fun _ _ _ hb hk hl => cmp41 (h.below hb) hk hl hn ht
end Go.Proofs.Ybulkatiq
