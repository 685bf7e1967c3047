/-
  slices.CompactFunc at class cells, by class.
-/
import Derived.Test.YbulkatiqMergeR
import Derived.Lib.SliceRun
set_option linter.unusedVariables false
set_option linter.unusedSimpArgs false
namespace Go.Proofs.Ybulkatiq
open Go.ChangeShapes Go.WideShapes Go.ChangeAt Go.RowKit Go.Maps Go.WideMaps

/-- A row of class cells in block b. -/
structure RowC (w : World) (b off : Nat) (d : List (Nat × Nat)) : Prop where
  blk : ∃ cur, w.heap[b]? = some (.cells cur 55 (0, 0))
  each : ∀ i p, d[i]? = some p → w.cell? ⟨b, off + i * 2, none⟩ = some (.int .i32 (p.1 : Nat)) ∧ w.cell? ⟨b, off + i * 2 + 1, none⟩ = some (.int .u8 (p.2 : Nat))

theorem RowC.below {w w' : World} {b off : Nat} {d : List (Nat × Nat)} (h : RowC w b off d) (hb : Below w.heap.size w w') : RowC w' b off d := by
  obtain ⟨cur, h1⟩ := h.blk
  exact ⟨⟨cur, (hb.block b (lt_of_block h1)).trans h1⟩, fun i p hp => ⟨(hb.cell (block_lt_of_cell (h.each i p hp).1)).trans (h.each i p hp).1, (hb.cell (block_lt_of_cell (h.each i p hp).2)).trans (h.each i p hp).2⟩⟩
theorem RowC.lt {w : World} {b off : Nat} {d : List (Nat × Nat)} (h : RowC w b off d) : b < w.heap.size := by
  obtain ⟨cur, h1⟩ := h.blk
  exact lt_of_block h1
theorem RowC.fz {w : World} {b off : Nat} {d : List (Nat × Nat)} (h : RowC w b off d) (j : Nat) : w.frozen? ⟨b, j, none⟩ = false := by
  obtain ⟨cur, h1⟩ := h.blk
  simp [World.frozen?, h1]
theorem RowC.at {w : World} {b off : Nat} {d : List (Nat × Nat)} (h : RowC w b off d) {i : Nat} (hi : i < d.length) : w.cell? ⟨b, off + i * 2, none⟩ = some (.int .i32 ((d.getD i (0, 0)).1 : Nat)) ∧ w.cell? ⟨b, off + i * 2 + 1, none⟩ = some (.int .u8 ((d.getD i (0, 0)).2 : Nat)) :=
  h.each i _ (by simp [List.getD, hi])

theorem RowC.set {w : World} {b off : Nat} {d : List (Nat × Nat)} (h : RowC w b off d) {i : Nat} (p : Nat × Nat) (hi : i < d.length) : RowC ((w.setCell ⟨b, off + i * 2, none⟩ (.int .i32 (p.1 : Nat))).setCell ⟨b, off + i * 2 + 1, none⟩ (.int .u8 (p.2 : Nat))) b off (d.set i p) := by
  obtain ⟨cur, h1⟩ := h.blk
  have hi1 := (h.at hi).1
  have hi2 := (h.at hi).2
  have g1 := heap_setCell_same w b (off + i * 2) _ 55 (.int .i32 (p.1 : Nat)) h1
  have g2 := heap_setCell_same _ b (off + i * 2 + 1) _ 55 (.int .u8 (p.2 : Nat)) g1
  have hcell : ∀ j, ((w.setCell ⟨b, off + i * 2, none⟩ (.int .i32 (p.1 : Nat))).setCell ⟨b, off + i * 2 + 1, none⟩ (.int .u8 (p.2 : Nat))).cell? ⟨b, j, none⟩ = ((cur.setIfInBounds (off + i * 2) (.int .i32 (p.1 : Nat))).setIfInBounds (off + i * 2 + 1) (.int .u8 (p.2 : Nat)))[j]? := fun j => by simp [World.cell?, g2]
  have hold : ∀ j, w.cell? ⟨b, j, none⟩ = cur[j]? := fun j => by simp [World.cell?, h1]
  rw [hold] at hi1 hi2
  have s1 := (Array.getElem?_eq_some_iff.1 hi1).1
  have s2 := (Array.getElem?_eq_some_iff.1 hi2).1
  refine ⟨⟨_, g2⟩, fun k q hq => ?_⟩
  rw [hcell, hcell]
  by_cases e : k = i
  · subst e
    rw [List.getElem?_set_self hi] at hq
    simp only [Option.some.injEq] at hq
    subst hq
    exact ⟨by rw [Array.getElem?_setIfInBounds_ne (by omega), Array.getElem?_setIfInBounds_self_of_lt s1], by rw [Array.getElem?_setIfInBounds_self_of_lt (by simpa using s2)]⟩
  · rw [List.getElem?_set_ne (fun e' => e e'.symm)] at hq
    obtain ⟨q1, q2⟩ := h.each k q hq
    rw [hold] at q1 q2
    exact ⟨by rw [Array.getElem?_setIfInBounds_ne (by omega), Array.getElem?_setIfInBounds_ne (by omega)]; exact q1, by rw [Array.getElem?_setIfInBounds_ne (by omega), Array.getElem?_setIfInBounds_ne (by omega)]; exact q2⟩

theorem RowC.diff {w : World} {b off k cap : Nat} {d m : List (Nat × Nat)} (h : RowC w b off d) (hk : d.take k = m) (hkl : k ≤ d.length) (hc : k ≤ cap) : DiffAt w (.slice (some ⟨b, off, none⟩) k cap) m := by
  obtain ⟨cur, h1⟩ := h.blk
  have hl : m.length = k := by rw [← hk]; simp; omega
  refine ⟨some ⟨b, off, none⟩, cap, by rw [hl], by omega, .inr ⟨b, off, cur, rfl, h1, fun i p hp => h.each i p ?_⟩⟩
  rw [← hk] at hp
  rw [List.getElem?_take] at hp
  split at hp
  · exact hp
  · cases hp

theorem DiffAt.rowC {w : World} {b off cap n : Nat} {l : List (Nat × Nat)} (h : DiffAt w (.slice (some ⟨b, off, none⟩) n cap) l) (hne : l ≠ []) : RowC w b off l := by
  obtain ⟨a, c, hv, _, h⟩ := h
  simp only [Value.slice.injEq] at hv
  obtain ⟨rfl, _, _⟩ := hv
  rcases h with h | ⟨b', o', cur, e, h1, h2⟩
  · exact absurd h hne
  · simp only [Option.some.injEq, Addr.mk.injEq, and_true] at e
    obtain ⟨rfl, rfl⟩ := e
    exact ⟨⟨cur, h1⟩, h2⟩

/-- Of each run of one class the first, i cells looked at. -/
def cptTo (l : List (Nat × Nat)) : Nat → List (Nat × Nat)
  | 0 => []
  | i + 1 => if i = 0 ∨ (l.getD i (0, 0)).1 ≠ (l.getD (i - 1) (0, 0)).1 then cptTo l i ++ [l.getD i (0, 0)] else cptTo l i

def CptPost (w : World) (b : Nat) (l : List (Nat × Nat)) (e : Ending) (w' : World) : Prop := ∃ v, e = .returned v ∧ DiffAt w' v (cptTo l l.length) ∧ w.grownBy w' (some b)

theorem cpt_skip {l : List (Nat × Nat)} {i : Nat} (h0 : i ≠ 0) (h : ((l.getD i (0, 0)).1 == (l.getD (i - 1) (0, 0)).1) = true) : cptTo l (i + 1) = cptTo l i := by
  rw [cptTo, if_neg]
  rintro (h1 | h1)
  · exact h0 h1
  · exact h1 (by simpa using h)
theorem cpt_keep {l : List (Nat × Nat)} {i : Nat} (h : ((l.getD i (0, 0)).1 == (l.getD (i - 1) (0, 0)).1) = false) : cptTo l (i + 1) = cptTo l i ++ [l.getD i (0, 0)] := by
  rw [cptTo, if_pos]
  exact .inr (by simpa using h)

theorem cpt_all {l : List (Nat × Nat)} {k : Nat} (hk : k < l.length) (h : cptTo l k = l.take k) (hd : ((l.getD k (0, 0)).1 == (l.getD (k - 1) (0, 0)).1) = false) : cptTo l (k + 1) = l.take (k + 1) := by
  rw [cpt_keep hd, h, List.take_add_one]
  simp [List.getD, hk]

/-- What the inner loop keeps: i cells looked at, k kept. -/
structure CI (l d : List (Nat × Nat)) (i k : Nat) : Prop where
  len : d.length = l.length
  low : d.take k = cptTo l i
  klen : (cptTo l i).length = k
  lt : k < i
  high : ∀ j, i ≤ j + 1 → d.getD j (0, 0) = l.getD j (0, 0)

theorem CI.skip {l d : List (Nat × Nat)} {i k : Nat} (h : CI l d i k) (hd : ((l.getD i (0, 0)).1 == (l.getD (i - 1) (0, 0)).1) = true) : CI l d (i + 1) k := by
  have h4 := h.lt
  have e := cpt_skip (l := l) (i := i) (by omega) hd
  exact ⟨h.len, by rw [e]; exact h.low, by rw [e]; exact h.klen, by omega, fun j hj => h.high j (by omega)⟩

theorem CI.keep {l d : List (Nat × Nat)} {i k : Nat} (h : CI l d i k) (hi : i < l.length) (hd : ((l.getD i (0, 0)).1 == (l.getD (i - 1) (0, 0)).1) = false) : CI l (d.set k (l.getD i (0, 0))) (i + 1) (k + 1) := by
  have h4 := h.lt
  have hl := h.len
  have e := cpt_keep (l := l) (i := i) hd
  refine ⟨by simpa using h.len, ?_, by rw [e]; simp [h.klen], by omega, fun j hj => ?_⟩
  · rw [e, ← h.low, List.take_add_one, List.take_set_of_le (Nat.le_refl _)]
    simp [show k < d.length by omega]
  · rw [← h.high j (by omega)]
    simp only [List.getD, List.getElem?_set_ne (show k ≠ j by omega)]
theorem Below.grownBy {w w' : World} (h : Below w.heap.size w w') (row : Option Nat) : w.grownBy w' row := ⟨h.os, h.tape, h.output, h.size, fun i hi _ => h.block i hi⟩

theorem grown_setCells {w : World} {p : Nat} : ∀ (vs : List Value) (o : Nat) {w' : World}, w.grownBy w' (some p) → w.grownBy (w'.setCells p o vs) (some p)
  | [], _, _, h => h
  | v :: r, o, w', h => grown_setCells r (o + 1) (grown_setCell h)

theorem blk_setCells {p : Nat} {t : TypeId} : ∀ (vs : List Value) (o : Nat) {w : World} {cur : Array Value}, w.heap[p]? = some (.cells cur t (0, 0)) → ∃ cur', (w.setCells p o vs).heap[p]? = some (.cells cur' t (0, 0))
  | [], _, _, cur, h => ⟨cur, h⟩
  | v :: r, o, w, cur, h => blk_setCells r (o + 1) (heap_setCell_same w p o _ t v h)

theorem zero55 (w : World) : (zeroValue 55).run Yba.prog w = .ok (.agg #[.int .i32 0, .int .u8 0]) w := by kernel_rfl

theorem run_clear2 (w : World) (ty : TypeId) (b o n c : Nat) (hn : 0 < n) (hc : ∀ j, j < n * 2 → (w.cell? ⟨b, o + j, none⟩).isSome = true) (hf : ∀ j, w.frozen? ⟨b, j, none⟩ = false) :
    (Builtin.clear_ #[53] ty #[.slice (some ⟨b, o, none⟩) n c]).run Yba.prog w = .ok (.tuple #[]) (w.setCells b o (Builtin.zeroCells #[.int .i32 0, .int .u8 0] n).toList) := by
  have hlen : (Builtin.zeroCells #[.int .i32 0, .int .u8 0] n).toList.length = n * 2 := by simp [Builtin.zeroCells]
  have hst := run_storeCells_cells (P := Yba.prog) b o (Builtin.zeroCells #[.int .i32 0, .int .u8 0] n).toList 0 w (by simpa [hlen] using hc) (by intro j hj; exact hf _) (by
    intro v hv
    simp only [Builtin.zeroCells, Array.toList_map, List.mem_map] at hv
    obtain ⟨i, _, rfl⟩ := hv
    rcases Nat.mod_two_eq_zero_or_one i with h | h <;> simp [h] <;> rfl)
  simp only [Nat.add_zero] at hst
  obtain ⟨m, rfl⟩ : ∃ m, n = m + 1 := ⟨n - 1, by omega⟩
  simp [Builtin.clear_, run_underlying Yba.underlying53, zero55, Value.cells, hst]
theorem RowC.cleared {w : World} {b off k cap : Nat} {d m : List (Nat × Nat)} (h : RowC w b off d) (hk : d.take k = m) (hkl : k ≤ d.length) (hc : k ≤ cap) (vs : List Value) : DiffAt (w.setCells b (off + k * 2) vs) (.slice (some ⟨b, off, none⟩) k cap) m := by
  obtain ⟨cur, h1⟩ := h.blk
  obtain ⟨cur', h2⟩ := blk_setCells vs (off + k * 2) h1
  have hl : m.length = k := by rw [← hk]; simp; omega
  refine ⟨some ⟨b, off, none⟩, cap, by rw [hl], by omega, .inr ⟨b, off, cur', rfl, h2, fun i p hp => ?_⟩⟩
  rw [← hk] at hp
  rw [List.getElem?_take] at hp
  split at hp
  · rename_i hik
    obtain ⟨e1, e2⟩ := h.each i p hp
    rw [World.cell?_setCells_out b vs (off + k * 2) w _ (fun _ _ => .inl (by show off + i * 2 < _; omega)), World.cell?_setCells_out b vs (off + k * 2) w _ (fun _ _ => .inl (by show off + i * 2 + 1 < _; omega))]
    exact ⟨e1, e2⟩
  · cases hp

theorem keepC {wo W : World} {b o1 o2 : Nat} {x y : Nat × Nat} (h1 : wo.cell? ⟨b, o1, none⟩ = some (.int .i32 (x.1 : Nat))) (h2 : wo.cell? ⟨b, o1 + 1, none⟩ = some (.int .u8 (x.2 : Nat))) (h3 : wo.cell? ⟨b, o2, none⟩ = some (.int .i32 (y.1 : Nat))) (h4 : wo.cell? ⟨b, o2 + 1, none⟩ = some (.int .u8 (y.2 : Nat))) (hb : Below wo.heap.size wo W) :
    W.cell? ⟨b, o1, none⟩ = some (.int .i32 (x.1 : Nat)) ∧ W.cell? ⟨b, o1 + 1, none⟩ = some (.int .u8 (x.2 : Nat)) ∧ W.cell? ⟨b, o2, none⟩ = some (.int .i32 (y.1 : Nat)) ∧ W.cell? ⟨b, o2 + 1, none⟩ = some (.int .u8 (y.2 : Nat)) ∧ Below wo.heap.size wo W :=
  ⟨(hb.cell (block_lt_of_cell h1)).trans h1, (hb.cell (block_lt_of_cell h2)).trans h2, (hb.cell (block_lt_of_cell h3)).trans h3, (hb.cell (block_lt_of_cell h4)).trans h4, hb⟩

set_option maxRecDepth 100000 in
set_option maxHeartbeats 3200000 in
theorem compact42 {w : World} {b off cap : Nat} {l : List (Nat × Nat)} (h : DiffAt w (.slice (some ⟨b, off, none⟩) l.length cap) l) (hc : l.length ≤ 1024) :
    Calls Yba.prog 42 #[.slice (some ⟨b, off, none⟩) l.length cap, .func (.func 43) #[] #[]] w (CptPost w b l) := by
  have hcap : l.length ≤ cap := by
    obtain ⟨a, c, hv, hc, _⟩ := h
    simp only [Value.slice.injEq] at hv
    omega
  rcases Nat.lt_or_ge l.length 2 with h2 | h2
  · have e : cptTo l l.length = l := by
      match l, h2 with
      | [], _ => rfl
      | [x], _ => rfl
      | x :: y :: t, h => simp at h; omega
    have t1 : (l.length : Int) < 2 := by omega
    have HD := hid (show CptPost w b l (.returned (.slice (some ⟨b, off, none⟩) l.length cap)) w from ⟨_, rfl, by rw [e]; exact h, World.grownBy.refl _ _⟩)
    clear h e
    go_enter Yba.func42, Yba.ntmps42
    go_wp2_with fail
    go_ret
    exact HD.out
  · have t1 : ¬ (l.length : Int) < 2 := by omega
    have HR := hid (h.rowC (fun e => by rw [e] at h2; simp at h2))
    clear h
    go_enter Yba.func42, Yba.ntmps42
    go_wp2_with fail
    go_loopw [5] (fun vk wr => ∃ k : Nat, 1 ≤ k ∧ k ≤ l.length ∧ vk = .int .i64 k ∧ cptTo l k = l.take k ∧ w.grownBy wr (some b) ∧ RowC wr b off l) (fun vk _ => l.length - (intOf vk).toNat)
    case atStart => exact ⟨1, by omega, by omega, rfl, by
      match l, h2 with
      | x :: y :: t, _ => rfl, World.grownBy.refl _ _, HR.out⟩
    case round =>
      obtain ⟨k, hk1, hk, rfl, hpre, hg, hr⟩ := hrel
      clear HR
      have HR := hid hr
      have HG := hid hg
      have HP := hid hpre
      clear hr hg hpre
      generalize wr = wo at HR HG ⊢
      rcases Nat.lt_or_ge k l.length with hlt | hge
      · have t2 : (k : Int) < (l.length : Int) := by omega
        obtain ⟨jm, hjm⟩ : ∃ jm, k = jm + 1 := ⟨k - 1, by omega⟩
        have t4 : (jm : Int) < (l.length : Int) := by omega
        obtain ⟨c1, c2⟩ := HR.out.at hlt
        obtain ⟨c3, c4⟩ := HR.out.at (show jm < l.length by omega)
        obtain ⟨x, hx⟩ : ∃ x, x = l.getD k (0, 0) := ⟨_, rfl⟩
        obtain ⟨y, hy⟩ : ∃ y, y = l.getD jm (0, 0) := ⟨_, rfl⟩
        rw [← hx] at c1 c2
        rw [← hy] at c3 c4
        have HX := hid (show l.getD k (0, 0) = x ∧ l.getD (k - 1) (0, 0) = y from ⟨hx.symm, by rw [show k - 1 = jm by omega]; exact hy.symm⟩)
        have hw1 : IntKind.i64.wrap ((k : Int) - 1) = (jm : Int) := by
          simp [IntKind.wrap, IntKind.bits, IntKind.signed]
          omega
        clear hx hy
        have KP := hid (fun W (hb : Below wo.heap.size wo W) => keepC c1 c2 c3 c4 hb)
        have hb0 := Below.refl wo.heap.size wo
        have HJ := hid hjm
        clear c1 c2 c3 c4 hjm
        go_upto_region 6 with fail
        go_cut [28] from 18 to 28 (fun v wx => v = .bool (x.1 == y.1) ∧ Below wo.heap.size wo wx)
        case first =>
          go_region_held3 (fun W => W.cell? ⟨b, off + k * 2, none⟩ = some (.int .i32 (x.1 : Nat)) ∧ W.cell? ⟨b, off + k * 2 + 1, none⟩ = some (.int .u8 (x.2 : Nat)) ∧ W.cell? ⟨b, off + jm * 2, none⟩ = some (.int .i32 (y.1 : Nat)) ∧ W.cell? ⟨b, off + jm * 2 + 1, none⟩ = some (.int .u8 (y.2 : Nat)) ∧ Below wo.heap.size wo W)
            (first | exact KP.out _ (Below.drew (by assumption)) | exact KP.out _ (by assumption) | exact KP.out _ (below_al (below_al (Below.drew (by assumption)) _) _))
            ((go_at_call 43; refine (same43 x y _).mono ?_; rintro e w' ⟨rfl, rfl⟩))
          all_goals go_wp2_with fail
          all_goals go_meet
          all_goals exact ⟨rfl, below_al (below_al (Below.drew (by assumption)) _) _⟩
        case rest =>
          obtain ⟨rfl, hbc⟩ := hcut
          have HR1 := hid (HR.out.below hbc)
          have HG1 := hid (HG.out.andThen (Below.grownBy hbc none) (fun j hj => by cases hj))
          clear hbc KP hb0
          cases g : (x.1 == y.1)
          · go_wp2_with fail
            go_roundw
            case rel => exact ⟨k + 1, by omega, by omega, by simp, cpt_all hlt HP.out (by rw [HX.out.1, HX.out.2]; exact g), HG1.out, HR1.out⟩
            case measure => simp [intOf]; omega
          · go_wp2_with fail
            have H0 := hid (show CI l l (k + 1) k from ⟨rfl, by rw [cpt_skip (by omega) (by rw [HX.out.1, HX.out.2]; exact g)]; exact HP.out.symm, by rw [cpt_skip (by omega) (by rw [HX.out.1, HX.out.2]; exact g), HP.out]; simp; omega, by omega, fun _ _ => rfl⟩)
            clear HX HP HR HG HJ hw1
            generalize wc = wi at HR1 HG1 ⊢
            go_loopw [5, 7] (fun vk v2 wr => ∃ (kk k2 : Nat) (d : List (Nat × Nat)), 1 ≤ k2 ∧ k + k2 ≤ l.length ∧ vk = .int .i64 kk ∧ v2 = .int .i64 k2 ∧ CI l d (k + k2) kk ∧ w.grownBy wr (some b) ∧ RowC wr b off d) (fun _ v2 _ => l.length - (intOf v2).toNat)
            case atStart => exact ⟨k, 1, l, by omega, by omega, rfl, rfl, H0.out, HG1.out, HR1.out⟩
            case round =>
              obtain ⟨kk, k2, d, h21, hle, rfl, rfl, hci, hg, hr⟩ := hrel
              clear HR1 HG1 H0
              have HR := hid hr
              have HG := hid hg
              have HI := hid hci
              have hkk := hci.lt
              have hdl := hci.len
              clear hr hg hci
              generalize wr = wi at HR HG ⊢
              rcases Nat.lt_or_ge (k + k2) l.length with hlt2 | hge2
              · have t5 : (k2 : Int) < ((l.length - k : Nat) : Int) := by omega
                obtain ⟨jm, hjm⟩ : ∃ jm, k2 = jm + 1 := ⟨k2 - 1, by omega⟩
                have t6 : (jm : Int) < ((l.length - k : Nat) : Int) := by omega
                have t7 : (kk : Int) < (l.length : Int) := by omega
                have hw1 : IntKind.i64.wrap ((k2 : Int) - 1) = (jm : Int) := by
                  simp [IntKind.wrap, IntKind.bits, IntKind.signed]
                  omega
                obtain ⟨c1, c2⟩ := HR.out.at (i := k + k2) (by omega)
                obtain ⟨c3, c4⟩ := HR.out.at (i := k + jm) (by omega)
                rw [HI.out.high (k + k2) (by omega), show off + (k + k2) * 2 = off + k * 2 + k2 * 2 by omega] at c1 c2
                rw [HI.out.high (k + jm) (by omega), show off + (k + jm) * 2 = off + k * 2 + jm * 2 by omega] at c3 c4
                obtain ⟨x, hx⟩ : ∃ x, x = l.getD (k + k2) (0, 0) := ⟨_, rfl⟩
                obtain ⟨y, hy⟩ : ∃ y, y = l.getD (k + jm) (0, 0) := ⟨_, rfl⟩
                rw [← hx] at c1 c2
                rw [← hy] at c3 c4
                have HX := hid (show l.getD (k + k2) (0, 0) = x ∧ l.getD (k + k2 - 1) (0, 0) = y from ⟨hx.symm, by rw [show k + k2 - 1 = k + jm by omega]; exact hy.symm⟩)
                have KP := hid (fun W (hb : Below wi.heap.size wi W) => keepC c1 c2 c3 c4 hb)
                have hb0 := Below.refl wi.heap.size wi
                have HJ := hid hjm
                clear c1 c2 c3 c4 hjm hx hy
                go_upto_region 11 with fail
                go_cut [49] from 38 to 49 (fun v wx => v = .bool (!(x.1 == y.1)) ∧ Below wi.heap.size wi wx)
                case first =>
                  go_region_held3 (fun W => W.cell? ⟨b, off + k * 2 + k2 * 2, none⟩ = some (.int .i32 (x.1 : Nat)) ∧ W.cell? ⟨b, off + k * 2 + k2 * 2 + 1, none⟩ = some (.int .u8 (x.2 : Nat)) ∧ W.cell? ⟨b, off + k * 2 + jm * 2, none⟩ = some (.int .i32 (y.1 : Nat)) ∧ W.cell? ⟨b, off + k * 2 + jm * 2 + 1, none⟩ = some (.int .u8 (y.2 : Nat)) ∧ Below wi.heap.size wi W)
                    (first | exact KP.out _ (Below.drew (by assumption)) | exact KP.out _ (by assumption) | exact KP.out _ (below_al (below_al (Below.drew (by assumption)) _) _))
                    ((go_at_call 43; refine (same43 x y _).mono ?_; rintro e w' ⟨rfl, rfl⟩))
                  all_goals go_wp2_with fail
                  all_goals go_meet
                  all_goals exact ⟨rfl, below_al (below_al (Below.drew (by assumption)) _) _⟩
                case rest =>
                  obtain ⟨rfl, hbc⟩ := hcut
                  have HR1 := hid (HR.out.below hbc)
                  have HG1 := hid (HG.out.andThen (Below.grownBy hbc none) (fun j hj => by cases hj))
                  obtain ⟨k1, k2', _, _, _⟩ := KP.out _ hbc
                  clear hbc KP hb0
                  cases g2 : (x.1 == y.1)
                  · obtain ⟨z0, z1⟩ := HR1.out.at (i := kk) (by omega)
                    have zf := fun j => HR1.out.fz j
                    have HS := hid (HR1.out.set (i := kk) x (by omega))
                    have HGS := hid (show w.grownBy ((wc.setCell ⟨b, off + kk * 2, none⟩ (.int .i32 (x.1 : Nat))).setCell ⟨b, off + kk * 2 + 1, none⟩ (.int .u8 (x.2 : Nat))) (some b) from grown_setCell (grown_setCell HG1.out))
                    have HIS := hid (show CI l (d.set kk x) (k + (k2 + 1)) (kk + 1) from by
                      have := HI.out.keep (by omega) (by rw [HX.out.1, HX.out.2]; exact g2)
                      rw [HX.out.1] at this
                      exact this)
                    generalize d.getD kk (0, 0) = z at z0 z1
                    go_wp2_with fail
                    go_roundw
                    case rel => exact ⟨kk + 1, k2 + 1, d.set kk x, by omega, by omega, by simp, by simp, HIS.out, HGS.out, HS.out⟩
                    case measure => simp [intOf]; omega
                  · go_wp2_with fail
                    go_roundw
                    case rel => exact ⟨kk, k2 + 1, d, by omega, by omega, rfl, by simp, HI.out.skip (by rw [HX.out.1, HX.out.2]; exact g2), HG1.out, HR1.out⟩
                    case measure => simp [intOf]; omega
              · have hend : k + k2 = l.length := by omega
                have t5 : ¬ (k2 : Int) < ((l.length - k : Nat) : Int) := by omega
                have hcl : ∀ ty, (Builtin.clear_ #[53] ty #[.slice (some ⟨b, off + kk * 2, none⟩) (l.length - kk) (cap - kk)]).run Yba.prog wi = .ok (.tuple #[]) (wi.setCells b (off + kk * 2) (Builtin.zeroCells #[.int .i32 0, .int .u8 0] (l.length - kk)).toList) := fun ty =>
                  run_clear2 wi ty b _ _ _ (by omega) (fun j hj => by
                    have h1 := HR.out.at (i := kk + j / 2) (by omega)
                    rcases Nat.mod_two_eq_zero_or_one j with e | e
                    · rw [show off + kk * 2 + j = off + (kk + j / 2) * 2 by omega, h1.1]; rfl
                    · rw [show off + kk * 2 + j = off + (kk + j / 2) * 2 + 1 by omega, h1.2]; rfl) (fun j => HR.out.fz j)
                have HF := hid (show CptPost w b l (.returned (.slice (some ⟨b, off, none⟩) kk cap)) (wi.setCells b (off + kk * 2) (Builtin.zeroCells #[.int .i32 0, .int .u8 0] (l.length - kk)).toList) from ⟨_, rfl, HR.out.cleared (by rw [HI.out.low, hend]) (by omega) (by omega) _, grown_setCells _ _ HG.out⟩)
                generalize (Builtin.zeroCells #[.int .i32 0, .int .u8 0] (l.length - kk)).toList = zs at *
                have t7 : (kk : Int) ≤ (l.length : Int) := by omega
                have t8 : (kk : Int) ≤ (cap : Int) := by omega
                go_wp2_with fail
                go_ret
                exact HF.out
      · have : k = l.length := by omega
        subst this
        have t2 : ¬ (l.length : Int) < (l.length : Int) := by omega
        go_wp2_with fail
        go_ret
        refine ⟨_, rfl, ?_, HG.out⟩
        rw [HP.out]
        exact HR.out.diff (k := l.length) rfl (Nat.le_refl _) hcap
end Go.Proofs.Ybulkatiq
