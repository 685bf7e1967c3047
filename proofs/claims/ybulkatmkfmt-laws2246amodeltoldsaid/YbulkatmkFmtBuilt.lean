/-
  The ledger and the rows that the law lays.
-/
import Derived.Test.YbulkatmkFmtVer
namespace Go.Proofs.YbulkatmkFmt
open Go.ChangeShapes Go.WideShapes Go.ChangeAt Go.RowKit Go.Extern.Stop Go.Stop

set_option maxRecDepth 100000 in
set_option maxHeartbeats 800000 in
theorem state_some (k : Int) (w : World) : Calls Ybaf.prog 5 #[.int .u8 k] w fun e w' => ∃ s, e = .returned (.string s) ∧ w = w' := by
  go_enter Ybaf.func5, Ybaf.ntmps5
  go_wp2
  all_goals go_ret
  all_goals exact ⟨_, rfl, rfl⟩

set_option maxRecDepth 100000 in
set_option maxHeartbeats 800000 in
theorem target_some (k : Int) (w : World) : Calls Ybaf.prog 6 #[.int .u8 k] w fun e w' => ∃ s, e = .returned (.string s) ∧ w = w' := by
  go_enter Ybaf.func6, Ybaf.ntmps6
  go_wp2
  all_goals go_ret
  all_goals exact ⟨_, rfl, rfl⟩

theorem row_kind {w : World} {b : Nat} {e : TypeId} {s : Nat} {v : Value} {n : Nat} {xs : List Value} (h : w.ownsRow b e s v n xs) {g : Nat} (hg : v.ownBlock = some g) : ∃ cur, w.heap[g]? = some (.cells cur e (0, 0)) := by
  rcases h.2 with ⟨rfl, _⟩ | ⟨g', cap, cur, rfl, _, hgg, _⟩
  · cases hg
  · simp only [Value.ownBlock, Option.some.injEq] at hg; subst hg; exact ⟨cur, hgg⟩
theorem row_ne {w : World} {b : Nat} {e t : TypeId} {s p : Nat} {v : Value} {n : Nat} {xs : List Value} {cs : Array Value} (h : w.ownsRow b e s v n xs) (hp : w.heap[p]? = some (.cells cs t (0, 0))) (hne : e ≠ t) : v.ownBlock ≠ some p := by
  intro hv
  obtain ⟨c1, e1⟩ := row_kind h hv
  rw [hp] at e1
  simp at e1
  exact hne e1.2.symm

structure BefAt (bs : List Value) (j : Nat) (x : Iss) : Prop where
  b0 : bs[j * 5]? = some (.int .i64 x.issue)
  b1 : bs[j * 5 + 1]? = some (.string x.state)
  b2 : bs[j * 5 + 2]? = some (.int .i64 x.fixes)
  b3 : bs[j * 5 + 3]? = some (.int .i64 x.pr)
  b4 : bs[j * 5 + 4]? = some (.string x.branch)

def bs5 (bs : List Value) (k : Nat) (x : Iss) : List Value :=
  ((((bs.set (k * 5) (.int .i64 x.issue)).set (k * 5 + 1) (.string x.state)).set (k * 5 + 2) (.int .i64 x.fixes)).set (k * 5 + 3) (.int .i64 x.pr)).set (k * 5 + 4) (.string x.branch)

theorem bs5_same {bs : List Value} {k : Nat} {x : Iss} (h : k * 5 + 5 ≤ bs.length) : BefAt (bs5 bs k x) k x := by
  constructor <;> simp [bs5, List.getElem?_set] <;> omega

theorem bs5_other {bs : List Value} {k j : Nat} {x y : Iss} (h : BefAt bs j y) (hne : j ≠ k) : BefAt (bs5 bs k x) j y := by
  have h0 := h.b0
  have h1 := h.b1
  have h2 := h.b2
  have h3 := h.b3
  have h4 := h.b4
  constructor
  · unfold bs5; rw [List.getElem?_set_ne (by omega), List.getElem?_set_ne (by omega), List.getElem?_set_ne (by omega), List.getElem?_set_ne (by omega), List.getElem?_set_ne (by omega)]; exact h0
  · unfold bs5; rw [List.getElem?_set_ne (by omega), List.getElem?_set_ne (by omega), List.getElem?_set_ne (by omega), List.getElem?_set_ne (by omega), List.getElem?_set_ne (by omega)]; exact h1
  · unfold bs5; rw [List.getElem?_set_ne (by omega), List.getElem?_set_ne (by omega), List.getElem?_set_ne (by omega), List.getElem?_set_ne (by omega), List.getElem?_set_ne (by omega)]; exact h2
  · unfold bs5; rw [List.getElem?_set_ne (by omega), List.getElem?_set_ne (by omega), List.getElem?_set_ne (by omega), List.getElem?_set_ne (by omega), List.getElem?_set_ne (by omega)]; exact h3
  · unfold bs5; rw [List.getElem?_set_ne (by omega), List.getElem?_set_ne (by omega), List.getElem?_set_ne (by omega), List.getElem?_set_ne (by omega), List.getElem?_set_ne (by omega)]; exact h4

/-- A whole issue laid over five cells of a row. -/
def put5at (w : World) (b o : Nat) (y : Iss) : World :=
  ((((w.setCell ⟨b, o, none⟩ (.int .i64 y.issue)).setCell ⟨b, o + 1, none⟩ (.string y.state)).setCell ⟨b, o + 2, none⟩ (.int .i64 y.fixes)).setCell ⟨b, o + 3, none⟩ (.int .i64 y.pr)).setCell ⟨b, o + 4, none⟩ (.string y.branch)

theorem put5at_grown (w : World) (b o : Nat) (y : Iss) : w.grownBy (put5at w b o y) (some b) :=
  grown_setCell (grown_setCell (grown_setCell (grown_setCell (grown_setCell (World.grownBy.refl w _)))))

def ptrs (q : Nat → Nat) (k : Nat) : List Value := (List.range k).map fun j => .pointer (some ⟨q j, 0, none⟩)

structure Built (B n k : Nat) (wr : World) (v : Value) (q : Nat → Nat) (xs : List Iss) (bs : List Value) : Prop where
  len : xs.length = k
  led : wr.heap[B]? = some (.cells #[v] 26 (0, 0))
  bef : wr.ownsRow (B + 1) 32 5 (.slice (some ⟨B + 1, 0, none⟩) n n) n bs
  befs : ∀ j x, xs[j]? = some x → BefAt bs j x
  row : wr.ownsRow (B + 2) 33 1 v k (ptrs q k)
  iss : ∀ j x, xs[j]? = some x → IssAt wr (q j) x
  qB : ∀ j, j < k → B + 2 ≤ q j
  inj : ∀ i j, i < k → j < k → q i = q j → i = j

section
variable {B n k : Nat} {w w' : World} {v : Value} {q : Nat → Nat} {xs : List Iss} {bs : List Value}

theorem Built.lt (h : Built B n k w v q xs bs) : B < w.heap.size := lt_of_block h.led
theorem Built.lt1 (h : Built B n k w v q xs bs) : B + 1 < w.heap.size := (h.bef.lt (B + 1) rfl).2
theorem Built.bslen (h : Built B n k w v q xs bs) : bs.length = n * 5 := h.bef.1
theorem Built.vB (h : Built B n k w v q xs bs) {g : Nat} (hg : v.ownBlock = some g) : B + 2 ≤ g := (h.row.lt g hg).1

theorem Built.grew (h : Built B n k w v q xs bs) (hg : w.grownBy w' none) : Built B n k w' v q xs bs :=
  ⟨h.len, (hg.block _ h.lt (by simp)).trans h.led, h.bef.kept hg (.inr (by simp [Value.ownBlock])), h.befs, h.row.kept hg (by cases v.ownBlock <;> simp),
    fun j x hx => (hg.block _ (h.iss j x hx).lt (by simp)).trans (h.iss j x hx), h.qB, h.inj⟩

theorem Built.put (h : Built B n k w v q xs bs) (hk : k < n) (x : Iss) : Built B n k (put5at w (B + 1) (k * 5) x) v q xs (bs5 bs k x) ∧ BefAt (bs5 bs k x) k x := by
  have gr := put5at_grown w (B + 1) (k * 5) x
  have hl := h.bslen
  refine ⟨⟨h.len, (gr.block _ h.lt (by simp)).trans h.led, ?_, fun j y hy => ?_, h.row.kept gr ?_, fun j y hy => (gr.block _ (h.iss j y hy).lt ?_).trans (h.iss j y hy), h.qB, h.inj⟩, bs5_same (by omega)⟩
  · exact (((((h.bef.stored _ _).1.stored _ _).1.stored _ _).1.stored _ _).1.stored _ _).1
  · have : j < xs.length := (List.getElem?_eq_some_iff.1 hy).1
    have := h.len
    exact bs5_other (h.befs j y hy) (by omega)
  · cases hv : v.ownBlock with
    | none => exact .inl rfl
    | some g => refine .inr fun e => ?_; have := h.vB hv; simp only [Option.some.injEq] at e; omega
  · have : j < xs.length := (List.getElem?_eq_some_iff.1 hy).1
    have := h.qB j (by have := h.len; omega)
    simp; omega

theorem Built.snoc {v' : Value} {p : Nat} {x : Iss} (h : Built B n k w v q xs bs) (hb : BefAt bs k x) (hx : IssAt w p x) (hp : B + 2 ≤ p) (hpq : ∀ j, j < k → q j ≠ p)
    (hg : w.grownBy w' v.ownBlock) (hrow : w'.ownsRow (B + 2) 33 1 v' (k + 1) (ptrs q k ++ [.pointer (some ⟨p, 0, none⟩)])) :
    Built B n (k + 1) (w'.setCell ⟨B, 0, none⟩ v') v' (fun j => if j = k then p else q j) (xs ++ [x]) bs := by
  have gs : w'.grownBy (w'.setCell ⟨B, 0, none⟩ v') (some B) := grown_setCell (World.grownBy.refl w' _)
  have hlen := h.len
  have led' : w'.heap[B]? = some (.cells #[v] 26 (0, 0)) := (hg.block _ h.lt (fun e => by have := h.vB e.symm; omega)).trans h.led
  refine ⟨by simp [hlen], ?_, ?_, fun j y hy => ?_, ?_, fun j y hy => ?_, fun j hj => ?_, fun i j hi hj e => ?_⟩
  · have := heap_setCell_same w' B 0 _ 26 v' led'
    simpa using this
  · refine (h.bef.kept hg ?_).kept gs (.inr (by simp [Value.ownBlock]))
    refine .inr fun e => ?_
    have := h.vB (g := B + 1) (by rw [← e]; rfl)
    omega
  · rcases Nat.lt_or_ge j xs.length with hl | hl
    · rw [List.getElem?_append_left hl] at hy
      exact h.befs j y hy
    · have hj : j = k := by
        have := (List.getElem?_eq_some_iff.1 hy).1
        simp at this; omega
      subst hj
      rw [List.getElem?_append_right hl] at hy
      simp [hlen] at hy
      subst hy
      exact hb
  · have : ptrs q k ++ [.pointer (some ⟨p, 0, none⟩)] = ptrs (fun j => if j = k then p else q j) (k + 1) := by
      unfold ptrs
      rw [List.range_succ, List.map_append]
      congr 1
      · refine List.map_congr_left fun j hj => ?_
        have := List.mem_range.1 hj
        simp [Nat.ne_of_lt this]
      · simp
    rw [← this]
    refine hrow.kept gs ?_
    cases hv : v'.ownBlock with
    | none => exact .inl rfl
    | some g => refine .inr fun e => ?_; have := (hrow.lt g hv).1; simp only [Option.some.injEq] at e; omega
  · have keep : ∀ {r : Nat} {z : Iss}, B + 2 ≤ r → IssAt w r z → IssAt (w'.setCell ⟨B, 0, none⟩ v') r z := fun {r z} hr hz => by
      have h1 : IssAt w' r z := (hg.block _ hz.lt (fun e => (row_ne h.row hz (by decide)) e.symm)).trans hz
      exact (gs.block _ h1.lt (by simp; omega)).trans h1
    rcases Nat.lt_or_ge j xs.length with hl | hl
    · rw [List.getElem?_append_left hl] at hy
      simp only [if_neg (show ¬ j = k by omega)]
      exact keep (h.qB j (by omega)) (h.iss j y hy)
    · have hj : j = k := by
        have := (List.getElem?_eq_some_iff.1 hy).1
        simp at this; omega
      subst hj
      rw [List.getElem?_append_right hl] at hy
      simp [hlen] at hy
      subst hy
      simp only [if_true]
      exact keep hp hx
  · by_cases hjk : j = k
    · simp [hjk, hp]
    · simp only [if_neg hjk]; exact h.qB j (by omega)
  · by_cases h1 : i = k <;> by_cases h2 : j = k
    · omega
    · simp only [h1, if_true, if_neg h2] at e; exact absurd e.symm (hpq j (by omega))
    · simp only [h2, if_true, if_neg h1] at e; exact absurd e (hpq i (by omega))
    · simp only [if_neg h1, if_neg h2] at e; exact h.inj i j (by omega) (by omega) e
end
end Go.Proofs.YbulkatmkFmt
