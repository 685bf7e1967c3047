/-
  The memory of a ledger, and the walks of find and findPR.
-/
import Derived.Test.YbulkatmkFmtRows
import Derived.Test.YbulkatmkFmtErr
import Derived.Test.YbulkatmkFmtShelf
import Derived.WalkKit
import Derived.ProofKit
import Derived.OpenShut
import Derived.WalkSpells
import Derived.WalkLawsBesides
namespace Go.Proofs.YbulkatmkFmt
open Go.ChangeShapes Go.WideShapes Go.ChangeAt Go.RowKit

theorem hid {p : Prop} (h : p) : Hid p := h

structure Iss where
  issue : Int
  state : ByteArray
  fixes : Int
  pr : Int
  branch : ByteArray

def Iss.cells (x : Iss) : Array Value := #[.int .i64 x.issue, .string x.state, .int .i64 x.fixes, .int .i64 x.pr, .string x.branch]

def IssAt (w : World) (p : Nat) (x : Iss) : Prop := w.heap[p]? = some (.cells x.cells 32 (0, 0))

section
variable {w : World} {p : Nat} {x : Iss}
theorem IssAt.c0 (h : IssAt w p x) : w.cell? ⟨p, 0, none⟩ = some (.int .i64 x.issue) := by unfold IssAt at h; simp [World.cell?, h, Iss.cells]
theorem IssAt.c1 (h : IssAt w p x) : w.cell? ⟨p, 1, none⟩ = some (.string x.state) := by unfold IssAt at h; simp [World.cell?, h, Iss.cells]
theorem IssAt.c2 (h : IssAt w p x) : w.cell? ⟨p, 2, none⟩ = some (.int .i64 x.fixes) := by unfold IssAt at h; simp [World.cell?, h, Iss.cells]
theorem IssAt.c3 (h : IssAt w p x) : w.cell? ⟨p, 3, none⟩ = some (.int .i64 x.pr) := by unfold IssAt at h; simp [World.cell?, h, Iss.cells]
theorem IssAt.c4 (h : IssAt w p x) : w.cell? ⟨p, 4, none⟩ = some (.string x.branch) := by unfold IssAt at h; simp [World.cell?, h, Iss.cells]
theorem IssAt.fz (h : IssAt w p x) (o : Nat) : w.frozen? ⟨p, o, none⟩ = false := by unfold IssAt at h; simp [World.frozen?, h]
theorem IssAt.lt (h : IssAt w p x) : p < w.heap.size := lt_of_block h
theorem IssAt.set {o : Nat} {v : Value} {y : Iss} (h : IssAt w p x) (he : x.cells.setIfInBounds o v = y.cells) : IssAt (w.setCell ⟨p, o, none⟩ v) p y := by
  have := heap_setCell_same w p o _ 32 v h
  rw [he] at this
  exact this
end

structure Led (w : World) (L : Nat) (a : Option Addr) (cap R : Nat) (q : Nat → Nat) (xs : List Iss) : Prop where
  head : w.cell? ⟨L, 0, none⟩ = some (.slice a xs.length cap)
  addr : 0 < xs.length → a = some ⟨R, 0, none⟩
  small : xs.length ≤ 1024
  ptr : ∀ i, i < xs.length → w.cell? ⟨R, i, none⟩ = some (.pointer (some ⟨q i, 0, none⟩))
  here : ∀ i x, xs[i]? = some x → IssAt w (q i) x

theorem findIdx_none {p : Iss → Bool} {xs : List Iss} (h : ∀ j y, j < xs.length → xs[j]? = some y → p y = false) : xs.findIdx? p = none := by
  rw [List.findIdx?_eq_none_iff]
  intro x hx
  obtain ⟨j, hj, e⟩ := List.getElem_of_mem hx
  exact h j x hj (by rw [← e]; simp [hj])

theorem findIdx_some {p : Iss → Bool} {xs : List Iss} {i : Nat} {x : Iss} (hi : xs[i]? = some x) (hx : p x = true) (h : ∀ j y, j < i → xs[j]? = some y → p y = false) : xs.findIdx? p = some i := by
  obtain ⟨hl, e⟩ := List.getElem?_eq_some_iff.1 hi
  rw [List.findIdx?_eq_some_iff_getElem]
  refine ⟨hl, by rw [e]; exact hx, fun j hj => ?_⟩
  have := h j xs[j] hj (by simp [show j < xs.length by omega])
  simp [this]

def isNo (n : Int) (x : Iss) : Bool := x.issue == n
def isPr (n : Int) (x : Iss) : Bool := x.pr == n && !(n == 0)
def noIdx (n : Int) (xs : List Iss) : Option Nat := xs.findIdx? (isNo n)
def prIdx (n : Int) (xs : List Iss) : Option Nat := xs.findIdx? (isPr n)
def ptrAt (q : Nat → Nat) (i : Option Nat) : Value := .pointer (i.map fun i => ⟨q i, 0, none⟩)

set_option maxRecDepth 100000 in
set_option maxHeartbeats 400000 in
theorem find_any {w : World} {L : Nat} {a : Option Addr} {cap R : Nat} {q : Nat → Nat} {xs : List Iss} (h : Led w L a cap R q xs) (n : Int) :
    Calls Ybaf.prog 24 #[.pointer (some ⟨L, 0, none⟩), .int .i64 n] w fun e w' => e = .returned (ptrAt q (noIdx n xs)) ∧ w = w' := by
  have hhead := h.head
  have hsmall := h.small
  rcases Nat.eq_zero_or_pos xs.length with h0 | h0
  · have : xs = [] := List.eq_nil_of_length_eq_zero h0
    subst this
    simp only [List.length_nil] at hhead
    clear h h0 hsmall
    go_enter Ybaf.func24, Ybaf.ntmps24
    go_wp2
    refine wp_loop_rounds 1 ?_
    rw [rounds_succ]
    go_wp2
    go_ret
    exact ⟨rfl, rfl⟩
  · have ha := h.addr h0
    subst ha
    have HL := hid h
    clear h
    go_enter Ybaf.func24, Ybaf.ntmps24
    go_wp2
    go_loop [12] (fun i => ∃ k : Nat, k ≤ xs.length ∧ i = .int .i64 k ∧ ∀ j y, j < k → xs[j]? = some y → isNo n y = false) (fun i => xs.length - (intOf i).toNat)
    case atStart => exact ⟨0, by omega, rfl, fun j y hj => by omega⟩
    case round =>
      obtain ⟨k, hk, rfl, hbef⟩ := hrel
      have HB := hid hbef
      clear hbef
      rcases Nat.lt_or_ge k xs.length with hlt | hge
      · obtain ⟨x, hx⟩ : ∃ x, xs[k]? = some x := ⟨xs[k], by simp [hlt]⟩
        have hp := HL.out.ptr k hlt
        have hc := (HL.out.here k x hx).c0
        have HX := hid hx
        clear hx
        have t1 : (k : Int) < (xs.length : Int) := by omega
        by_cases hm : (x.issue == n) = true
        · go_wp2
          go_ret
          rw [noIdx, findIdx_some HX.out hm HB.out]
          exact ⟨rfl, rfl⟩
        · have hm' : (x.issue == n) = false := by simpa using hm
          go_wp2
          refine ⟨⟨k + 1, by omega, rfl, fun j y hj hy => ?_⟩, by simp [intOf]; omega⟩
          rcases Nat.lt_or_ge j k with hjk | hjk
          · exact HB.out j y hjk hy
          · have : j = k := by omega
            subst this
            rw [HX.out] at hy
            simp only [Option.some.injEq] at hy
            subst hy
            exact hm'
      · have : k = xs.length := by omega
        subst this
        go_wp2
        go_ret
        rw [noIdx, findIdx_none HB.out]
        exact ⟨rfl, rfl⟩

set_option maxRecDepth 100000 in
set_option maxHeartbeats 400000 in
theorem findPR_any {w : World} {L : Nat} {a : Option Addr} {cap R : Nat} {q : Nat → Nat} {xs : List Iss} (h : Led w L a cap R q xs) (n : Int) :
    Calls Ybaf.prog 31 #[.pointer (some ⟨L, 0, none⟩), .int .i64 n] w fun e w' => e = .returned (ptrAt q (prIdx n xs)) ∧ w = w' := by
  have hhead := h.head
  have hsmall := h.small
  rcases Nat.eq_zero_or_pos xs.length with h0 | h0
  · have : xs = [] := List.eq_nil_of_length_eq_zero h0
    subst this
    simp only [List.length_nil] at hhead
    clear h h0 hsmall
    go_enter Ybaf.func31, Ybaf.ntmps31
    go_wp2
    refine wp_loop_rounds 1 ?_
    rw [rounds_succ]
    go_wp2
    go_ret
    exact ⟨rfl, rfl⟩
  · have ha := h.addr h0
    subst ha
    have HL := hid h
    clear h
    go_enter Ybaf.func31, Ybaf.ntmps31
    go_wp2
    go_loop [12] (fun i => ∃ k : Nat, k ≤ xs.length ∧ i = .int .i64 k ∧ ∀ j y, j < k → xs[j]? = some y → isPr n y = false) (fun i => xs.length - (intOf i).toNat)
    case atStart => exact ⟨0, by omega, rfl, fun j y hj => by omega⟩
    case round =>
      obtain ⟨k, hk, rfl, hbef⟩ := hrel
      have HB := hid hbef
      clear hbef
      rcases Nat.lt_or_ge k xs.length with hlt | hge
      · obtain ⟨x, hx⟩ : ∃ x, xs[k]? = some x := ⟨xs[k], by simp [hlt]⟩
        have hp := HL.out.ptr k hlt
        have hc := (HL.out.here k x hx).c3
        have HX := hid hx
        clear hx
        have t1 : (k : Int) < (xs.length : Int) := by omega
        have step : isPr n x = false → ∀ j y, j < k + 1 → xs[j]? = some y → isPr n y = false := by
          intro hm j y hj hy
          rcases Nat.lt_or_ge j k with hjk | hjk
          · exact HB.out j y hjk hy
          · have : j = k := by omega
            subst this
            rw [HX.out] at hy
            simp only [Option.some.injEq] at hy
            subst hy
            exact hm
        have ST := hid step
        clear step
        cases hm : (x.pr == n)
        · have HS := hid (ST.out (by unfold isPr; rw [hm]; rfl))
          clear ST
          go_wp2
          exact ⟨⟨k + 1, by omega, rfl, HS.out⟩, by simp [intOf]; omega⟩
        · cases hz : (n == 0)
          · have HS := hid (show prIdx n xs = some k from findIdx_some HX.out (by unfold isPr; rw [hm, hz]; rfl) HB.out)
            clear ST
            go_wp2
            go_ret
            rw [HS.out]
            exact ⟨rfl, rfl⟩
          · have HS := hid (ST.out (by unfold isPr; rw [hm, hz]; rfl))
            clear ST
            go_wp2
            exact ⟨⟨k + 1, by omega, rfl, HS.out⟩, by simp [intOf]; omega⟩
      · have : k = xs.length := by omega
        subst this
        go_wp2
        go_ret
        rw [prIdx, findIdx_none HB.out]
        exact ⟨rfl, rfl⟩

end Go.Proofs.YbulkatmkFmt
