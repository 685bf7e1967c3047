/-
  What Settle answers, as a plain function, and Settle by that contract.
-/
import Derived.Test.YbulkatmkFmtSettleE
import Derived.Test.YbulkatmkFmtSettleF
namespace Go.Proofs.YbulkatmkFmt
open Go.ChangeShapes Go.WideShapes Go.ChangeAt Go.RowKit Go.Extern.Stop Go.Stop

def isReady (tt : ByteArray) : Bool := tt.toList == [114, 101, 97, 100, 121]
def isDone (tt : ByteArray) : Bool := tt.toList == [100, 111, 110, 101]

structure Ver where
  ok : Bool
  noPR : Bool
  i : Nat
  want : Iss

def bad : Ver := ⟨false, false, 0, zeroIss⟩

def baseOf (n : Int) (tt : ByteArray) (x : Iss) : Iss :=
  if isReady tt = true then ⟨n, sReady, 0, 0, ⟨#[]⟩⟩ else if isDone tt = true then ⟨x.issue, sDone, x.fixes, x.pr, x.branch⟩ else ⟨x.issue, tt, 0, x.pr, x.branch⟩

def withPr (pr : Int) (y : Iss) : Iss := if pr = 0 then y else ⟨y.issue, y.state, y.fixes, pr, y.branch⟩

def good (n pr : Int) (tt : ByteArray) (i : Nat) (x : Iss) : Ver := ⟨true, false, i, withPr pr (baseOf n tt x)⟩

/-- The pull request pr is free for issue i. -/
def freeFor (pr : Int) (xs : List Iss) (i : Nat) : Bool := match prIdx pr xs with
  | none => true
  | some j => j == i

def verAt (n pr : Int) (tt : ByteArray) (xs : List Iss) (i : Nat) (x : Iss) : Ver :=
  if settledS x.state = false then bad
  else if targetS tt = false then bad
  else if pr < 0 then bad
  else if ¬ pr = 0 ∧ isReady tt = true then bad
  else if ¬ pr = 0 ∧ ¬ x.pr = 0 ∧ ¬ pr = x.pr then bad
  else if pr = 0 ∧ x.pr = 0 ∧ isReady tt = false then ⟨false, true, 0, zeroIss⟩
  else if freeFor pr xs i = false then bad
  else good n pr tt i x

def ver (n pr : Int) (tt : ByteArray) (xs : List Iss) : Ver := match noIdx n xs with
  | none => bad
  | some i => verAt n pr tt xs i (xs.getD i zeroIss)

def SettlePost (P : Places) (w : World) (v : Ver) (e : Ending) (w' : World) : Prop :=
  (v.ok = true ∧ Moved (P.q v.i) v.want w e w') ∨ (v.ok = false ∧ v.noPR = true ∧ RefusedNoPR (.iface 104 (.pointer (some P.ea))) w e w') ∨ (v.ok = false ∧ v.noPR = false ∧ Refused w e w')

theorem SettlePost.bad {P : Places} {w w' : World} {e : Ending} (h : Refused w e w') : SettlePost P w bad e w' := .inr (.inr ⟨rfl, rfl, h⟩)

theorem prIdx_zero (xs : List Iss) : prIdx 0 xs = none := findIdx_none fun _ y _ _ => by simp [isPr]

theorem prIdx_lt {n : Int} {xs : List Iss} {j : Nat} (h : prIdx n xs = some j) : ∃ y, xs[j]? = some y := by
  unfold prIdx at h
  rw [List.findIdx?_eq_some_iff_getElem] at h
  obtain ⟨hl, _⟩ := h
  exact ⟨xs[j], by simp [hl]⟩

theorem noIdx_lt {n : Int} {xs : List Iss} {j : Nat} (h : noIdx n xs = some j) : ∃ y, xs[j]? = some y := by
  unfold noIdx at h
  rw [List.findIdx?_eq_some_iff_getElem] at h
  obtain ⟨hl, _⟩ := h
  exact ⟨xs[j], by simp [hl]⟩

theorem settle_any {F : Interp} {P : Places} {w : World} (h : Env F P w) (n pr : Int) (tt : ByteArray) :
    Calls Ybaf.prog 7 #[.pointer (some ⟨P.L, 0, none⟩), .int .i64 n, .string tt, .int .i64 pr] w (SettlePost P w (ver n pr tt P.xs)) := by
  unfold ver
  cases hi : noIdx n P.xs with
  | none => exact (settle_miss h n pr tt hi).mono fun _ _ hr => SettlePost.bad hr
  | some i =>
    obtain ⟨x, hx⟩ := noIdx_lt hi
    have hgx : P.xs.getD i zeroIss = x := by simp [List.getD, hx]
    simp only [hgx]
    unfold verAt
    by_cases hs : settledS x.state = false
    · rw [if_pos hs]
      exact (settle_unsettled h n pr tt i x hi hx hs).mono fun _ _ hr => SettlePost.bad hr
    have hs' : settledS x.state = true := by simpa using hs
    rw [if_neg hs]
    by_cases ht : targetS tt = false
    · rw [if_pos ht]
      exact (settle_untarget h n pr tt i x hi hx hs' ht).mono fun _ _ hr => SettlePost.bad hr
    have ht' : targetS tt = true := by simpa using ht
    rw [if_neg ht]
    by_cases hp : pr < 0
    · rw [if_pos hp]
      exact (settle_neg h n pr tt i x hi hx hs' ht' hp).mono fun _ _ hr => SettlePost.bad hr
    rw [if_neg hp]
    by_cases hr : ¬ pr = 0 ∧ isReady tt = true
    · rw [if_pos hr]
      exact (settle_ready h n pr tt i x hi hx hs' ht' hp hr.1 hr.2).mono fun _ _ hr => SettlePost.bad hr
    rw [if_neg hr]
    by_cases hh : ¬ pr = 0 ∧ ¬ x.pr = 0 ∧ ¬ pr = x.pr
    · rw [if_pos hh]
      have hr' : isReady tt = false := by
        cases h : isReady tt with
        | false => rfl
        | true => exact absurd ⟨hh.1, h⟩ hr
      exact (settle_has h n pr tt i x hi hx hs' ht' hp hh.1 hr' hh.2.1 hh.2.2).mono fun _ _ hr => SettlePost.bad hr
    rw [if_neg hh]
    by_cases hn : pr = 0 ∧ x.pr = 0 ∧ isReady tt = false
    · rw [if_pos hn]
      exact (settle_nopr h n pr tt i x hi hx hs' ht' hn.1 hn.2.2 hn.2.1).mono fun _ _ hr => .inr (.inl ⟨rfl, rfl, hr⟩)
    rw [if_neg hn]
    by_cases hz : pr = 0
    · subst hz
      have hfree : freeFor 0 P.xs i = true := by simp [freeFor, prIdx_zero]
      rw [if_neg (by rw [hfree]; decide)]
      have hj := prIdx_zero P.xs
      cases hrd : isReady tt with
      | true =>
        refine (move_ready h n tt i x hi hx hs' ht' hrd hj).mono fun _ _ hm => .inl ⟨rfl, ?_⟩
        simpa [good, withPr, baseOf, hrd] using hm
      | false =>
        have hx0 : ¬ x.pr = 0 := fun e => hn ⟨rfl, e, hrd⟩
        cases hd : isDone tt with
        | true =>
          refine (move_done0 h n tt i x hi hx hs' ht' hrd hd hx0 hj).mono fun _ _ hm => .inl ⟨rfl, ?_⟩
          simpa [good, withPr, baseOf, hrd, hd] using hm
        | false =>
          refine (move_other0 h n tt i x hi hx hs' ht' hrd hd hx0 hj).mono fun _ _ hm => .inl ⟨rfl, ?_⟩
          simpa [good, withPr, baseOf, hrd, hd] using hm
    · have hrd : isReady tt = false := by
        cases h : isReady tt with
        | false => rfl
        | true => exact absurd ⟨hz, h⟩ hr
      have hor : x.pr = 0 ∨ pr = x.pr := by
        by_cases h1 : x.pr = 0
        · exact .inl h1
        · by_cases h2 : pr = x.pr
          · exact .inr h2
          · exact absurd ⟨hz, h1, h2⟩ hh
      by_cases hf : freeFor pr P.xs i = false
      · rw [if_pos hf]
        unfold freeFor at hf
        cases hj : prIdx pr P.xs with
        | none => simp [hj] at hf
        | some j =>
          simp [hj] at hf
          obtain ⟨y, hy⟩ := prIdx_lt hj
          exact (settle_taken h n pr tt i x hi hx hs' ht' hp hz hrd hor j y hj hy hf).mono fun _ _ hr => SettlePost.bad hr
      · rw [if_neg hf]
        have hj : prIdx pr P.xs = none ∨ prIdx pr P.xs = some i := by
          unfold freeFor at hf
          cases hj : prIdx pr P.xs with
          | none => exact .inl rfl
          | some j => simp [hj] at hf; subst hf; exact .inr rfl
        cases hd : isDone tt with
        | true =>
          refine (move_done1 h n pr tt i x hi hx hs' ht' hp hz hrd hd hor hj).mono fun _ _ hm => .inl ⟨rfl, ?_⟩
          simpa [good, withPr, baseOf, hrd, hd, hz] using hm
        | false =>
          refine (move_other1 h n pr tt i x hi hx hs' ht' hp hz hrd hd hor hj).mono fun _ _ hm => .inl ⟨rfl, ?_⟩
          simpa [good, withPr, baseOf, hrd, hd, hz] using hm

theorem verAt_ok {n pr : Int} {tt : ByteArray} {xs : List Iss} {i : Nat} {x : Iss} : (verAt n pr tt xs i x).ok = true → (verAt n pr tt xs i x).i = i := by
  unfold verAt
  repeat' split
  all_goals intro h
  all_goals first | rfl | cases h

theorem ver_ok {n pr : Int} {tt : ByteArray} {xs : List Iss} (h : (ver n pr tt xs).ok = true) : noIdx n xs = some (ver n pr tt xs).i := by
  unfold ver at h ⊢
  cases hi : noIdx n xs with
  | none => rw [hi] at h; cases h
  | some i => rw [hi] at h; simp only at h ⊢; rw [verAt_ok h]
end Go.Proofs.YbulkatmkFmt
