/-
  The walks of issue and checkPRFree.
-/
import Derived.Test.YbulkatmkFmtMem
import Derived.LaidEqlPtr
import Derived.Lib.Builder
namespace Go.Proofs.YbulkatmkFmt
open Go.ChangeShapes Go.WideShapes Go.ChangeAt Go.RowKit Go.Extern.Stop Go.Stop

/-- v is a new error of errors.New's make: its own block, behind all that was in w. -/
def IsNew (w : World) (v : Value) (w' : World) : Prop :=
  ∃ g s, w.heap.size ≤ g ∧ v = .iface 104 (.pointer (some ⟨g, 0, none⟩)) ∧ w'.heap[g]? = some (.cells #[.string s] 106 (0, 0)) ∧ Below w.heap.size w w'

theorem NewErr.is {w w0 w' : World} {e : Ending} (h : NewErr w e w') (h0 : Below w0.heap.size w0 w) : ∃ v, e = .returned v ∧ IsNew w0 v w' := by
  obtain ⟨g, s, hg, he, hb, hbel⟩ := h
  refine ⟨_, he, g, s, Nat.le_trans h0.size hg, rfl, hb, ?_⟩
  exact h0.trans ⟨hbel.os, hbel.tape, hbel.output, hbel.size, fun k hk => hbel.block k (Nat.lt_of_lt_of_le hk h0.size)⟩

theorem neq_ptr_other {P : Program} (w : World) {tp te : TypeId} {j : TypeInfo} {a b : Addr} {ca cb : Array Value} {ta tb : TypeId} (hp : P.underlying tp = some (.pointer te)) (hte : P.info? te = some j) (hsz : j.size ≠ 0)
    (hne : a ≠ b) (ha : w.heap[a.block]? = some (.cells ca ta (0, 0))) (hb : w.heap[b.block]? = some (.cells cb tb (0, 0))) :
    (binOp .neq tp (.pointer (some a)) (.pointer (some b))).run P w = .ok (.bool true) w := by
  have h : ∀ d : Nat, (Op.equalIn (d + 1) tp (.pointer (some a)) (.pointer (some b))).run P w = .ok false w := fun d => by
    simp [Op.equalIn, run_underlying hp, sizeOf, typeInfo, hte, hsz, run_sameAddr_other w hne ha hb]
  simp only [binOp]
  simp [Op.equal, Op.maxDepth, h 9999]

theorem size32 : (Ybaf.prog.info? 32).map (·.size) = some 5 := by kernel_rfl

section
variable {w : World} {L : Nat} {a : Option Addr} {cap R : Nat} {q : Nat → Nat} {xs : List Iss}

theorem issue_hit (h : Led w L a cap R q xs) (n : Int) (i : Nat) (hi : noIdx n xs = some i) :
    Calls Ybaf.prog 12 #[.pointer (some ⟨L, 0, none⟩), .int .i64 n] w fun e w' => e = .returned (.tuple #[.pointer (some ⟨q i, 0, none⟩), .nilIface]) ∧ w = w' := by
  have hp : ptrAt q (some i) = .pointer (some ⟨q i, 0, none⟩) := rfl
  go_enter Ybaf.func12, Ybaf.ntmps12
  go_wp2_with (go_at_call 24; refine (find_any h n).mono ?_; rintro e w' ⟨rfl, rfl⟩; rw [hi, hp])
  go_ret2
  exact ⟨rfl, rfl⟩

set_option maxHeartbeats 400000 in
theorem issue_miss (F : Interp) (hF : F.answers w.tape) (h : Led w L a cap R q xs) (n : Int) (hi : noIdx n xs = none) :
    Calls Ybaf.prog 12 #[.pointer (some ⟨L, 0, none⟩), .int .i64 n] w fun e w' => ∃ v, e = .returned (.tuple #[.pointer none, v]) ∧ IsNew w v w' := by
  have hp : ptrAt q none = .pointer none := rfl
  go_enter Ybaf.func12, Ybaf.ntmps12
  go_wp2_with first | (go_at_call 24; refine (find_any h n).mono ?_; rintro e w' ⟨rfl, rfl⟩; rw [hi, hp]) | (go_at_call 14; refine (errorf0 F n w.heap.size _ ?_ ?_).mono ?_; exact hF; go_simp; intro e w' hx; obtain ⟨v, rfl, hnew⟩ := hx.is ((Below.refl _ _).alloc (Nat.le_refl _) _))
  go_ret2
  exact ⟨v, rfl, hnew⟩

theorem checkPR_none (h : Led w L a cap R q xs) (pr : Int) (p : Addr) (hi : prIdx pr xs = none) :
    Calls Ybaf.prog 17 #[.pointer (some ⟨L, 0, none⟩), .int .i64 pr, .pointer (some p)] w fun e w' => e = .returned .nilIface ∧ w = w' := by
  have hp : ptrAt q none = .pointer none := rfl
  go_enter Ybaf.func17, Ybaf.ntmps17
  go_wp2_with (go_at_call 31; refine (findPR_any h pr).mono ?_; rintro e w' ⟨rfl, rfl⟩; rw [hi, hp])
  go_ret
  exact ⟨rfl, rfl⟩

theorem checkPR_same (h : Led w L a cap R q xs) (pr : Int) (i : Nat) (hi : prIdx pr xs = some i) :
    Calls Ybaf.prog 17 #[.pointer (some ⟨L, 0, none⟩), .int .i64 pr, .pointer (some ⟨q i, 0, none⟩)] w fun e w' => e = .returned .nilIface ∧ w = w' := by
  have hp : ptrAt q (some i) = .pointer (some ⟨q i, 0, none⟩) := rfl
  obtain ⟨j, hj, _⟩ := Option.map_eq_some_iff.1 size32
  have heq := Lib.run_neq_ptr_same w ⟨q i, 0, none⟩ Ybaf.underlying33 hj
  go_enter Ybaf.func17, Ybaf.ntmps17
  go_wp2_with (go_at_call 31; refine (findPR_any h pr).mono ?_; rintro e w' ⟨rfl, rfl⟩; rw [hi, hp])
  go_ret
  exact ⟨rfl, rfl⟩

set_option maxHeartbeats 400000 in
theorem checkPR_other (F : Interp) (hF : F.answers w.tape) (h : Led w L a cap R q xs) (pr : Int) (i k : Nat) (x y : Iss) (hi : prIdx pr xs = some i) (hx : xs[i]? = some x) (hy : xs[k]? = some y) (hne : q i ≠ q k) :
    Calls Ybaf.prog 17 #[.pointer (some ⟨L, 0, none⟩), .int .i64 pr, .pointer (some ⟨q k, 0, none⟩)] w fun e w' => ∃ v, e = .returned v ∧ IsNew w v w' := by
  have hp : ptrAt q (some i) = .pointer (some ⟨q i, 0, none⟩) := rfl
  obtain ⟨j, hj, hjs⟩ := Option.map_eq_some_iff.1 size32
  have hc := (h.here i x hx).c0
  have heq := neq_ptr_other w (a := ⟨q i, 0, none⟩) (b := ⟨q k, 0, none⟩) Ybaf.underlying33 hj (by rw [hjs]; decide) (fun e => hne (congrArg Addr.block e)) (h.here i x hx) (h.here k y hy)
  clear hx hy
  go_enter Ybaf.func17, Ybaf.ntmps17
  go_wp2_with first | (go_at_call 31; refine (findPR_any h pr).mono ?_; rintro e w' ⟨rfl, rfl⟩; rw [hi, hp]) | (go_at_call 14; refine (errorf7 F pr x.issue w.heap.size _ ?_ ?_ ?_).mono ?_; exact hF; go_simp; go_simp; intro e w' hx; obtain ⟨v, rfl, hnew⟩ := hx.is ((Below.refl _ _).alloc (Nat.le_refl _) _))
  go_ret
  exact ⟨v, rfl, hnew⟩
end
end Go.Proofs.YbulkatmkFmt
