/-
  Contracts of semantic.Distance and semantic.zzs2243cflip.
-/
import Derived.Test.YbulkatkuRows
import Derived.WalkKit
import Derived.ProofKit
import Derived.OpenShut
import Derived.Laws.Bits64
namespace Go.Proofs.Ybulkatku.Dist
open Go.ChangeShapes Go.WideShapes Go.ChangeAt Go.RowKit

def dist (a b : Int) : Int := if a < b then b - a else a - b

/-! ### The plain mathematics of the offset-binary code -/
theorem xor_low (a : Nat) (h : a < 2 ^ 63) : a ^^^ 2 ^ 63 = 2 ^ 63 + a := by
  apply Nat.eq_of_testBit_eq
  intro j
  rw [Nat.testBit_xor, Nat.testBit_two_pow]
  rcases Nat.lt_trichotomy j 63 with hj | hj | hj
  · rw [Nat.testBit_two_pow_add_gt hj]
    have : decide (63 = j) = false := decide_eq_false (by omega)
    rw [this]; simp
  · subst hj
    rw [Nat.testBit_two_pow_add_eq]; simp
  · have h1 : a.testBit j = false := Nat.testBit_lt_two_pow (Nat.lt_of_lt_of_le h (Nat.pow_le_pow_right (by omega) (by omega)))
    have h2 : (2 ^ 63 + a).testBit j = false := Nat.testBit_lt_two_pow (Nat.lt_of_lt_of_le (show 2 ^ 63 + a < 2 ^ 64 by omega) (Nat.pow_le_pow_right (by omega) (by omega)))
    have : decide (63 = j) = false := decide_eq_false (by omega)
    rw [h1, h2, this]; rfl

theorem xor_high (a : Nat) (h : a < 2 ^ 63) : (2 ^ 63 + a) ^^^ 2 ^ 63 = a := by
  rw [← xor_low a h, Nat.xor_assoc, Nat.xor_self, Nat.xor_zero]

theorem flip_eq (a : Int) (h0 : -9223372036854775808 ≤ a) (h1 : a ≤ 9223372036854775807) :
    bits .xor .u64 (IntKind.u64.wrap a) 9223372036854775808 = a + 9223372036854775808 := by
  rw [IntKind.wrap_u64]
  by_cases hs : 0 ≤ a
  · obtain ⟨n, rfl⟩ := Int.eq_ofNat_of_zero_le hs
    have e : ((n : Int) % 18446744073709551616) = (n : Int) := by omega
    rw [e]
    have := bits_xor_u64_nat n 9223372036854775808 (by omega) (by omega)
    have x := xor_low n (by omega)
    rw [show (2 : Nat) ^ 63 = 9223372036854775808 from rfl] at x
    rw [x] at this
    refine this.trans ?_
    omega
  · obtain ⟨n, hn⟩ := Int.eq_ofNat_of_zero_le (show 0 ≤ a + 9223372036854775808 by omega)
    have e : (a % 18446744073709551616) = ((9223372036854775808 + n : Nat) : Int) := by omega
    rw [e]
    have := bits_xor_u64_nat (9223372036854775808 + n) 9223372036854775808 (by omega) (by omega)
    have x := xor_high n (by omega)
    rw [show (2 : Nat) ^ 63 = 9223372036854775808 from rfl] at x
    rw [x] at this
    refine this.trans ?_
    omega

theorem dist_lt (a b : Int) (h : a < b) (ha : -9223372036854775808 ≤ a) (hb : b ≤ 9223372036854775807) :
    IntKind.u64.wrap (IntKind.u64.wrap b - IntKind.u64.wrap a) = b - a := by
  simp only [IntKind.wrap_u64]
  omega

theorem dist_ge (a b : Int) (h : ¬ a < b) (hb : -9223372036854775808 ≤ b) (ha : a ≤ 9223372036854775807) :
    IntKind.u64.wrap (IntKind.u64.wrap a - IntKind.u64.wrap b) = a - b := by
  simp only [IntKind.wrap_u64]
  omega

theorem ret_int {k : IntKind} {a b : Int} (h : a = b) : Ending.returned (.int k a) = .returned (.int k b) := by rw [h]

/-! ### The contracts -/
theorem dist_any (a b : Int) (w : World) (ha0 : -9223372036854775808 ≤ a) (ha1 : a ≤ 9223372036854775807) (hb0 : -9223372036854775808 ≤ b) (hb1 : b ≤ 9223372036854775807) :
    Calls Yba.prog 6 #[.int .i64 a, .int .i64 b] w fun e w' => e = .returned (.int .u64 (dist a b)) ∧ w = w' := by
  unfold dist
  by_cases h : a < b
  · rw [if_pos h]
    go_enter Yba.func6, Yba.ntmps6
    go_wp2
    go_ret
    exact ⟨ret_int (dist_lt a b h ha0 hb1), rfl⟩
  · rw [if_neg h]
    go_enter Yba.func6, Yba.ntmps6
    go_wp2
    go_ret
    exact ⟨ret_int (dist_ge a b (by omega) hb0 ha1), rfl⟩

theorem flip_any (a : Int) (w : World) (ha0 : -9223372036854775808 ≤ a) (ha1 : a ≤ 9223372036854775807) :
    Calls Yba.prog 5 #[.int .i64 a] w fun e w' => e = .returned (.int .u64 (a + 9223372036854775808)) ∧ w = w' := by
  go_enter Yba.func5, Yba.ntmps5
  go_wp2
  go_ret
  exact ⟨ret_int (flip_eq a ha0 ha1), rfl⟩
end Go.Proofs.Ybulkatku.Dist
