/-
  THE PROOF OF 'Rows.LawS2239AExactSaid', WRITTEN BY PROGRAM (proof-skeleton.mjs) off the guide's own print for that function.
  The walk is filled in.
-/
import Derived.Test.YbulkatiqRows
import Derived.WalkKit
import Derived.ProofKit
import Derived.OpenShut
import Derived.ShutString
import Derived.Test.YbulkatiqClip
namespace Go.Proofs.Ybulkatiq.lawS2239AExact
open Go.ChangeShapes Go.WideShapes Go.ChangeAt Go.RowKit
open Go.ChangeMaps (open_string shut_string)
set_option linter.unusedVariables false      -- a walk need not use every 'w<i>' (that an integer argument fits its kind)

theorem own : ownKnob Yba.prog.godebug = none := by kernel_rfl

/-! ### STEP 1: THE WALK: the Go text returns true. 'Grown w w'': the world has at most new blocks (Derived/RowKit3.lean). Part the cases AHEAD of 'go_enter' where a test parts the walk; take each callee by a contract of your own. -/
theorem walk (a0 : ByteArray) (a1 : Int) (w0 : a0.size ≤ maxLen) (w1 : (Lit.int .i64 a1).wf = true) (w : World) :
    Calls Yba.prog 3 #[.string a0, .int .i64 a1] w fun e w' => e = .returned (.bool true) ∧ Grown w w' := by
  obtain ⟨hlo, hhi⟩ : -9223372036854775808 ≤ a1 ∧ a1 ≤ 9223372036854775807 := bounds_i64 w1
  unfold maxLen at w0
  by_cases hbig : (4096 : Int) < (a0.size : Int)
  · go_enter Yba.func3, Yba.ntmps3
    go_wp2
    go_ret
    exact ⟨rfl, Grown.refl _⟩
  by_cases hall : (a0.size : Int) ≤ a1
  · go_enter Yba.func3, Yba.ntmps3
    go_wp2_with (go_at_call 7; refine (Clip.head_all _ _ _ hall).mono ?_; rintro e w' ⟨rfl, rfl⟩)
    go_ret
    exact ⟨by simp, Grown.refl _⟩
  by_cases hnone : a1 ≤ 0
  · go_enter Yba.func3, Yba.ntmps3
    go_wp2_with (go_at_call 7; refine (Clip.head_none _ _ _ (by omega) hnone).mono ?_; rintro e w' ⟨rfl, rfl⟩)
    go_ret
    exact ⟨by simp, Grown.refl _⟩
  obtain ⟨n, rfl⟩ := Int.eq_ofNat_of_zero_le (show 0 ≤ a1 by omega)
  go_enter Yba.func3, Yba.ntmps3
  go_wp2_with fail
  refine (Clip.head_cut _ _ _ (by unfold maxLen; omega) (by omega) (by omega)).mono ?_
  rintro e w' ⟨⟨r, hr, HE, rfl⟩, rfl⟩
  have hkn : r.size ≤ n := by rcases hr with h | h <;> omega
  have hk3 : n ≤ r.size + 3 := by rcases hr with h | h <;> omega
  have hna : n < a0.size := by omega
  have eq1 : (!(a0.extract 0 r.size).toList == r.toList) = false := by rw [HE.out]; simp
  have hbyte : ∀ j, (h : j < a0.size) → Clip.byteAt a0 j = (a0[j].toNat : Int) := fun j h => Clip.byteAt_eq a0 j h
  have HB : Hid (∀ j, (h : j < a0.size) → Clip.byteAt a0 j = (a0[j].toNat : Int)) := hbyte
  clear hbyte
  by_cases hlt : r.size < n
  · obtain ⟨_, _, hc0, hc⟩ | ⟨hh, _⟩ := hr
    case inr => omega
    have hk0 : Clip.contB (a0[r.size].toNat : Int) = false := by rw [← HB.out _ (by omega)]; exact hc0
    have HC := Clip.hid hc
    clear hc hc0
    by_cases hn3 : (n : Int) - 3 < 0
    all_goals
      go_wp2_with (go_at_call 8; refine (Clip.cont_any _ _).mono ?_; rintro e w' ⟨rfl, rfl⟩)
      go_loop [8] (fun i => ∃ j : Nat, r.size < j ∧ j ≤ n + 1 ∧ i = .int .i64 j) (fun i => n + 1 - (intOf i).toNat)
      case atStart => exact ⟨r.size + 1, by omega, by omega, by go_num⟩
      case round =>
        obtain ⟨j, hj1, hj2, rfl⟩ := hrel
        by_cases hj : j ≤ n
        · have hjs : j < a0.size := by omega
          have hcj : Clip.contB (a0[j].toNat : Int) = true := by rw [← HB.out _ (by omega)]; exact HC.out j hj1 hj
          go_wp2_with (go_at_call 8; refine (Clip.cont_any _ _).mono ?_; rintro e w' ⟨rfl, rfl⟩)
          go_round
          case rel => exact ⟨j + 1, by omega, by omega, by go_num⟩
          case measure => simp [intOf]; omega
        · go_wp2
          go_ret
          exact ⟨rfl, Grown.refl _⟩
  · have HR : Hid (r.size = n) := show r.size = n by omega
    cases hcn : Clip.contB (a0[n].toNat : Int)
    · by_cases hn3 : (n : Int) - 3 < 0
      all_goals
        go_wp2_with (go_at_call 8; refine (Clip.cont_any _ _).mono ?_; rintro e w' ⟨rfl, rfl⟩)
        go_ret
        exact ⟨rfl, Grown.refl _⟩
    · obtain ⟨_, _, hc0, _⟩ | ⟨hx, hc⟩ := hr
      case inl =>
        rw [HR.out, HB.out _ hna, hcn] at hc0
        cases hc0
      have HC := Clip.hid hc
      clear hc hx
      by_cases hn3 : (n : Int) - 3 < 0
      all_goals
        go_wp2_with (go_at_call 8; refine (Clip.cont_any _ _).mono ?_; rintro e w' ⟨rfl, rfl⟩)
        go_loop [9] (fun i => ∃ j : Nat, n ≤ j + 3 ∧ j ≤ n + 1 ∧ i = .int .i64 j) (fun i => n + 1 - (intOf i).toNat)
        case atStart => exact ⟨n - 3, by omega, by omega, by first | (rw [show n - 3 = 0 by omega]; rfl) | (rw [show ((n - 3 : Nat) : Int) = (n : Int) - 3 by omega])⟩
        case round =>
          obtain ⟨j, hj1, hj2, rfl⟩ := hrel
          by_cases hj : j ≤ n
          · have hjs : j < a0.size := by omega
            have hcj : Clip.contB (a0[j].toNat : Int) = true := by rw [← HB.out _ (by omega)]; exact HC.out j hj (by omega)
            go_wp2_with (go_at_call 8; refine (Clip.cont_any _ _).mono ?_; rintro e w' ⟨rfl, rfl⟩)
            go_round
            case rel => exact ⟨j + 1, by omega, by omega, by go_num⟩
            case measure => simp [intOf]; omega
          · go_wp2
            go_ret
            exact ⟨rfl, Grown.refl _⟩

/-! ### THE ROW's STEP: WRITTEN OUT: LEAVE IT -/
set_option maxRecDepth 100000 in
theorem lifted (os : Os) (started : os.Started) (H : Type) (enc : TypeId × Value → H) :
    ReturnsInHanded {} Yba.checked os 3 .any (Rows.lawS2239AExactSpec.pre6 enc Yba.prog Yba.f3 Rows.lawS2239AExactRow.domain false) (Rows.lawS2239AExactSpec.post enc Yba.prog Yba.f3 false true false false) := by
  refine returnsInHanded_of_change (C := Yba.checked) own started (by kernel_rfl) Yba.func3
    (ChangeSpec.witness6 (enc := enc) (C := Yba.checked) false ⟨#[], #[.string ByteArray.empty, .int .i64 0], []⟩ 8 (by kernel_rfl) (by kernel_rfl) (by kernel_rfl) (by kernel_rfl)) ?_
  intro W base args ds gs before hval0 hW hcnd _
  have hval : ∀ (j : Nat) t v, Yba.f3.params[j]? = some t → args[j]? = some v → Value.okWide Yba.prog W .any base t v := hval0
  have hW' := hW
  obtain ⟨p, q, hA0, hV, rfl, hfz, hnd⟩ := hW
  have hA : DataW.TrodAll enc Yba.prog W 0 (fun _ => true) true Yba.f3.params.toList args.toList ds p := hA0
  rw [Yba.params3] at hA hval
  obtain ⟨v0, vs0, d0, ds0, p0, q0, hargs, rfl, rfl, h0, r0⟩ := trodAll_cons hA
  obtain ⟨v1, vs1, d1, ds1, p1, q1, rfl, rfl, rfl, h1, r1⟩ := trodAll_cons r0
  obtain ⟨rfl, rfl, rfl⟩ := trodAll_nil r1
  obtain rfl : args = #[v0, v1] := by cases args; simp_all
  obtain ⟨rfl, rfl⟩ := trodVars_none hV
  obtain ⟨a0, rfl, rfl, rfl, w0⟩ := open_string Yba.underlying9 (hval 0 9 v0 rfl rfl) h0
  obtain ⟨a1, rfl, rfl, rfl, w1⟩ := open_int Yba.underlying3 (hval 1 3 v1 rfl rfl) h1
  clear hA0 hval0
  simp only [List.append_nil] at hW'
  refine (walk a0 a1 w0 w1 W).mono fun e W' ⟨he, hg⟩ => ?_
  subst he
  exact ⟨_, rfl, post_of_same (pa := []) (pv := []) hW' (fun _ _ _ => (trodAll_cons_mk (shut_bool Yba.underlying4 _) trodAll_mk0)) (fun sp _ => (trodAll_cons_mk (shut_string Yba.underlying9 w0) (trodAll_cons_mk (shut_int Yba.underlying3 w1) trodAll_mk0))) (fun _ _ => rfl) rfl
    (hg.frame _) hg.2.1 (ok_one (by kernel_rfl) rfl (okWide_bool_mk Yba.underlying4 _))⟩

theorem over : Rows.lawS2239AExactRow.holds Yba.pinned (OpenSpec.ofChange Rows.lawS2239AExactSpec) :=
  OpenClaim.holds_of_wide 3 Yba.f3 rfl rfl rfl rfl rfl rfl rfl ⟨rfl, rfl, rfl, rfl, rfl⟩ rfl rfl rfl rfl rfl (by kernel_rfl) Yba.func3 (by kernel_rfl)
    (of_decide_eq_true (by kernel_rfl)) (by unfold Func.isWrapper; first | (rw [if_pos (by decide +kernel)]; kernel_rfl) | (rw [if_neg (by decide +kernel)]; exact ⟨rfl, rfl⟩))
    (fun os started H enc _ => lifted os started H enc)

/-- ████ THE STATEMENT ████ -/
theorem proved : Rows.LawS2239AExactSaid :=
  over
end Go.Proofs.Ybulkatiq.lawS2239AExact
