/-
  THE PROOF OF 'Rows.LawS2243ANamesToldSaid'.
-/
import Derived.Test.YbulkatkuFmtWalk
import Derived.Test.YbulkatkuFmtTie
import Derived.Test.YbulkatkuFmtCards
import Derived.Deep.SlicePairs
import Derived.Deep.DeepWitnessRowRef
import Derived.Lib.LaidIn
import Derived.Lib.LaidTab
import Derived.Stop.JoinedAt
import Derived.Stop.JoinedTold
import Derived.SevenTiedAt
import Derived.Stop.LaidErr
import Derived.ChangeOld
namespace Go.Proofs.YbulkatkuFmt
open Go.ChangeShapes Go.WideShapes Go.ChangeAt Go.RowKit
open Go.Extern.Stop Go.Stop Go.Extern

theorem own : ownKnob Ybaf.prog.godebug = none := by kernel_rfl
theorem laidOut : laidOutB Ybaf.prog = true := by kernel_rfl
theorem stopsAre : Ybaf.pinned.checked.prog.stops = ["fmt.errorf"] := by kernel_rfl
theorem stopKnobs : Ybaf.pinned.checked.prog.stopKnobs = [] := by kernel_rfl
theorem quiet (os : Os) : Stop.quiet Ybaf.pinned.checked.prog os := by
  intro k hk
  rw [stopKnobs] at hk
  cases hk

/-- Cells c laid into the block of variable g. -/
def put (h : Array Obj) (g : Nat) (cs : Array Value) : Array Obj := h.modify g fun
  | .cells _ t frozen => .cells cs t frozen
  | o => o

/-- The numbers of a listed table. -/
def nums : DataW Unit → Array Value
  | .agg l => (l.map fun | .lit (.int k n) => Value.int k n | _ => Value.bool false).toArray
  | _ => #[]

/-- A world in which the three listed tables hold what the program's text lays. -/
def laidIn (w0 : World) : World :=
  { w0 with heap := put (put (put w0.heap 0 (nums Rows.laid_internal_strconv_uint64pow10)) 1 (nums Rows.laid_math_bits_deBruijn32tab)) 2 (nums Rows.laid_math_bits_deBruijn64tab) }

theorem laid_met (os : Os) (args : Array Value) : laidMet Ybaf.prog Rows.lawS2243ANamesRow.laid ((laidIn (World.holding Ybaf.prog os ⟨#[], #[], []⟩)).forCall (fun _ _ => 0) ⟨#[], args, []⟩).memory :=
  (LaidIn.of_run [0, 1, 2] 10 (by kernel_rfl) (by kernel_rfl) (by kernel_rfl) (by kernel_rfl)).met

theorem witness_row (os : Os) {H : Type} (enc : TypeId × Value → H) :
    (OpenSpec.ofChange Rows.lawS2243ANamesSpec).preRow enc Ybaf.prog Ybaf.f3 Rows.lawS2243ANamesRow.domain false Rows.lawS2243ANamesRow.laid ((laidIn (World.holding Ybaf.prog os ⟨#[], #[], []⟩)).forCall (fun _ _ => 0) ⟨#[], #[.slice none 0 0], []⟩).memory #[.slice none 0 0] := by
  have hw : (DataW.whole enc Ybaf.prog ((laidIn (World.holding Ybaf.prog os ⟨#[], #[], []⟩)).forCall (fun _ _ => 0) ⟨#[], #[.slice none 0 0], []⟩).memory Ybaf.f3.params.toList (OpenSpec.ofChange Rows.lawS2243ANamesSpec).vars false #[Value.slice none 0 0].toList 8).map (fun x => (x.1, x.2.1)) =
      some ([.nil], []) := by kernel_rfl
  obtain ⟨⟨x1, x2, x3⟩, hx, hx1⟩ := Option.map_eq_some_iff.1 hw
  simp only [Prod.mk.injEq] at hx1
  obtain ⟨rfl, rfl⟩ := hx1
  exact OpenSpec.preRow_of_cond 8 hx (by kernel_rfl) (fun k hk => by cases hk) (by kernel_rfl) (laid_met os _)

theorem tab_of_laid {W : World} (hL : laidMet Ybaf.prog Rows.lawS2243ANamesRow.laid W) : Nm.Tab W :=
  Lib.tabIs_of_head (g := 0) (t := 68) (e := 61) (n := 20) (by kernel_rfl) (by kernel_rfl) (by kernel_rfl) (by kernel_rfl) (by kernel_rfl) (by kernel_rfl) (laidMet.tail (laidMet.tail hL))

set_option maxRecDepth 100000 in
set_option maxHeartbeats 1600000 in
theorem lifted (os : Os) (started : os.Started) (H : Type) (enc : TypeId × Value → H) :
    ReturnsInTold none {} Ybaf.checked os 3 .any Input.okWide ((OpenSpec.ofChange Rows.lawS2243ANamesSpec).preRow enc Ybaf.prog Ybaf.f3 Rows.lawS2243ANamesRow.domain false Rows.lawS2243ANamesRow.laid) (fun F => ((OpenSpec.ofChange Rows.lawS2243ANamesSpec).at F).post enc Ybaf.prog Ybaf.f3 false true false false) (aloneAtReturn Ybaf.prog) nothingAlways := by
  refine returnsInTold_of_row (C := Ybaf.checked) (s := OpenSpec.ofChange Rows.lawS2243ANamesSpec) (by kernel_rfl) own started (by kernel_rfl) Ybaf.func3
    (OpenSpec.witness_stopped_atRef (enc := enc) (C := Ybaf.checked) false (laidIn (World.holding Ybaf.prog os ⟨#[], #[], []⟩)) #[.slice none 0 0] rfl (by kernel_rfl) (by kernel_rfl) (by kernel_rfl) (witness_row os enc)) ?_
  intro F W base args ds gs before _ hF hval0 hW hcnd0 _ _ hL _
  have hval : ∀ (j : Nat) t v, Ybaf.f3.params[j]? = some t → args[j]? = some v → Value.okWide Ybaf.prog W .any base t v := hval0
  have hW' := hW
  obtain ⟨p, q, hA0, hV0, rfl, _, _⟩ := hW
  have hA : DataW.TrodAll enc Ybaf.prog W 0 (fun _ => true) true Ybaf.f3.params.toList args.toList ds p := hA0
  rw [Ybaf.params3] at hA hval
  obtain ⟨v0, d0, rfl, rfl, h0⟩ := trodAll_one hA
  obtain ⟨rfl, rfl⟩ := trodVars_none hV0
  obtain ⟨a0, len, cap, rfl⟩ := okWide_slice Ybaf.underlying22 (hval 0 22 v0 rfl rfl)
  have k0 := h0
  have lt0 : ∀ x ∈ p, x.block < W.heap.size := by obtain ⟨m, hm⟩ := k0; exact DataW.trod_lt m _ _ _ hm
  have htab : Nm.Tab W := tab_of_laid hL
  have hst : ∃ ps is, Nm.Steps W a0 len ps is := by
    obtain ⟨fuel, hf⟩ := h0
    rcases Deep.open_slice_pairs Ybaf.underlying22 Ybaf.underlying34 (by kernel_rfl) rfl rfl (by kernel_rfl) (by kernel_rfl) hf with ⟨hcs, _⟩ | ⟨a, len', cap', m, n, V0, V1, D0, D1, P0, P1, hcs, _, hl, hm, hmm, _, hx⟩
    · simp [Value.cells] at hcs
      obtain ⟨_, rfl, _⟩ := hcs
      exact ⟨fun _ => 0, fun _ => 0, .inl rfl⟩
    · simp [Value.cells] at hcs
      obtain ⟨rfl, rfl, rfl⟩ := hcs
      simp only [if_true] at hmm
      subst hmm
      have hall : ∀ i, i < len → ∃ x y : Int, V0 i = .int .u8 x ∧ V1 i = .int .u16 y ∧ 0 ≤ x ∧ x ≤ 255 ∧ 0 ≤ y ∧ y ≤ 65535 := fun i hi => by
        obtain ⟨_, _, h1, h2⟩ := hx i (by omega)
        obtain ⟨x, e1, _, w1⟩ := DataW.trod_int Ybaf.underlying5 h1
        obtain ⟨y, e2, _, w2⟩ := DataW.trod_int Ybaf.underlying32 h2
        simp at e1 e2
        have b1 := bounds_u8 w1
        have b2 : 0 ≤ y ∧ y ≤ 65535 := by
          have e3 : IntKind.u16.min = 0 := rfl
          have e4 : IntKind.u16.max = 65535 := rfl
          simpa [Lit.wf, e3, e4] using w2
        exact ⟨x, y, e1, e2, b1.1, b1.2, b2.1, b2.2⟩
      by_cases hlen : len = 0
      · exact ⟨fun _ => 0, fun _ => 0, .inl hlen⟩
      obtain ⟨b, off, spot⟩ := a
      have hspot : spot = none := by simpa [Addr.add] using World.cell?_spot (hx 0 (by omega)).1
      subst hspot
      refine ⟨fun i => if h : i < len then (hall i h).choose else 0, fun i => if h : i < len then (hall i h).choose_spec.choose else 0, .inr ⟨b, off, rfl, fun i hi => ?_⟩⟩
      obtain ⟨c1, c2, _, _⟩ := hx i (by omega)
      have hsp := (hall i hi).choose_spec.choose_spec
      rw [add_plain] at c1 c2
      simp only [dif_pos hi]
      exact ⟨by rw [← hsp.1]; exact c1, by rw [← hsp.2.1]; exact c2, hsp.2.2⟩
  obtain ⟨ps, is, hst⟩ := hst
  clear hA0 hV0 hval0
  refine (Nm.law_walk a0 len cap ps is W hst htab).mono fun e W' ⟨he, bel⟩ => ?_
  subst he
  exact ⟨_, rfl, _, _, _, [], _, [], hW', trodAll_mk1 (shut_bool Ybaf.underlying4 _), trodAll_mk1 (Below.trod laidOut (by kernel_rfl) (of_decide_eq_true (by kernel_rfl)) k0 bel lt0), rfl, bel.frame _, fun h => by cases h⟩

/-- THE STATEMENT. -/
theorem lawS2243ANames_proved : Rows.LawS2243ANamesToldSaid :=
  Claim7.holds_of_told_tied_any_at .later 3 Ybaf.f3 "fmt.errorf" [] [] _ _ _ _ _ (by kernel_rfl) rfl rfl rfl laidOut (by kernel_rfl) rfl ⟨rfl, rfl, rfl, rfl, rfl, rfl, rfl⟩ rfl rfl (by kernel_rfl) (by kernel_rfl) Ybaf.func3 (by kernel_rfl)
    (of_decide_eq_true (by kernel_rfl)) (by unfold Func.isWrapper; first | (rw [if_pos (by decide +kernel)]; kernel_rfl) | (rw [if_neg (by decide +kernel)]; exact ⟨rfl, rfl⟩)) stopsAre.symm rfl stopKnobs.symm (by kernel_rfl)
    (by kernel_rfl) (by kernel_rfl) (by kernel_rfl) (by kernel_rfl) (by kernel_rfl) (by kernel_rfl) (by kernel_rfl) (by kernel_rfl) (by kernel_rfl) rfl (by kernel_rfl) rfl rfl
    rfl rfl
    rfl (by kernel_rfl) (by kernel_rfl) (by kernel_rfl) (by decide) (by kernel_rfl) lawS2243ANames_row_tie
    (OpenClaim.moreEntering_of (by kernel_rfl) (by kernel_rfl) (by kernel_rfl) (by kernel_rfl) (by kernel_rfl) (by kernel_rfl) (by kernel_rfl) (by kernel_rfl) (by kernel_rfl) (by kernel_rfl))
    ⟨_, WideRow.started_initial, quiet _⟩
    (fun os started _ H enc _ => lifted os started H enc)
end Go.Proofs.YbulkatkuFmt
