/-
  THE PROOF OF 'Rows.LawS2246AModelToldSaid'.
-/
import Derived.Test.YbulkatmkFmtVars
import Derived.Test.YbulkatmkFmtTie
import Derived.Test.YbulkatmkFmtCards
import Derived.Deep.DeepWitnessRowRef
import Derived.Lib.LaidIn
import Derived.Stop.JoinedAt
import Derived.Stop.JoinedTold
import Derived.SevenTiedAt
import Derived.OpenVars
namespace Go.Proofs.YbulkatmkFmt
open Go.ChangeShapes Go.WideShapes Go.ChangeAt Go.RowKit
open Go.Extern.Stop Go.Stop Go.Extern

theorem own : ownKnob Ybaf.prog.godebug = none := by kernel_rfl
theorem laidOut : laidOutB Ybaf.prog = true := by kernel_rfl
def stopName : String := Rows.lawS2246AModelRow.stops.headD ""
theorem stopsAre : Ybaf.pinned.checked.prog.stops = [stopName] := by kernel_rfl
theorem stopKnobs : Ybaf.pinned.checked.prog.stopKnobs = [] := by kernel_rfl
theorem quiet (os : Os) : Stop.quiet Ybaf.pinned.checked.prog os := by
  intro k hk
  rw [stopKnobs] at hk
  cases hk

/-- Cells laid into the block of variable g. -/
def put (h : Array Obj) (g : Nat) (cs : Array Value) : Array Obj := h.modify g fun
  | .cells _ t frozen => .cells cs t frozen
  | o => o

/-- The strings of a listed row. -/
def strsOf : DataW Unit → List Value
  | .slice l _ => l.flatMap fun
    | .lit (.string s) => [Value.string ⟨s.toArray⟩]
    | .agg fs => fs.map fun
      | .lit (.string s) => Value.string ⟨s.toArray⟩
      | _ => Value.bool false
    | _ => []
  | .iface _ (.ptr (.agg [.lit (.string s)])) => [Value.string ⟨s.toArray⟩]
  | _ => []

/-- Three blocks more: the rows of dues and settled, the error's struct. -/
def more : Array Obj := #[.cells (strsOf Rows.laid_example_com_corkline_corkline_ledger_dues).toArray 90, .cells (strsOf Rows.laid_example_com_corkline_corkline_ledger_settled).toArray 9, .cells (strsOf Rows.laid_example_com_corkline_corkline_ledger_ErrNoPR).toArray 106]

/-- A world in which the three listed variables hold what the program's text lays. -/
def laidIn (w0 : World) : World :=
  let N := w0.heap.size - 3
  { w0 with heap := put (put (put w0.heap 3 #[.slice (some ⟨N, 0, none⟩) 3 3]) 1 #[.slice (some ⟨N + 1, 0, none⟩) 2 2]) 0 #[.iface 104 (.pointer (some ⟨N + 2, 0, none⟩))] }

abbrev args0 : Array Value := #[.slice none 0 0, .int .i64 0, .int .u8 0, .int .u8 0, .int .i64 0, .int .u8 0]

theorem laid_met (os : Os) : laidMet Ybaf.prog Rows.lawS2246AModelRow.laid ((laidIn (World.holding Ybaf.prog os ⟨more, #[], []⟩)).forCall (fun _ _ => 0) ⟨#[], args0, []⟩).memory :=
  (LaidIn.of_run (List.range 64) 10 (by kernel_rfl) (by kernel_rfl) (by kernel_rfl) (by kernel_rfl)).met

theorem witness_row (os : Os) {H : Type} (enc : TypeId × Value → H) :
    (OpenSpec.ofChange Rows.lawS2246AModelSpec).preRow enc Ybaf.prog Ybaf.f3 Rows.lawS2246AModelRow.domain false Rows.lawS2246AModelRow.laid ((laidIn (World.holding Ybaf.prog os ⟨more, #[], []⟩)).forCall (fun _ _ => 0) ⟨#[], args0, []⟩).memory args0 := by
  have hw : (DataW.whole enc Ybaf.prog ((laidIn (World.holding Ybaf.prog os ⟨more, #[], []⟩)).forCall (fun _ _ => 0) ⟨#[], args0, []⟩).memory Ybaf.f3.params.toList (OpenSpec.ofChange Rows.lawS2246AModelSpec).vars false args0.toList 8).isSome = true := by kernel_rfl
  obtain ⟨x, hx⟩ := Option.isSome_iff_exists.1 hw
  exact OpenSpec.preRow_of_cond 8 hx rfl (fun k hk => by cases hk) (by kernel_rfl) (laid_met os)

theorem carryAll {H : Type} {enc : TypeId × Value → H} {W W' : World} (hb : Below W.heap.size W W') (ts : List TypeId) (ht : ∀ t ∈ ts, Ybaf.prog.readableRec t = true ∧ t < Ybaf.prog.types.size) :
    ∀ (vs : List Value) (ds : List (DataW H)) (ps : List MemPlace), DataW.TrodAll enc Ybaf.prog W 0 (fun _ => true) true ts vs ds ps →
      ∃ ps', DataW.TrodAll enc Ybaf.prog W' 0 (fun b => decide (b < W.heap.size)) true ts vs ds ps' := by
  induction ts with
  | nil =>
    intro vs ds ps h
    obtain ⟨rfl, rfl, _⟩ := trodAll_nil h
    exact ⟨[], trodAll_mk0⟩
  | cons t ts ih =>
    intro vs ds ps h
    obtain ⟨v, vs', d, ds', p, q, rfl, rfl, rfl, h1, h2⟩ := trodAll_cons h
    obtain ⟨ps', h3⟩ := ih (fun t h => ht t (List.mem_cons_of_mem _ h)) _ _ _ h2
    obtain ⟨r1, r2⟩ := ht t List.mem_cons_self
    have k1 := h1
    have lt1 : ∀ x ∈ p, x.block < W.heap.size := by obtain ⟨m, hm⟩ := k1; exact DataW.trod_lt m _ _ _ hm
    exact ⟨p ++ ps', trodAll_cons_mk (Below.trod laidOut r1 r2 h1 hb lt1) h3⟩

theorem paramsRead : (Ybaf.f3.params.toList.all fun t => Ybaf.prog.readableRec t && decide (t < Ybaf.prog.types.size)) = true := by kernel_rfl
theorem paramsRead' (t : TypeId) (h : t ∈ Ybaf.f3.params.toList) : Ybaf.prog.readableRec t = true ∧ t < Ybaf.prog.types.size := by
  have := List.all_eq_true.1 paramsRead t h
  rw [Bool.and_eq_true] at this
  exact ⟨this.1, of_decide_eq_true this.2⟩

theorem vars_three {H : Type} {enc : TypeId × Value → H} {W : World} {sp : Nat → Bool} {n0 n1 n2 : String} {gs : List (DataW H)} {ps : List MemPlace} (h : DataW.TrodVars enc Ybaf.prog W sp [n0, n1, n2] gs ps) : ∃ g1 g2 g3, gs = [g1, g2, g3] := by
  match gs, h with
  | [], h => exact h.elim
  | [_], h => obtain ⟨_, _, _, _, _, _, _, _, _, _, h, _⟩ := h; exact h.elim
  | [_, _], h => obtain ⟨_, _, _, _, _, _, _, _, _, _, h, _⟩ := h; obtain ⟨_, _, _, _, _, _, _, _, _, _, h, _⟩ := h; exact h.elim
  | [g1, g2, g3], _ => exact ⟨g1, g2, g3, rfl⟩
  | _ :: _ :: _ :: _ :: _, h => obtain ⟨_, _, _, _, _, _, _, _, _, _, h, _⟩ := h; obtain ⟨_, _, _, _, _, _, _, _, _, _, h, _⟩ := h; obtain ⟨_, _, _, _, _, _, _, _, _, _, h, _⟩ := h; exact h.elim

/-- The law's call, at whatever arguments. -/
theorem law_any (F : Interp) (P : Places) (a : Option Addr) (len cap : Nat) (zs : Nat → Zi) (n nSel tsel pr prSel : Int) (w : World) (hin : InAt w a len zs) (hV : VarsAt F P w) :
    Calls Ybaf.prog 3 #[.slice a len cap, .int .i64 n, .int .u8 nSel, .int .u8 tsel, .int .i64 pr, .int .u8 prSel] w fun e w' => e = .returned (.bool true) ∧ Below w.heap.size w w' := by
  rcases Nat.lt_or_ge 1024 len with h | h
  · exact (law_long a len cap n nSel tsel pr prSel w h).mono fun e w' ⟨he, hw⟩ => ⟨he, by rw [← hw]; exact Below.refl _ _⟩
  · exact (law_walk F P a len cap zs n nSel tsel pr prSel w hin h hV).mono fun e w' h => h

set_option maxRecDepth 100000 in
set_option maxHeartbeats 1600000 in
theorem lifted (os : Os) (started : os.Started) (H : Type) (enc : TypeId × Value → H) :
    ReturnsInTold none {} Ybaf.checked os 3 .any Input.okWide ((OpenSpec.ofChange Rows.lawS2246AModelSpec).preRow enc Ybaf.prog Ybaf.f3 Rows.lawS2246AModelRow.domain false Rows.lawS2246AModelRow.laid) (fun F => ((OpenSpec.ofChange Rows.lawS2246AModelSpec).at F).post enc Ybaf.prog Ybaf.f3 false true false false) (aloneAtReturn Ybaf.prog) nothingAlways := by
  refine returnsInTold_of_row (C := Ybaf.checked) (s := OpenSpec.ofChange Rows.lawS2246AModelSpec) (by kernel_rfl) own started (by kernel_rfl) Ybaf.func3
    (OpenSpec.witness_stopped_atRef (enc := enc) (C := Ybaf.checked) false (laidIn (World.holding Ybaf.prog os ⟨more, #[], []⟩)) args0 rfl (by kernel_rfl) (by kernel_rfl) (by kernel_rfl) (witness_row os enc)) ?_
  intro F W base args ds gs before _ hF hval0 hW hcnd0 _ _ hL _
  have hval : ∀ (j : Nat) t v, Ybaf.f3.params[j]? = some t → args[j]? = some v → Value.okWide Ybaf.prog W .any base t v := hval0
  have hW' := hW
  obtain ⟨p, q, hA0, hV0, rfl, _, _⟩ := hW
  have hA : DataW.TrodAll enc Ybaf.prog W 0 (fun _ => true) true Ybaf.f3.params.toList args.toList ds p := hA0
  have hA1 := hA
  rw [Ybaf.params3] at hA hval
  obtain ⟨g1, g2, g3, rfl⟩ := vars_three hV0
  obtain ⟨v0, _, d0, _, p0, _, e1, rfl, _, h0, hA⟩ := trodAll_cons hA
  obtain ⟨v1, _, d1, _, p1, _, rfl, rfl, _, _, hA⟩ := trodAll_cons hA
  obtain ⟨v2, _, d2, _, p2, _, rfl, rfl, _, _, hA⟩ := trodAll_cons hA
  obtain ⟨v3, _, d3, _, p3, _, rfl, rfl, _, _, hA⟩ := trodAll_cons hA
  obtain ⟨v4, _, d4, _, p4, _, rfl, rfl, _, _, hA⟩ := trodAll_cons hA
  obtain ⟨v5, _, d5, _, p5, _, rfl, rfl, _, _, hA⟩ := trodAll_cons hA
  obtain ⟨rfl, rfl, _⟩ := trodAll_nil hA
  obtain ⟨l⟩ := args
  simp only at e1
  subst e1
  obtain ⟨a0, len, cap, rfl⟩ := okWide_slice Ybaf.underlying22 (hval 0 22 v0 rfl rfl)
  obtain ⟨n1, rfl⟩ := okWide_int Ybaf.underlying3 (hval 1 3 v1 rfl rfl)
  obtain ⟨n2, rfl⟩ := okWide_int Ybaf.underlying5 (hval 2 5 v2 rfl rfl)
  obtain ⟨n3, rfl⟩ := okWide_int Ybaf.underlying5 (hval 3 5 v3 rfl rfl)
  obtain ⟨n4, rfl⟩ := okWide_int Ybaf.underlying3 (hval 4 3 v4 rfl rfl)
  obtain ⟨n5, rfl⟩ := okWide_int Ybaf.underlying5 (hval 5 5 v5 rfl rfl)
  obtain ⟨fuel, hf⟩ := h0
  obtain ⟨zs, hin⟩ := in_at (show DataW.trod enc Ybaf.prog W 0 (fun _ => true) true fuel 22 [.slice a0 len cap] = some (d0, p0) from hf)
  obtain ⟨P, hV⟩ := vars_at hF hL
  clear hval0 hval
  refine (law_any F.told P a0 len cap zs n1 n2 n3 n4 n5 W hin hV).mono fun e W' ⟨he, bel⟩ => ?_
  subst he
  obtain ⟨ps', hA2⟩ := carryAll bel _ paramsRead' _ _ _ hA1
  exact ⟨_, rfl, _, _, _, [], _, _, hW', trodAll_mk1 (shut_bool Ybaf.underlying4 _), hA2, Below.trodVars laidOut bel (by kernel_rfl) hV0, bel.frame _, fun h => by cases h⟩

/-- THE STATEMENT. -/
theorem lawS2246AModel_proved : Rows.LawS2246AModelToldSaid :=
  Claim7.holds_of_told_tied_any_at .later 3 Ybaf.f3 stopName [] [] _ _ _ _ _ (by kernel_rfl) rfl rfl rfl laidOut (by kernel_rfl) rfl ⟨rfl, rfl, rfl, rfl, rfl, rfl, rfl⟩ rfl rfl (by kernel_rfl) (by kernel_rfl) Ybaf.func3 (by kernel_rfl)
    (of_decide_eq_true (by kernel_rfl)) (by unfold Func.isWrapper; first | (rw [if_pos (by decide +kernel)]; kernel_rfl) | (rw [if_neg (by decide +kernel)]; exact ⟨rfl, rfl⟩)) stopsAre.symm rfl stopKnobs.symm (by kernel_rfl)
    (by kernel_rfl) (by kernel_rfl) (by kernel_rfl) (by kernel_rfl) (by kernel_rfl) (by kernel_rfl) (by kernel_rfl) (by kernel_rfl) (by kernel_rfl) rfl (by kernel_rfl) rfl rfl
    rfl rfl
    rfl (by kernel_rfl) (by kernel_rfl) (by kernel_rfl) (by decide) (by kernel_rfl) lawS2246AModel_row_tie
    (OpenClaim.moreEntering_of (by kernel_rfl) (by kernel_rfl) (by kernel_rfl) (by kernel_rfl) (by kernel_rfl) (by kernel_rfl) (by kernel_rfl) (by kernel_rfl) (by kernel_rfl) (by kernel_rfl))
    ⟨_, WideRow.started_initial, quiet _⟩
    (fun os started _ H enc _ => lifted os started H enc)
end Go.Proofs.YbulkatmkFmt
