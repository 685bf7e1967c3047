/-
  DERIVED. GIVEN WITH THE SEED: THE CARDS: each row of YbulkatmkFmtRows.lean that lists a variable, with what it lists TIED to the program's text (the seventh form; the later family's looks); each row that meets fmt, with fmt's text TOLD by the authors' own Lean function (tested against real Go, not proved from fmt's source: count such statements apart). THE CARD IS WHAT COUNTS. Prove the row's statement (the work); the ties are given (YbulkatmkFmtTie.lean); close each card by the builder's one call (the guide's Derived/Test/ToyasCard.lean, 'card_holds'). Laid BY PROGRAM, IN A SANDBOX (cutbox-door.mjs). By AI agents, Wed Nov 11 2026. No macro, syntax, notation, axiom, sorry.
-/
import Derived.Test.YbulkatmkFmtRows
import GoSem.ClaimSeven
namespace Go.Proofs.YbulkatmkFmt
namespace Rows

/-- THE TOLD AND TIED CARD OF 'ledger.LawS2246AModel'. -/
def lawS2246AModelCard : Claim7 := { stood := { row := lawS2246AModelRow, standIns := [], harness := (true, "c75baa45d48e9bfff7fa26958e88b965478a4fb884bded6a2d5d0769c042ff90"), looks := true }, told := true, laidByText := true, laidKinds := [.data, .sentinel, .widerDeep], laidTests := true, laidLooks := .later, goes := false }
def LawS2246AModelToldSaid : Prop := Claim7.holds Ybaf.pinned (.plain (OpenSpec.ofChange lawS2246AModelSpec)) lawS2246AModelCard
/-- ITS FALSE NEIGHBOUR. Refute it at one input. -/
def LawS2246AModelToldWrongFalsely : Prop := Claim7.holds Ybaf.pinned (.plain (OpenSpec.ofChange lawS2246AModelWrong)) lawS2246AModelCard

/-- THE TOLD AND TIED CARD OF 'ledger.LawS2246BMakeResult'. -/
def lawS2246BMakeResultCard : Claim7 := { stood := { row := lawS2246BMakeResultRow, standIns := [], harness := (true, "c75baa45d48e9bfff7fa26958e88b965478a4fb884bded6a2d5d0769c042ff90"), looks := true }, told := true, laidByText := true, laidKinds := [.data, .data, .data, .data, .sentinel, .sentinel, .data, .pinned], laidTests := true, laidLooks := .later, goes := false }
def LawS2246BMakeResultToldSaid : Prop := Claim7.holds Ybaf.pinned (.plain (OpenSpec.ofChange lawS2246BMakeResultSpec)) lawS2246BMakeResultCard
/-- ITS FALSE NEIGHBOUR. Refute it at one input. -/
def LawS2246BMakeResultToldWrongFalsely : Prop := Claim7.holds Ybaf.pinned (.plain (OpenSpec.ofChange lawS2246BMakeResultWrong)) lawS2246BMakeResultCard
end Rows
end Go.Proofs.YbulkatmkFmt
