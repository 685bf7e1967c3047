/-
  DERIVED. GIVEN WITH THE SEED: THE CARDS: each row of YbulkatkuFmtRows.lean that lists a variable, with what it lists TIED to the program's text (the seventh form; the later family's looks); each row that meets fmt, with fmt's text TOLD by the authors' own Lean function (tested against real Go, not proved from fmt's source: count such statements apart). THE CARD IS WHAT COUNTS. Prove the row's statement (the work); the ties are given (YbulkatkuFmtTie.lean); close each card by the builder's one call (the guide's Derived/Test/ToyasCard.lean, 'card_holds'). Laid BY PROGRAM, IN A SANDBOX (cutbox-door.mjs). By AI agents, Wed Nov 11 2026. No macro, syntax, notation, axiom, sorry.
-/
import Derived.Test.YbulkatkuFmtRows
import GoSem.ClaimSeven
namespace Go.Proofs.YbulkatkuFmt
namespace Rows

/-- THE TOLD AND TIED CARD OF 'history.LawS2243ANames'. -/
def lawS2243ANamesCard : Claim7 := { stood := { row := lawS2243ANamesRow, standIns := [], harness := (true, "b5e38c6b1f6de1474db59dddb0c8eb77d1e647d7ee4d5a9ae55e5b351fb31f3b"), looks := false }, told := true, laidByText := true, laidKinds := [.data, .data, .data], laidTests := true, laidLooks := .later, goes := false }
def LawS2243ANamesToldSaid : Prop := Claim7.holds Ybaf.pinned (.plain (OpenSpec.ofChange lawS2243ANamesSpec)) lawS2243ANamesCard
/-- ITS FALSE NEIGHBOUR. Refute it at one input. -/
def LawS2243ANamesToldWrongFalsely : Prop := Claim7.holds Ybaf.pinned (.plain (OpenSpec.ofChange lawS2243ANamesWrong)) lawS2243ANamesCard
end Rows
end Go.Proofs.YbulkatkuFmt
