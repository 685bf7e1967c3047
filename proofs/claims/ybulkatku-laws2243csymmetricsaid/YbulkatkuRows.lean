/-
  No cell of these rows narrows 'for every input' (looked for: loops, veiled, ifaces, maps, wideKeys, modest, calm, conditions, laid).
  DERIVED. THE GIVEN ROWS OF THIS SEAT. 2 by the template 'for every input the law returns true; each argument reads behind the call as it read before'; 0 by the template 'total and deterministic' (their statements: YbulkatkuTotals.lean).
  GIVEN WITH THE SEED: the statements are not yours to turn. If you find one false, say at which input.
  Laid BY PROGRAM, IN A SANDBOX (cutbox-rows.mjs): the forced cells as the released guide's own fill.sh prints them over the translation 62488d489a420a20… (all of the seat's roots in one cut). By AI agents, Wed Nov 11 2026. No macro, syntax, notation, axiom, sorry.
-/
import Derived.Test.YbulkatkuChecked
import GoSem.Claim
import GoSem.ClaimJoined
import GoSem.ClaimMapViews
import Derived.JoinedTies
import Derived.KernelRfl
namespace Go.Proofs.Ybulkatku
/- THE CELL 'sum', in the pinned program and in every row, IS THE sha256 OF THE DUMP (.gsa) THAT YbulkatkuProg.lean LOADS. Nothing in Lean hashes anything: it is a label: what it is worth is what the hold of that sum in a sandbox is worth. -/
noncomputable def Yba.pinned : Pinned := { name := "ybulkatku", sum := "62488d489a420a2086ef9f5cefa51809585c8f09840f1dd9131e823642e398a5", checked := Yba.checked }
namespace Rows
def none {H : Type} : Left H := { results := [], args := [] }

/-- 'semantic.LawS2243CExact': WHATEVER THE INPUT: true; the input reads as it did. -/
def lawS2243CExactSpec : ChangeSpec := { name := "lawS2243CExact", fn := fun _ => fun
  | [d1, d2] => { results := [.lit (.bool true)], args := [d1, d2] }
  | _ => none }
def lawS2243CExactRow : OpenClaim := { program := "ybulkatku", sum := "62488d489a420a2086ef9f5cefa51809585c8f09840f1dd9131e823642e398a5", func := "example.com/ordena/ordena/internal/protocol/semantic.LawS2243CExact", spec := "lawS2243CExact", apart := false }
def LawS2243CExactSaid : Prop := lawS2243CExactRow.holds Yba.pinned (OpenSpec.ofChange lawS2243CExactSpec)

/-- ITS FALSE NEIGHBOUR: 'it returns false'. Refute it at one input. -/
def lawS2243CExactWrong : ChangeSpec := { name := "lawS2243CExact", fn := fun _ => fun
  | [d1, d2] => { results := [.lit (.bool false)], args := [d1, d2] }
  | _ => none }
def LawS2243CExactWrongFalsely : Prop := lawS2243CExactRow.holds Yba.pinned (OpenSpec.ofChange lawS2243CExactWrong)

/-- 'semantic.LawS2243CSymmetric': WHATEVER THE INPUT: true; the input reads as it did. -/
def lawS2243CSymmetricSpec : ChangeSpec := { name := "lawS2243CSymmetric", fn := fun _ => fun
  | [d1, d2] => { results := [.lit (.bool true)], args := [d1, d2] }
  | _ => none }
def lawS2243CSymmetricRow : OpenClaim := { program := "ybulkatku", sum := "62488d489a420a2086ef9f5cefa51809585c8f09840f1dd9131e823642e398a5", func := "example.com/ordena/ordena/internal/protocol/semantic.LawS2243CSymmetric", spec := "lawS2243CSymmetric", apart := false }
def LawS2243CSymmetricSaid : Prop := lawS2243CSymmetricRow.holds Yba.pinned (OpenSpec.ofChange lawS2243CSymmetricSpec)

/-- ITS FALSE NEIGHBOUR: 'it returns false'. Refute it at one input. -/
def lawS2243CSymmetricWrong : ChangeSpec := { name := "lawS2243CSymmetric", fn := fun _ => fun
  | [d1, d2] => { results := [.lit (.bool false)], args := [d1, d2] }
  | _ => none }
def LawS2243CSymmetricWrongFalsely : Prop := lawS2243CSymmetricRow.holds Yba.pinned (OpenSpec.ofChange lawS2243CSymmetricWrong)

end Rows
end Go.Proofs.Ybulkatku
