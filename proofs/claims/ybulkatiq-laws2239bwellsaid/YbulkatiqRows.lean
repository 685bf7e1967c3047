/-
  No cell of these rows narrows 'for every input' (looked for: loops, veiled, ifaces, maps, wideKeys, modest, calm, conditions, laid).
  DERIVED. THE GIVEN ROWS OF THIS SEAT. 4 by the template 'for every input the law returns true; each argument reads behind the call as it read before'; 0 by the template 'total and deterministic' (their statements: YbulkatiqTotals.lean).
  GIVEN WITH THE SEED: the statements are not yours to turn. If you find one false, say at which input.
  Laid BY PROGRAM, IN A SANDBOX (cutbox-rows.mjs): the forced cells as the released guide's own fill.sh prints them over the translation 29ebca052b41e508… (all of the seat's roots in one cut). By AI agents, Wed Nov 11 2026. No macro, syntax, notation, axiom, sorry.
-/
import Derived.Test.YbulkatiqChecked
import GoSem.Claim
import GoSem.ClaimJoined
import GoSem.ClaimMapViews
import Derived.JoinedTies
import Derived.KernelRfl
namespace Go.Proofs.Ybulkatiq
/- THE CELL 'sum', in the pinned program and in every row, IS THE sha256 OF THE DUMP (.gsa) THAT YbulkatiqProg.lean LOADS. Nothing in Lean hashes anything: it is a label: what it is worth is what the hold of that sum in a sandbox is worth. -/
noncomputable def Yba.pinned : Pinned := { name := "ybulkatiq", sum := "29ebca052b41e508ba18d62703ec5ae2eacb0c7df7218c1f27474372d36ccf82", checked := Yba.checked }
namespace Rows
def none {H : Type} : Left H := { results := [], args := [] }

/-- 'clip.LawS2239AExact': WHATEVER THE INPUT: true; the input reads as it did. -/
def lawS2239AExactSpec : ChangeSpec := { name := "lawS2239AExact", fn := fun _ => fun
  | [d1, d2] => { results := [.lit (.bool true)], args := [d1, d2] }
  | _ => none }
def lawS2239AExactRow : OpenClaim := { program := "ybulkatiq", sum := "29ebca052b41e508ba18d62703ec5ae2eacb0c7df7218c1f27474372d36ccf82", func := "example.com/searsville/searsville/internal/clip.LawS2239AExact", spec := "lawS2239AExact", plainKeys := false, apart := false }
def LawS2239AExactSaid : Prop := lawS2239AExactRow.holds Yba.pinned (OpenSpec.ofChange lawS2239AExactSpec)

/-- ITS FALSE NEIGHBOUR: 'it returns false'. Refute it at one input. -/
def lawS2239AExactWrong : ChangeSpec := { name := "lawS2239AExact", fn := fun _ => fun
  | [d1, d2] => { results := [.lit (.bool false)], args := [d1, d2] }
  | _ => none }
def LawS2239AExactWrongFalsely : Prop := lawS2239AExactRow.holds Yba.pinned (OpenSpec.ofChange lawS2239AExactWrong)

/-- 'clip.LawS2239AValid': WHATEVER THE INPUT: true; the input reads as it did. -/
def lawS2239AValidSpec : ChangeSpec := { name := "lawS2239AValid", fn := fun _ => fun
  | [d1, d2] => { results := [.lit (.bool true)], args := [d1, d2] }
  | _ => none }
def lawS2239AValidRow : OpenClaim := { program := "ybulkatiq", sum := "29ebca052b41e508ba18d62703ec5ae2eacb0c7df7218c1f27474372d36ccf82", func := "example.com/searsville/searsville/internal/clip.LawS2239AValid", spec := "lawS2239AValid", plainKeys := false, apart := false }
def LawS2239AValidSaid : Prop := lawS2239AValidRow.holds Yba.pinned (OpenSpec.ofChange lawS2239AValidSpec)

/-- ITS FALSE NEIGHBOUR: 'it returns false'. Refute it at one input. -/
def lawS2239AValidWrong : ChangeSpec := { name := "lawS2239AValid", fn := fun _ => fun
  | [d1, d2] => { results := [.lit (.bool false)], args := [d1, d2] }
  | _ => none }
def LawS2239AValidWrongFalsely : Prop := lawS2239AValidRow.holds Yba.pinned (OpenSpec.ofChange lawS2239AValidWrong)

/-- 'policy.LawS2239BHolds': WHATEVER THE INPUT: true; the input reads as it did. -/
def lawS2239BHoldsSpec : ChangeSpec := { name := "lawS2239BHolds", fn := fun _ => fun
  | [d1, d2, d3] => { results := [.lit (.bool true)], args := [d1, d2, d3] }
  | _ => none }
def lawS2239BHoldsRow : OpenClaim := { program := "ybulkatiq", sum := "29ebca052b41e508ba18d62703ec5ae2eacb0c7df7218c1f27474372d36ccf82", func := "example.com/searsville/searsville/pkg/policy.LawS2239BHolds", spec := "lawS2239BHolds", unfollowed := true, recurses := true, plainKeys := false, apart := false }
def LawS2239BHoldsSaid : Prop := lawS2239BHoldsRow.holds Yba.pinned (OpenSpec.ofChange lawS2239BHoldsSpec)

/-- ITS FALSE NEIGHBOUR: 'it returns false'. Refute it at one input. -/
def lawS2239BHoldsWrong : ChangeSpec := { name := "lawS2239BHolds", fn := fun _ => fun
  | [d1, d2, d3] => { results := [.lit (.bool false)], args := [d1, d2, d3] }
  | _ => none }
def LawS2239BHoldsWrongFalsely : Prop := lawS2239BHoldsRow.holds Yba.pinned (OpenSpec.ofChange lawS2239BHoldsWrong)

/-- 'policy.LawS2239BWell': WHATEVER THE INPUT: true; the input reads as it did. -/
def lawS2239BWellSpec : ChangeSpec := { name := "lawS2239BWell", fn := fun _ => fun
  | [d1, d2, d3] => { results := [.lit (.bool true)], args := [d1, d2, d3] }
  | _ => none }
def lawS2239BWellRow : OpenClaim := { program := "ybulkatiq", sum := "29ebca052b41e508ba18d62703ec5ae2eacb0c7df7218c1f27474372d36ccf82", func := "example.com/searsville/searsville/pkg/policy.LawS2239BWell", spec := "lawS2239BWell", unfollowed := true, recurses := true, plainKeys := false, apart := false }
def LawS2239BWellSaid : Prop := lawS2239BWellRow.holds Yba.pinned (OpenSpec.ofChange lawS2239BWellSpec)

/-- ITS FALSE NEIGHBOUR: 'it returns false'. Refute it at one input. -/
def lawS2239BWellWrong : ChangeSpec := { name := "lawS2239BWell", fn := fun _ => fun
  | [d1, d2, d3] => { results := [.lit (.bool false)], args := [d1, d2, d3] }
  | _ => none }
def LawS2239BWellWrongFalsely : Prop := lawS2239BWellRow.holds Yba.pinned (OpenSpec.ofChange lawS2239BWellWrong)

end Rows
end Go.Proofs.Ybulkatiq
