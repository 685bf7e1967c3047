/-
  combine: what its variables are.
-/
import Derived.Test.YbulkatiqComb1
namespace Go.Proofs.Ybulkatiq
open Go.ChangeShapes Go.WideShapes Go.ChangeAt Go.RowKit Go.Maps Go.WideMaps

/-- What combine's variables are. -/
structure CP where
  jb : Nat
  cb : Nat
  mb : Nat
  mc : Nat
  g : Nat
  ob0 : Nat
  ob1 : Nat
  base0 : Nat
  base1 : Nat
  mv0 : Value
  rv : Value
  av0 : Value
  mv1 : Value
  fromv : Value
  atv : Value
  frR : List (Nat × Nat)
  fr : List (Nat × Nat)
  jr : ByteArray → Nat
  js : ByteArray → Nat
  U0 : Nat → Value
  U1 : Nat → Value

def CP.jc (c : CP) (Ra Rb : Rel) (made : Nat) : Array Value := #[.func (.func c.g) #[] #[], c.fromv, c.atv, .slice (some ⟨c.ob0, 0, none⟩) Ra.n1 Ra.n1, .slice (some ⟨c.ob1, 0, none⟩) Rb.n1 Rb.n1, .int .i32 (c.fr.length : Nat), .slice (some ⟨c.mb, 0, none⟩) c.fr.length c.mc, .int .i32 (made : Nat)]
def CP.cc (c : CP) (v4 : Value) : Array Value := #[c.mv0, .int .i32 (c.frR.length : Nat), c.mv1, .int .i32 (c.fr.length : Nat), v4, .map none]

/-- What lies in memory while the rows are joined. -/
structure CJ (w W : World) (c : CP) (made : Nat) (marks : List Nat) (v4 : Value) (Ra Rb : Rel) : Prop where
  bel : Below w.heap.size w W
  jbk : W.heap[c.jb]? = some (.cells (c.jc Ra Rb made) 72 (0, 0))
  cbk : W.heap[c.cb]? = some (.cells (c.cc v4) 50 (0, 0))
  mrk : RowI W c.mb marks
  mlen : marks.length = c.fr.length
  mle : ∀ l, marks.getD l 0 ≤ made
  s0 : SideJ W c.mv0 c.rv c.av0 Ra.n0 Rb.n0 Ra.of0 Rb.of0 c.frR c.jr
  s1 : SideJ W c.mv1 c.fromv c.atv Ra.n1 Rb.n1 Ra.of1 Rb.of1 c.fr c.js
  o0 : OfOwn W c.base0 c.ob0 Ra.n1 (ofTo (·.1) c.fr c.fr.length) c.U0
  o1 : OfOwn W c.base1 c.ob1 Rb.n1 (ofTo (·.2) c.fr c.fr.length) c.U1
  far : w.heap.size ≤ c.jb ∧ w.heap.size ≤ c.cb ∧ w.heap.size ≤ c.mb ∧ c.mb < c.base0 ∧ c.mb < c.base1

end Go.Proofs.Ybulkatiq
