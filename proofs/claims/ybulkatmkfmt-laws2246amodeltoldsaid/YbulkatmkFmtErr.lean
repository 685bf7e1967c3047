/-
  fmt.Errorf, errors.New and errors.Is at this program, by their contracts: only what the law needs of them.
-/
import Derived.Test.YbulkatmkFmtFronts
import Derived.LaidEql
import Derived.Stop.Asserts
import Derived.RowKitTokens
import Derived.Deep.DeepFit
namespace Go.Proofs.YbulkatmkFmt
open Go.RowKit Go.Extern.Stop Go.Stop Go.Extern

/-- A new error of errors.New's make: its own block, behind all that was there. -/
def NewErr (w : World) (e : Ending) (w' : World) : Prop :=
  ∃ g s, w.heap.size ≤ g ∧ e = .returned (.iface 104 (.pointer (some ⟨g, 0, none⟩))) ∧ w'.heap[g]? = some (.cells #[.string s] 106 (0, 0)) ∧ Below w.heap.size w w'

/-- A new error that wraps the error x. -/
def NewWrap (x : Value) (w : World) (e : Ending) (w' : World) : Prop :=
  ∃ g, w.heap.size ≤ g ∧ e = .returned (.iface 82 (.pointer (some ⟨g, 0, none⟩))) ∧ w'.cell? ⟨g, 0 + 1, none⟩ = some x ∧ Below w.heap.size w w'

theorem NewErr.mk (w : World) (s : ByteArray) : NewErr w (.returned (.iface 104 (.pointer (some ⟨w.heap.size, 0, none⟩)))) (w.alloc (.cells #[.string s] 106)).drew := by
  refine ⟨w.heap.size, s, Nat.le_refl _, rfl, ?_, ((Below.refl _ _).alloc (Nat.le_refl _) _).drew⟩
  show (w.heap.push _)[w.heap.size]? = _
  simp

theorem NewWrap.mk (w : World) (s : ByteArray) (x : Value) : NewWrap x w (.returned (.iface 82 (.pointer (some ⟨w.heap.size, 0, none⟩)))) (w.alloc (.cells #[.string s, x] 184)).drew := by
  refine ⟨w.heap.size, Nat.le_refl _, rfl, ?_, ((Below.refl _ _).alloc (Nat.le_refl _) _).drew⟩
  rw [World.cell?_drew]
  have h : (w.alloc (.cells #[.string s, x] 184)).heap[w.heap.size]? = some (.cells #[.string s, x] 184 (0, 0)) := by
    show (w.heap.push _)[w.heap.size]? = _
    simp
  unfold World.cell?
  rw [h]
  rfl

set_option maxHeartbeats 800000 in
theorem errorf0 (F : Interp) (n0 : Int) (blk : Nat) (w : World) (hF : F.answers w.tape)
    (hc0 : w.cell? ⟨blk, 0, none⟩ = some (.iface 3 (.int .i64 n0))) :
    Calls Ybaf.prog 14 #[.string Ybaf.form0, .slice (some ⟨blk, 0, none⟩) 1 1] w (NewErr w) := by
  have hF' := answers_open hF
  go_enter Ybaf.func14, Ybaf.ntmps14
  go_wp2
  apply rows_value Ybaf.nextTurns
  case hr =>
    go_simp
    exact ⟨rfl, rfl⟩
  case h =>
    go_wp2
    go_ret
    exact NewErr.mk w _

set_option maxHeartbeats 800000 in
theorem errorf1 (F : Interp) (n0 : Int) (n1 : ByteArray) (n2 : ByteArray) (blk : Nat) (w : World) (hF : F.answers w.tape)
    (hc0 : w.cell? ⟨blk, 0, none⟩ = some (.iface 3 (.int .i64 n0))) (hc1 : w.cell? ⟨blk, 1, none⟩ = some (.iface 9 (.string n1))) (hc2 : w.cell? ⟨blk, 2, none⟩ = some (.iface 9 (.string n2))) :
    Calls Ybaf.prog 14 #[.string Ybaf.form1, .slice (some ⟨blk, 0, none⟩) 3 3] w (NewErr w) := by
  have hF' := answers_open hF
  go_enter Ybaf.func14, Ybaf.ntmps14
  go_wp2
  apply rows_value Ybaf.nextTurns
  case hr =>
    go_simp
    exact ⟨rfl, rfl⟩
  case h =>
    go_wp2
    go_ret
    exact NewErr.mk w _

set_option maxHeartbeats 800000 in
theorem errorf2 (F : Interp) (n0 : Int) (n1 : ByteArray) (n2 : ByteArray) (blk : Nat) (w : World) (hF : F.answers w.tape)
    (hc0 : w.cell? ⟨blk, 0, none⟩ = some (.iface 3 (.int .i64 n0))) (hc1 : w.cell? ⟨blk, 1, none⟩ = some (.iface 9 (.string n1))) (hc2 : w.cell? ⟨blk, 2, none⟩ = some (.iface 9 (.string n2))) :
    Calls Ybaf.prog 14 #[.string Ybaf.form2, .slice (some ⟨blk, 0, none⟩) 3 3] w (NewErr w) := by
  have hF' := answers_open hF
  go_enter Ybaf.func14, Ybaf.ntmps14
  go_wp2
  apply rows_value Ybaf.nextTurns
  case hr =>
    go_simp
    exact ⟨rfl, rfl⟩
  case h =>
    go_wp2
    go_ret
    exact NewErr.mk w _

set_option maxHeartbeats 800000 in
theorem errorf3 (F : Interp) (n0 : Int) (blk : Nat) (w : World) (hF : F.answers w.tape)
    (hc0 : w.cell? ⟨blk, 0, none⟩ = some (.iface 3 (.int .i64 n0))) :
    Calls Ybaf.prog 14 #[.string Ybaf.form3, .slice (some ⟨blk, 0, none⟩) 1 1] w (NewErr w) := by
  have hF' := answers_open hF
  go_enter Ybaf.func14, Ybaf.ntmps14
  go_wp2
  apply rows_value Ybaf.nextTurns
  case hr =>
    go_simp
    exact ⟨rfl, rfl⟩
  case h =>
    go_wp2
    go_ret
    exact NewErr.mk w _

set_option maxHeartbeats 800000 in
theorem errorf4 (F : Interp) (n0 : Int) (blk : Nat) (w : World) (hF : F.answers w.tape)
    (hc0 : w.cell? ⟨blk, 0, none⟩ = some (.iface 3 (.int .i64 n0))) :
    Calls Ybaf.prog 14 #[.string Ybaf.form4, .slice (some ⟨blk, 0, none⟩) 1 1] w (NewErr w) := by
  have hF' := answers_open hF
  go_enter Ybaf.func14, Ybaf.ntmps14
  go_wp2
  apply rows_value Ybaf.nextTurns
  case hr =>
    go_simp
    exact ⟨rfl, rfl⟩
  case h =>
    go_wp2
    go_ret
    exact NewErr.mk w _

set_option maxHeartbeats 800000 in
theorem errorf5 (F : Interp) (n0 : Int) (n1 : Int) (blk : Nat) (w : World) (hF : F.answers w.tape)
    (hc0 : w.cell? ⟨blk, 0, none⟩ = some (.iface 3 (.int .i64 n0))) (hc1 : w.cell? ⟨blk, 1, none⟩ = some (.iface 3 (.int .i64 n1))) :
    Calls Ybaf.prog 14 #[.string Ybaf.form5, .slice (some ⟨blk, 0, none⟩) 2 2] w (NewErr w) := by
  have hF' := answers_open hF
  go_enter Ybaf.func14, Ybaf.ntmps14
  go_wp2
  apply rows_value Ybaf.nextTurns
  case hr =>
    go_simp
    exact ⟨rfl, rfl⟩
  case h =>
    go_wp2
    go_ret
    exact NewErr.mk w _

set_option maxHeartbeats 800000 in
theorem errorf6 (F : Interp) (n0 : Int) (a : Addr) (s : ByteArray) (n2 : ByteArray) (blk : Nat) (w : World) (hF : F.answers w.tape)
    (hc0 : w.cell? ⟨blk, 0, none⟩ = some (.iface 3 (.int .i64 n0))) (hc1 : w.cell? ⟨blk, 1, none⟩ = some (.iface 104 (.pointer (some a)))) (hc2 : w.cell? ⟨blk, 2, none⟩ = some (.iface 9 (.string n2))) (hs : w.cell? a = some (.string s)) :
    Calls Ybaf.prog 14 #[.string Ybaf.form6, .slice (some ⟨blk, 0, none⟩) 3 3] w (NewWrap (.iface 104 (.pointer (some a))) w) := by
  have hF' := answers_open hF
  have hop := fun name => Ybaf.opPlain104_119w name a s w hs
  go_enter Ybaf.func14, Ybaf.ntmps14
  go_wp2
  apply rows_value Ybaf.nextTurns
  case hr =>
    go_simp
    exact ⟨rfl, rfl⟩
  case h =>
    go_wp2
    go_ret
    exact NewWrap.mk w _ _

set_option maxHeartbeats 800000 in
theorem errorf7 (F : Interp) (n0 : Int) (n1 : Int) (blk : Nat) (w : World) (hF : F.answers w.tape)
    (hc0 : w.cell? ⟨blk, 0, none⟩ = some (.iface 3 (.int .i64 n0))) (hc1 : w.cell? ⟨blk, 1, none⟩ = some (.iface 3 (.int .i64 n1))) :
    Calls Ybaf.prog 14 #[.string Ybaf.form7, .slice (some ⟨blk, 0, none⟩) 2 2] w (NewErr w) := by
  have hF' := answers_open hF
  go_enter Ybaf.func14, Ybaf.ntmps14
  go_wp2
  apply rows_value Ybaf.nextTurns
  case hr =>
    go_simp
    exact ⟨rfl, rfl⟩
  case h =>
    go_wp2
    go_ret
    exact NewErr.mk w _

/-! ### errors.Is -/
theorem Ybaf.isTypeOf (v : Value) (w : World) : (Extern.ReflectliteType.typeOf #[.iface 104 v]).run Ybaf.prog w = .ok (.iface 92 (.agg #[.pointer (some ⟨17, 104, none⟩)])) w := by kernel_rfl
theorem Ybaf.isComparable (w : World) : (callFunc 101 #[.agg #[.pointer (some ⟨17, 104, none⟩)]]).run Ybaf.prog w = .ok (.value (.bool true)) w := by kernel_rfl
theorem Ybaf.isMethodComparable (v : Value) (w : World) : (Go.method 309 92 v "Comparable").run Ybaf.prog w = .ok (101, v) w := by kernel_rfl
theorem Ybaf.isComp : (Ybaf.prog.info? 104).map (·.comparable) = some true := by kernel_rfl
theorem Ybaf.isSize : (Ybaf.prog.info? 106).map (·.size) = some 1 := by kernel_rfl
theorem Ybaf.noIsE (v : Value) (xT : TypeId) (w : World) : (Instr.typeAssert (.iface 104 v) xT 94 true).run Ybaf.prog w = .ok (.tuple #[.nilIface, .bool false]) w := run_typeAssert_lacksB Ybaf.underlying94 (by kernel_rfl) (by kernel_rfl) v xT w
theorem Ybaf.noUnwrapE (v : Value) (xT : TypeId) (w : World) : (Instr.typeAssert (.iface 104 v) xT 97 true).run Ybaf.prog w = .ok (.tuple #[.nilIface, .bool false]) w := run_typeAssert_lacksB Ybaf.underlying97 (by kernel_rfl) (by kernel_rfl) v xT w
theorem Ybaf.noUnwrapsE (v : Value) (xT : TypeId) (w : World) : (Instr.typeAssert (.iface 104 v) xT 99 true).run Ybaf.prog w = .ok (.tuple #[.nilIface, .bool false]) w := run_typeAssert_lacksB Ybaf.underlying99 (by kernel_rfl) (by kernel_rfl) v xT w
theorem Ybaf.noIsW (v : Value) (xT : TypeId) (w : World) : (Instr.typeAssert (.iface 82 v) xT 94 true).run Ybaf.prog w = .ok (.tuple #[.nilIface, .bool false]) w := run_typeAssert_lacksB Ybaf.underlying94 (by kernel_rfl) (by kernel_rfl) v xT w
theorem Ybaf.hasUnwrapW (v : Value) (xT : TypeId) (w : World) : (Instr.typeAssert (.iface 82 v) xT 97 true).run Ybaf.prog w = .ok (.tuple #[.iface 82 v, .bool true]) w := run_typeAssert_hasB Ybaf.underlying97 (by kernel_rfl) v xT w
theorem Ybaf.methodUnwrap (v : Value) (w : World) : (Go.method 309 82 v "Unwrap").run Ybaf.prog w = .ok (96, v) w := by kernel_rfl

set_option maxRecDepth 100000 in
set_option maxHeartbeats 4000000 in
/-- errors.Is(x, y), two different pointers to errors.errorString: false. -/
theorem is_other (a b : Addr) (ca cb : Array Value) (ta tb : TypeId) (w : World) (hne : a ≠ b) (ha : w.heap[a.block]? = some (.cells ca ta (0, 0))) (hb : w.heap[b.block]? = some (.cells cb tb (0, 0))) :
    Calls Ybaf.prog 8 #[.iface 104 (.pointer (some a)), .iface 104 (.pointer (some b))] w fun e w' => e = .returned (.bool false) ∧ w = w' := by
  obtain ⟨i, hi, hcmp⟩ := Option.map_eq_some_iff.1 Ybaf.isComp
  obtain ⟨j, hj, hjs⟩ := Option.map_eq_some_iff.1 Ybaf.isSize
  have h8 := @run_callFunc_extern Ybaf.prog 18 _ Extern.ReflectliteType.typeOf Ybaf.func18 (by kernel_rfl) (by kernel_rfl) (by kernel_rfl) (by kernel_rfl)
  have tT := Ybaf.isTypeOf
  have cT := Ybaf.isComparable
  have mR := Ybaf.isMethodComparable
  have nE := Ybaf.noIsE
  have uE := Ybaf.noUnwrapE
  have vE := Ybaf.noUnwrapsE
  have heq := run_eql_iface_ptr_other (P := Ybaf.prog) w Ybaf.underlying35 Ybaf.underlying104 hi hcmp hj (by rw [hjs]; decide) hne ha hb
  go_enter Ybaf.func8, Ybaf.ntmps8
  go_wp2
  refine wp_loop_rounds 1 ?_
  rw [rounds_succ]
  go_wp2
  go_ret
  exact ⟨rfl, rfl⟩

set_option maxRecDepth 100000 in
set_option maxHeartbeats 4000000 in
/-- errors.Is(e, x), e a *fmt.wrapError that wraps x itself: true. -/
theorem is_wrap_same (pb po : Nat) (b : Addr) (w : World) (h1 : w.cell? ⟨pb, po + 1, none⟩ = some (.iface 104 (.pointer (some b)))) :
    Calls Ybaf.prog 8 #[.iface 82 (.pointer (some ⟨pb, po, none⟩)), .iface 104 (.pointer (some b))] w fun e w' => e = .returned (.bool true) ∧ w = w' := by
  obtain ⟨i, hi, hcmp⟩ := Option.map_eq_some_iff.1 Ybaf.isComp
  obtain ⟨j, hj, hjs⟩ := Option.map_eq_some_iff.1 Ybaf.isSize
  have h8 := @run_callFunc_extern Ybaf.prog 18 _ Extern.ReflectliteType.typeOf Ybaf.func18 (by kernel_rfl) (by kernel_rfl) (by kernel_rfl) (by kernel_rfl)
  have tT := Ybaf.isTypeOf
  have cT := Ybaf.isComparable
  have mR := Ybaf.isMethodComparable
  have nW := Ybaf.noIsW
  have uW := Ybaf.hasUnwrapW
  have mU := Ybaf.methodUnwrap
  have heq := run_eql_iface_ptr_same (P := Ybaf.prog) w b Ybaf.underlying35 Ybaf.underlying104 hi hcmp hj
  have hty := run_eql_iface_types (P := Ybaf.prog) 82 104 (.pointer (some ⟨pb, po, none⟩)) (.pointer (some b)) Ybaf.underlying35 (by decide) w
  go_enter Ybaf.func8, Ybaf.ntmps8
  go_wp2
  refine wp_loop_rounds 2 ?_
  rw [rounds_succ]
  go_wp2
  rw [rounds_succ]
  go_wp2
  go_ret
  exact ⟨rfl, rfl⟩

end Go.Proofs.YbulkatmkFmt
