/-
  THE CLOSED FACTS FOR THE WALKS OVER fmt's STOPPED FRONT at this program (turned from the worked example's make to this dump's numbers), and fmt.Errorf by its contracts: only what the law needs: a new error, in a new block.
-/
import Derived.Test.YbulkatmkFmtRows
import Derived.Stop.CallBack
import Derived.Stop.IfaceNil
import GoSem.ClaimData
import Derived.WalkKit
import Derived.WalkSpells
import Derived.BigCall
namespace Go.Proofs
open Go.Extern.Stop Go.Stop Go.Extern

@[go_sem] theorem Ybaf.call26 (args : Array Value) (w : World) : (callFunc 26 args).run Ybaf.prog w = (FmtCalls.errorf #[9, 80] #[35] args).run Ybaf.prog w :=
  run_callFunc_next Ybaf.func26 (by kernel_rfl) (by kernel_rfl) (by kernel_rfl) args w

@[go_sem] theorem Ybaf.guard (name : String) (w : World) : (FmtStop.guard name).run Ybaf.prog w = .ok () w := by kernel_rfl
theorem Ybaf.nextTurns : Extern.next FmtCalls.turnsRow = some (FmtCalls.begun #[] #[]) := by kernel_rfl
theorem Ybaf.nextReturned : Extern.next FmtCalls.returnedRow = some (FmtCalls.returned #[] #[]) := by kernel_rfl

/-- "issue %d is not in the ledger" -/
abbrev Ybaf.form0 : ByteArray := ⟨#[105, 115, 115, 117, 101, 32, 37, 100, 32, 105, 115, 32, 110, 111, 116, 32, 105, 110, 32, 116, 104, 101, 32, 108, 101, 100, 103, 101, 114]⟩
@[go_sem] theorem Ybaf.fmt0 : FmtStop.printed? ⟨#[105, 115, 115, 117, 101, 32, 37, 100, 32, 105, 115, 32, 110, 111, 116, 32, 105, 110, 32, 116, 104, 101, 32, 108, 101, 100, 103, 101, 114]⟩ 1 = some [(0, 100, false)] := by kernel_rfl
@[go_sem] theorem Ybaf.fmt0r (w : World) : (FmtDoors.printed ⟨#[105, 115, 115, 117, 101, 32, 37, 100, 32, 105, 115, 32, 110, 111, 116, 32, 105, 110, 32, 116, 104, 101, 32, 108, 101, 100, 103, 101, 114]⟩ 1).run Ybaf.prog w = .ok [(0, 100, false)] w := by kernel_rfl
@[go_sem] theorem Ybaf.fmt0z : FmtStop.printed? ⟨#[105, 115, 115, 117, 101, 32, 37, 100, 32, 105, 115, 32, 110, 111, 116, 32, 105, 110, 32, 116, 104, 101, 32, 108, 101, 100, 103, 101, 114]⟩ 0 = some [] := by kernel_rfl
@[go_sem] theorem Ybaf.fmt0zr (w : World) : (FmtDoors.printed ⟨#[105, 115, 115, 117, 101, 32, 37, 100, 32, 105, 115, 32, 110, 111, 116, 32, 105, 110, 32, 116, 104, 101, 32, 108, 101, 100, 103, 101, 114]⟩ 0).run Ybaf.prog w = .ok [] w := by kernel_rfl
/-- "issue %d is %s: only a %s issue is settled" -/
abbrev Ybaf.form1 : ByteArray := ⟨#[105, 115, 115, 117, 101, 32, 37, 100, 32, 105, 115, 32, 37, 115, 58, 32, 111, 110, 108, 121, 32, 97, 32, 37, 115, 32, 105, 115, 115, 117, 101, 32, 105, 115, 32, 115, 101, 116, 116, 108, 101, 100]⟩
@[go_sem] theorem Ybaf.fmt1 : FmtStop.printed? ⟨#[105, 115, 115, 117, 101, 32, 37, 100, 32, 105, 115, 32, 37, 115, 58, 32, 111, 110, 108, 121, 32, 97, 32, 37, 115, 32, 105, 115, 115, 117, 101, 32, 105, 115, 32, 115, 101, 116, 116, 108, 101, 100]⟩ 3 = some [(0, 100, false), (1, 115, false), (2, 115, false)] := by kernel_rfl
@[go_sem] theorem Ybaf.fmt1r (w : World) : (FmtDoors.printed ⟨#[105, 115, 115, 117, 101, 32, 37, 100, 32, 105, 115, 32, 37, 115, 58, 32, 111, 110, 108, 121, 32, 97, 32, 37, 115, 32, 105, 115, 115, 117, 101, 32, 105, 115, 32, 115, 101, 116, 116, 108, 101, 100]⟩ 3).run Ybaf.prog w = .ok [(0, 100, false), (1, 115, false), (2, 115, false)] w := by kernel_rfl
@[go_sem] theorem Ybaf.fmt1z : FmtStop.printed? ⟨#[105, 115, 115, 117, 101, 32, 37, 100, 32, 105, 115, 32, 37, 115, 58, 32, 111, 110, 108, 121, 32, 97, 32, 37, 115, 32, 105, 115, 115, 117, 101, 32, 105, 115, 32, 115, 101, 116, 116, 108, 101, 100]⟩ 0 = some [] := by kernel_rfl
@[go_sem] theorem Ybaf.fmt1zr (w : World) : (FmtDoors.printed ⟨#[105, 115, 115, 117, 101, 32, 37, 100, 32, 105, 115, 32, 37, 115, 58, 32, 111, 110, 108, 121, 32, 97, 32, 37, 115, 32, 105, 115, 115, 117, 101, 32, 105, 115, 32, 115, 101, 116, 116, 108, 101, 100]⟩ 0).run Ybaf.prog w = .ok [] w := by kernel_rfl
/-- "issue %d: %q is not one of %s" -/
abbrev Ybaf.form2 : ByteArray := ⟨#[105, 115, 115, 117, 101, 32, 37, 100, 58, 32, 37, 113, 32, 105, 115, 32, 110, 111, 116, 32, 111, 110, 101, 32, 111, 102, 32, 37, 115]⟩
@[go_sem] theorem Ybaf.fmt2 : FmtStop.printed? ⟨#[105, 115, 115, 117, 101, 32, 37, 100, 58, 32, 37, 113, 32, 105, 115, 32, 110, 111, 116, 32, 111, 110, 101, 32, 111, 102, 32, 37, 115]⟩ 3 = some [(0, 100, false), (1, 113, false), (2, 115, false)] := by kernel_rfl
@[go_sem] theorem Ybaf.fmt2r (w : World) : (FmtDoors.printed ⟨#[105, 115, 115, 117, 101, 32, 37, 100, 58, 32, 37, 113, 32, 105, 115, 32, 110, 111, 116, 32, 111, 110, 101, 32, 111, 102, 32, 37, 115]⟩ 3).run Ybaf.prog w = .ok [(0, 100, false), (1, 113, false), (2, 115, false)] w := by kernel_rfl
@[go_sem] theorem Ybaf.fmt2z : FmtStop.printed? ⟨#[105, 115, 115, 117, 101, 32, 37, 100, 58, 32, 37, 113, 32, 105, 115, 32, 110, 111, 116, 32, 111, 110, 101, 32, 111, 102, 32, 37, 115]⟩ 0 = some [] := by kernel_rfl
@[go_sem] theorem Ybaf.fmt2zr (w : World) : (FmtDoors.printed ⟨#[105, 115, 115, 117, 101, 32, 37, 100, 58, 32, 37, 113, 32, 105, 115, 32, 110, 111, 116, 32, 111, 110, 101, 32, 111, 102, 32, 37, 115]⟩ 0).run Ybaf.prog w = .ok [] w := by kernel_rfl
/-- "pr %d is not a positive number" -/
abbrev Ybaf.form3 : ByteArray := ⟨#[112, 114, 32, 37, 100, 32, 105, 115, 32, 110, 111, 116, 32, 97, 32, 112, 111, 115, 105, 116, 105, 118, 101, 32, 110, 117, 109, 98, 101, 114]⟩
@[go_sem] theorem Ybaf.fmt3 : FmtStop.printed? ⟨#[112, 114, 32, 37, 100, 32, 105, 115, 32, 110, 111, 116, 32, 97, 32, 112, 111, 115, 105, 116, 105, 118, 101, 32, 110, 117, 109, 98, 101, 114]⟩ 1 = some [(0, 100, false)] := by kernel_rfl
@[go_sem] theorem Ybaf.fmt3r (w : World) : (FmtDoors.printed ⟨#[112, 114, 32, 37, 100, 32, 105, 115, 32, 110, 111, 116, 32, 97, 32, 112, 111, 115, 105, 116, 105, 118, 101, 32, 110, 117, 109, 98, 101, 114]⟩ 1).run Ybaf.prog w = .ok [(0, 100, false)] w := by kernel_rfl
@[go_sem] theorem Ybaf.fmt3z : FmtStop.printed? ⟨#[112, 114, 32, 37, 100, 32, 105, 115, 32, 110, 111, 116, 32, 97, 32, 112, 111, 115, 105, 116, 105, 118, 101, 32, 110, 117, 109, 98, 101, 114]⟩ 0 = some [] := by kernel_rfl
@[go_sem] theorem Ybaf.fmt3zr (w : World) : (FmtDoors.printed ⟨#[112, 114, 32, 37, 100, 32, 105, 115, 32, 110, 111, 116, 32, 97, 32, 112, 111, 115, 105, 116, 105, 118, 101, 32, 110, 117, 109, 98, 101, 114]⟩ 0).run Ybaf.prog w = .ok [] w := by kernel_rfl
/-- "issue %d: a ready issue starts over, with no pr" -/
abbrev Ybaf.form4 : ByteArray := ⟨#[105, 115, 115, 117, 101, 32, 37, 100, 58, 32, 97, 32, 114, 101, 97, 100, 121, 32, 105, 115, 115, 117, 101, 32, 115, 116, 97, 114, 116, 115, 32, 111, 118, 101, 114, 44, 32, 119, 105, 116, 104, 32, 110, 111, 32, 112, 114]⟩
@[go_sem] theorem Ybaf.fmt4 : FmtStop.printed? ⟨#[105, 115, 115, 117, 101, 32, 37, 100, 58, 32, 97, 32, 114, 101, 97, 100, 121, 32, 105, 115, 115, 117, 101, 32, 115, 116, 97, 114, 116, 115, 32, 111, 118, 101, 114, 44, 32, 119, 105, 116, 104, 32, 110, 111, 32, 112, 114]⟩ 1 = some [(0, 100, false)] := by kernel_rfl
@[go_sem] theorem Ybaf.fmt4r (w : World) : (FmtDoors.printed ⟨#[105, 115, 115, 117, 101, 32, 37, 100, 58, 32, 97, 32, 114, 101, 97, 100, 121, 32, 105, 115, 115, 117, 101, 32, 115, 116, 97, 114, 116, 115, 32, 111, 118, 101, 114, 44, 32, 119, 105, 116, 104, 32, 110, 111, 32, 112, 114]⟩ 1).run Ybaf.prog w = .ok [(0, 100, false)] w := by kernel_rfl
@[go_sem] theorem Ybaf.fmt4z : FmtStop.printed? ⟨#[105, 115, 115, 117, 101, 32, 37, 100, 58, 32, 97, 32, 114, 101, 97, 100, 121, 32, 105, 115, 115, 117, 101, 32, 115, 116, 97, 114, 116, 115, 32, 111, 118, 101, 114, 44, 32, 119, 105, 116, 104, 32, 110, 111, 32, 112, 114]⟩ 0 = some [] := by kernel_rfl
@[go_sem] theorem Ybaf.fmt4zr (w : World) : (FmtDoors.printed ⟨#[105, 115, 115, 117, 101, 32, 37, 100, 58, 32, 97, 32, 114, 101, 97, 100, 121, 32, 105, 115, 115, 117, 101, 32, 115, 116, 97, 114, 116, 115, 32, 111, 118, 101, 114, 44, 32, 119, 105, 116, 104, 32, 110, 111, 32, 112, 114]⟩ 0).run Ybaf.prog w = .ok [] w := by kernel_rfl
/-- "issue %d has pr %d already" -/
abbrev Ybaf.form5 : ByteArray := ⟨#[105, 115, 115, 117, 101, 32, 37, 100, 32, 104, 97, 115, 32, 112, 114, 32, 37, 100, 32, 97, 108, 114, 101, 97, 100, 121]⟩
@[go_sem] theorem Ybaf.fmt5 : FmtStop.printed? ⟨#[105, 115, 115, 117, 101, 32, 37, 100, 32, 104, 97, 115, 32, 112, 114, 32, 37, 100, 32, 97, 108, 114, 101, 97, 100, 121]⟩ 2 = some [(0, 100, false), (1, 100, false)] := by kernel_rfl
@[go_sem] theorem Ybaf.fmt5r (w : World) : (FmtDoors.printed ⟨#[105, 115, 115, 117, 101, 32, 37, 100, 32, 104, 97, 115, 32, 112, 114, 32, 37, 100, 32, 97, 108, 114, 101, 97, 100, 121]⟩ 2).run Ybaf.prog w = .ok [(0, 100, false), (1, 100, false)] w := by kernel_rfl
@[go_sem] theorem Ybaf.fmt5z : FmtStop.printed? ⟨#[105, 115, 115, 117, 101, 32, 37, 100, 32, 104, 97, 115, 32, 112, 114, 32, 37, 100, 32, 97, 108, 114, 101, 97, 100, 121]⟩ 0 = some [] := by kernel_rfl
@[go_sem] theorem Ybaf.fmt5zr (w : World) : (FmtDoors.printed ⟨#[105, 115, 115, 117, 101, 32, 37, 100, 32, 104, 97, 115, 32, 112, 114, 32, 37, 100, 32, 97, 108, 114, 101, 97, 100, 121]⟩ 0).run Ybaf.prog w = .ok [] w := by kernel_rfl
/-- "issue %d: %w to settle it as %s" -/
abbrev Ybaf.form6 : ByteArray := ⟨#[105, 115, 115, 117, 101, 32, 37, 100, 58, 32, 37, 119, 32, 116, 111, 32, 115, 101, 116, 116, 108, 101, 32, 105, 116, 32, 97, 115, 32, 37, 115]⟩
@[go_sem] theorem Ybaf.fmt6 : FmtStop.printed? ⟨#[105, 115, 115, 117, 101, 32, 37, 100, 58, 32, 37, 119, 32, 116, 111, 32, 115, 101, 116, 116, 108, 101, 32, 105, 116, 32, 97, 115, 32, 37, 115]⟩ 3 = some [(0, 100, false), (1, 119, false), (2, 115, false)] := by kernel_rfl
@[go_sem] theorem Ybaf.fmt6r (w : World) : (FmtDoors.printed ⟨#[105, 115, 115, 117, 101, 32, 37, 100, 58, 32, 37, 119, 32, 116, 111, 32, 115, 101, 116, 116, 108, 101, 32, 105, 116, 32, 97, 115, 32, 37, 115]⟩ 3).run Ybaf.prog w = .ok [(0, 100, false), (1, 119, false), (2, 115, false)] w := by kernel_rfl
@[go_sem] theorem Ybaf.fmt6z : FmtStop.printed? ⟨#[105, 115, 115, 117, 101, 32, 37, 100, 58, 32, 37, 119, 32, 116, 111, 32, 115, 101, 116, 116, 108, 101, 32, 105, 116, 32, 97, 115, 32, 37, 115]⟩ 0 = some [] := by kernel_rfl
@[go_sem] theorem Ybaf.fmt6zr (w : World) : (FmtDoors.printed ⟨#[105, 115, 115, 117, 101, 32, 37, 100, 58, 32, 37, 119, 32, 116, 111, 32, 115, 101, 116, 116, 108, 101, 32, 105, 116, 32, 97, 115, 32, 37, 115]⟩ 0).run Ybaf.prog w = .ok [] w := by kernel_rfl
/-- "pr %d is issue %d's already" -/
abbrev Ybaf.form7 : ByteArray := ⟨#[112, 114, 32, 37, 100, 32, 105, 115, 32, 105, 115, 115, 117, 101, 32, 37, 100, 39, 115, 32, 97, 108, 114, 101, 97, 100, 121]⟩
@[go_sem] theorem Ybaf.fmt7 : FmtStop.printed? ⟨#[112, 114, 32, 37, 100, 32, 105, 115, 32, 105, 115, 115, 117, 101, 32, 37, 100, 39, 115, 32, 97, 108, 114, 101, 97, 100, 121]⟩ 2 = some [(0, 100, false), (1, 100, false)] := by kernel_rfl
@[go_sem] theorem Ybaf.fmt7r (w : World) : (FmtDoors.printed ⟨#[112, 114, 32, 37, 100, 32, 105, 115, 32, 105, 115, 115, 117, 101, 32, 37, 100, 39, 115, 32, 97, 108, 114, 101, 97, 100, 121]⟩ 2).run Ybaf.prog w = .ok [(0, 100, false), (1, 100, false)] w := by kernel_rfl
@[go_sem] theorem Ybaf.fmt7z : FmtStop.printed? ⟨#[112, 114, 32, 37, 100, 32, 105, 115, 32, 105, 115, 115, 117, 101, 32, 37, 100, 39, 115, 32, 97, 108, 114, 101, 97, 100, 121]⟩ 0 = some [] := by kernel_rfl
@[go_sem] theorem Ybaf.fmt7zr (w : World) : (FmtDoors.printed ⟨#[112, 114, 32, 37, 100, 32, 105, 115, 32, 105, 115, 115, 117, 101, 32, 37, 100, 39, 115, 32, 97, 108, 114, 101, 97, 100, 121]⟩ 0).run Ybaf.prog w = .ok [] w := by kernel_rfl

def Ybaf.shape3 : List UInt8 := [5, 3, 0, 0, 0, 0, 0, 0, 0, 105, 110, 116]
def Ybaf.shape9 : List UInt8 := [12, 6, 0, 0, 0, 0, 0, 0, 0, 115, 116, 114, 105, 110, 103]
@[go_sem] theorem Ybaf.act3_100 (name : String) (x : Value) (w : World) : (FmtCalls.act name false 100 false (.iface 3 x)).run Ybaf.prog w = .ok (.closed false) w := by kernel_rfl
@[go_sem] theorem Ybaf.op3_100 (name : String) (x : Int) (w : World) : (FmtStop.operand name false 100 false (.iface 3 (.int .i64 x))).run Ybaf.prog w = .ok (Ybaf.shape3, Go.Extern.Stop.digits 8 (x % 2 ^ 64).toNat) w := by kernel_rfl
@[go_sem] theorem Ybaf.act3_100w (name : String) (x : Value) (w : World) : (FmtCalls.act name true 100 false (.iface 3 x)).run Ybaf.prog w = .ok (.closed true) w := by kernel_rfl
@[go_sem] theorem Ybaf.op3_100w (name : String) (x : Int) (w : World) : (FmtStop.operand name true 100 false (.iface 3 (.int .i64 x))).run Ybaf.prog w = .ok (Ybaf.shape3, Go.Extern.Stop.digits 8 (x % 2 ^ 64).toNat) w := by kernel_rfl
@[go_sem] theorem Ybaf.act9_115 (name : String) (x : Value) (w : World) : (FmtCalls.act name false 115 false (.iface 9 x)).run Ybaf.prog w = .ok (.closed false) w := by kernel_rfl
@[go_sem] theorem Ybaf.op9_115 (name : String) (x : ByteArray) (w : World) : (FmtStop.operand name false 115 false (.iface 9 (.string x))).run Ybaf.prog w = .ok (Ybaf.shape9, FmtStop.pack x.data.toList) w := by kernel_rfl
@[go_sem] theorem Ybaf.act9_115w (name : String) (x : Value) (w : World) : (FmtCalls.act name true 115 false (.iface 9 x)).run Ybaf.prog w = .ok (.closed true) w := by kernel_rfl
@[go_sem] theorem Ybaf.op9_115w (name : String) (x : ByteArray) (w : World) : (FmtStop.operand name true 115 false (.iface 9 (.string x))).run Ybaf.prog w = .ok (Ybaf.shape9, FmtStop.pack x.data.toList) w := by kernel_rfl
@[go_sem] theorem Ybaf.act9_113 (name : String) (x : Value) (w : World) : (FmtCalls.act name false 113 false (.iface 9 x)).run Ybaf.prog w = .ok (.closed false) w := by kernel_rfl
@[go_sem] theorem Ybaf.op9_113 (name : String) (x : ByteArray) (w : World) : (FmtStop.operand name false 113 false (.iface 9 (.string x))).run Ybaf.prog w = .ok (Ybaf.shape9, FmtStop.pack x.data.toList) w := by kernel_rfl
@[go_sem] theorem Ybaf.act9_113w (name : String) (x : Value) (w : World) : (FmtCalls.act name true 113 false (.iface 9 x)).run Ybaf.prog w = .ok (.closed true) w := by kernel_rfl
@[go_sem] theorem Ybaf.op9_113w (name : String) (x : ByteArray) (w : World) : (FmtStop.operand name true 113 false (.iface 9 (.string x))).run Ybaf.prog w = .ok (Ybaf.shape9, FmtStop.pack x.data.toList) w := by kernel_rfl
@[go_sem] theorem Ybaf.act3_118 (name : String) (x : Value) (w : World) : (FmtCalls.act name false 118 false (.iface 3 x)).run Ybaf.prog w = .ok (.closed false) w := by kernel_rfl
@[go_sem] theorem Ybaf.op3_118 (name : String) (x : Int) (w : World) : (FmtStop.operand name false 118 false (.iface 3 (.int .i64 x))).run Ybaf.prog w = .ok (Ybaf.shape3, Go.Extern.Stop.digits 8 (x % 2 ^ 64).toNat) w := by kernel_rfl
@[go_sem] theorem Ybaf.act9_118 (name : String) (x : Value) (w : World) : (FmtCalls.act name false 118 false (.iface 9 x)).run Ybaf.prog w = .ok (.closed false) w := by kernel_rfl
@[go_sem] theorem Ybaf.op9_118 (name : String) (x : ByteArray) (w : World) : (FmtStop.operand name false 118 false (.iface 9 (.string x))).run Ybaf.prog w = .ok (Ybaf.shape9, FmtStop.pack x.data.toList) w := by kernel_rfl
@[go_sem] theorem Ybaf.act3_118w (name : String) (x : Value) (w : World) : (FmtCalls.act name true 118 false (.iface 3 x)).run Ybaf.prog w = .ok (.closed true) w := by kernel_rfl
@[go_sem] theorem Ybaf.op3_118w (name : String) (x : Int) (w : World) : (FmtStop.operand name true 118 false (.iface 3 (.int .i64 x))).run Ybaf.prog w = .ok (Ybaf.shape3, Go.Extern.Stop.digits 8 (x % 2 ^ 64).toNat) w := by kernel_rfl
@[go_sem] theorem Ybaf.act9_118w (name : String) (x : Value) (w : World) : (FmtCalls.act name true 118 false (.iface 9 x)).run Ybaf.prog w = .ok (.closed true) w := by kernel_rfl
@[go_sem] theorem Ybaf.op9_118w (name : String) (x : ByteArray) (w : World) : (FmtStop.operand name true 118 false (.iface 9 (.string x))).run Ybaf.prog w = .ok (Ybaf.shape9, FmtStop.pack x.data.toList) w := by kernel_rfl
@[go_sem] theorem Ybaf.strict3 (name : String) (x : Int) (w : World) : (FmtStop.strict name (.iface 3 (.int .i64 x))).run Ybaf.prog w = .ok (Ybaf.shape3, Go.Extern.Stop.digits 8 (x % 2 ^ 64).toNat) w := by kernel_rfl
@[go_sem] theorem Ybaf.strict9 (name : String) (x : ByteArray) (w : World) : (FmtStop.strict name (.iface 9 (.string x))).run Ybaf.prog w = .ok (Ybaf.shape9, FmtStop.pack x.data.toList) w := by kernel_rfl
@[go_sem] theorem Ybaf.act104_119w (name : String) (x : Value) (w : World) : (FmtCalls.act name true 119 false (.iface 104 x)).run Ybaf.prog w = .ok (.closed true) w := by kernel_rfl
@[go_sem] theorem Ybaf.isError104 (w : World) : (FmtDoors.textMethod 104 "Error").run Ybaf.prog w = .ok true w := by kernel_rfl
@[go_sem] theorem Ybaf.ptr104 (w : World) : (FmtStop.ptrTo "errors.errorString").run Ybaf.prog w = .ok 104 w := by kernel_rfl
@[go_sem] theorem Ybaf.elem104 (w : World) : (elemOf 104).run Ybaf.prog w = .ok 106 w := by kernel_rfl
/-- The error type's name, as the row's list has it. -/
def Ybaf.nm104 : String := match (YbulkatmkFmt.Rows.laid_example_com_corkline_corkline_ledger_ErrNoPR : DataW Unit) with
  | .iface n _ => n
  | _ => ""
def Ybaf.plain104 : List UInt8 := 14 :: FmtStop.pack Ybaf.nm104.toUTF8.data.toList
theorem Ybaf.opPlain104_119w (name : String) (a : Addr) (s : ByteArray) (w : World) (hc : w.cell? a = some (.string s)) :
    (FmtStop.operand name true 119 false (.iface 104 (.pointer (some a)))).run Ybaf.prog w = .ok (Ybaf.plain104, s.data.toList) w := by
  have h1 : (typeStr 104).run Ybaf.prog w = .ok Ybaf.nm104 w := by kernel_rfl
  have d2 : Ybaf.t104.desc = .pointer 106 := rfl
  have d3 : Ybaf.t106.desc = .named "errors.errorString" 105 := rfl
  simp [FmtStop.operand, h1, d2, d3, run_load, hc, Ybaf.plain104]
@[go_sem] theorem Ybaf.ptr82 (w : World) : (FmtStop.ptrTo "fmt.wrapError").run Ybaf.prog w = .ok 82 w := by kernel_rfl
@[go_sem] theorem Ybaf.elem82 (w : World) : (elemOf 82).run Ybaf.prog w = .ok 184 w := by kernel_rfl
@[go_sem] theorem Ybaf.isError82 (w : World) : (FmtDoors.textMethod 82 "Error").run Ybaf.prog w = .ok true w := by kernel_rfl

end Go.Proofs
