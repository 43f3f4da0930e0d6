/- The closed facts for a walk over the calling stop fmt.errorf in this program: what each literal format asks, what an int and a uint64 read as under d, which type the new error has. Each by the kernel's own evaluation. -/
import Derived.Test.Qxb6614317aFmtRows
import Derived.WalkKit
import Derived.WalkSpells
import Derived.WalkLawsBesides
import Derived.Stop.CallBack
import Derived.Stop.IfaceNil
namespace Go.Proofs.Qxb6614317aFmt
open Go.RowKit Go.Extern.Stop Go.Stop Go.Extern

theorem call40 (args : Array Value) (w : World) : (callFunc 40 args).run Tryf.prog w = (FmtCalls.errorf #[9, 51] #[31] args).run Tryf.prog w :=
  run_callFunc_next Tryf.func40 (by kernel_rfl) (by kernel_rfl) (by kernel_rfl) args w
theorem guard40 (name : String) (w : World) : (FmtStop.guard name).run Tryf.prog w = .ok () w := by kernel_rfl
theorem nextTurns : Extern.next FmtCalls.turnsRow = some (FmtCalls.begun #[] #[]) := by kernel_rfl

/-- The format 'cut'. -/
abbrev fm_cut : ByteArray := ⟨#[105, 116, 32, 101, 110, 100, 115, 32, 97, 102, 116, 101, 114, 32, 37, 100, 32, 111, 99, 116, 101, 116, 115, 44, 32, 119, 105, 116, 104, 105, 110, 32, 97, 110, 32, 101, 108, 101, 109, 101, 110, 116]⟩
theorem printed_cut (w : World) : (FmtDoors.printed ⟨#[105, 116, 32, 101, 110, 100, 115, 32, 97, 102, 116, 101, 114, 32, 37, 100, 32, 111, 99, 116, 101, 116, 115, 44, 32, 119, 105, 116, 104, 105, 110, 32, 97, 110, 32, 101, 108, 101, 109, 101, 110, 116]⟩ 1).run Tryf.prog w = .ok [(0, 100, false)] w := by kernel_rfl

/-- The format 'above'. -/
abbrev fm_above : ByteArray := ⟨#[37, 100, 32, 105, 115, 32, 97, 98, 111, 118, 101, 32, 116, 104, 101, 32, 117, 112, 112, 101, 114, 32, 98, 111, 117, 110, 100, 32, 37, 100]⟩
theorem printed_above (w : World) : (FmtDoors.printed ⟨#[37, 100, 32, 105, 115, 32, 97, 98, 111, 118, 101, 32, 116, 104, 101, 32, 117, 112, 112, 101, 114, 32, 98, 111, 117, 110, 100, 32, 37, 100]⟩ 2).run Tryf.prog w = .ok [(0, 100, false), (1, 100, false)] w := by kernel_rfl

/-- The format 'outside'. -/
abbrev fm_outside : ByteArray := ⟨#[97, 110, 32, 105, 110, 116, 101, 103, 101, 114, 32, 111, 117, 116, 115, 105, 100, 101, 32, 37, 100, 46, 46, 37, 100]⟩
theorem printed_outside (w : World) : (FmtDoors.printed ⟨#[97, 110, 32, 105, 110, 116, 101, 103, 101, 114, 32, 111, 117, 116, 115, 105, 100, 101, 32, 37, 100, 46, 46, 37, 100]⟩ 2).run Tryf.prog w = .ok [(0, 100, false), (1, 100, false)] w := by kernel_rfl

/-- The format 'number'. -/
abbrev fm_number : ByteArray := ⟨#[97, 32, 110, 117, 109, 98, 101, 114, 32, 111, 102, 32, 37, 100, 32, 111, 99, 116, 101, 116, 115]⟩
theorem printed_number (w : World) : (FmtDoors.printed ⟨#[97, 32, 110, 117, 109, 98, 101, 114, 32, 111, 102, 32, 37, 100, 32, 111, 99, 116, 101, 116, 115]⟩ 1).run Tryf.prog w = .ok [(0, 100, false)] w := by kernel_rfl

/-- The format 'frag'. -/
abbrev fm_frag : ByteArray := ⟨#[97, 32, 108, 101, 110, 103, 116, 104, 32, 111, 102, 32, 49, 54, 51, 56, 52, 32, 111, 114, 32, 109, 111, 114, 101, 44, 32, 105, 110, 32, 102, 114, 97, 103, 109, 101, 110, 116, 115]⟩
theorem printed_frag (w : World) : (FmtDoors.printed ⟨#[97, 32, 108, 101, 110, 103, 116, 104, 32, 111, 102, 32, 49, 54, 51, 56, 52, 32, 111, 114, 32, 109, 111, 114, 101, 44, 32, 105, 110, 32, 102, 114, 97, 103, 109, 101, 110, 116, 115]⟩ 0).run Tryf.prog w = .ok [] w := by kernel_rfl

def shape3 : List UInt8 := [5, 3, 0, 0, 0, 0, 0, 0, 0, 105, 110, 116]
theorem act3 (name : String) (x : Value) (w : World) : (FmtCalls.act name true 100 false (.iface 3 x)).run Tryf.prog w = .ok (.closed true) w := by kernel_rfl
theorem op3 (name : String) (x : Int) (w : World) : (FmtStop.operand name true 100 false (.iface 3 (.int .i64 x))).run Tryf.prog w = .ok (shape3, Go.Extern.Stop.digits 8 (x % 2 ^ 64).toNat) w := by kernel_rfl
theorem act27 (name : String) (x : Value) (w : World) : (FmtCalls.act name true 100 false (.iface 27 x)).run Tryf.prog w = .ok (.closed true) w := by kernel_rfl
def shape27 : List UInt8 := [9, 6, 0, 0, 0, 0, 0, 0, 0, 117, 105, 110, 116, 54, 52]
theorem op27 (name : String) (x : Int) (w : World) : (FmtStop.operand name true 100 false (.iface 27 (.int .u64 x))).run Tryf.prog w = .ok (shape27, Go.Extern.Stop.digits 8 (x % 2 ^ 64).toNat) w := by kernel_rfl
theorem ptr62 (w : World) : (FmtStop.ptrTo "errors.errorString").run Tryf.prog w = .ok 62 w := by kernel_rfl
theorem elem62 (w : World) : (elemOf 62).run Tryf.prog w = .ok 64 w := by kernel_rfl

end Go.Proofs.Qxb6614317aFmt
