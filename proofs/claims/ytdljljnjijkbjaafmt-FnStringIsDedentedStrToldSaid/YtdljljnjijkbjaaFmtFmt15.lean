/- What the walk over fmt.Sprintf asks: each literal format, each operand type. After the kit's own printed facts (LabelFmt). -/
import Derived.Test.YtdljljnjijkbjaaFmtRows
import Derived.WalkKit
import Derived.ProofKit
import Derived.OpenShut
import Derived.WalkLawsBesides
import Derived.WalkSpells
import Derived.Handy
import Derived.Lib.Hide
import Derived.Stop.CallBack
import Derived.Stop.IfaceNil
import GoSem.ClaimData
namespace Go.Proofs.YtdljljnjijkbjaaFmt
open Go.RowKit Go.Extern.Stop Go.Stop Go.Extern
set_option linter.unusedVariables false

theorem call_sprintf (args : Array Value) (w : World) : (callFunc 24 args).run Tryf.prog w = ((FmtStop.sprintf #[9, 101] #[9] args).run Tryf.prog w).andThen fun v w' => .ok (.value v) w' :=
  run_callFunc_extern Tryf.func24 (by kernel_rfl) (by kernel_rfl) (by kernel_rfl) (by kernel_rfl) args w
@[go_sem] theorem fmt_guard (name : String) (w : World) : (FmtStop.guard name).run Tryf.prog w = .ok () w := by kernel_rfl
-- '%v; function [%v] definition (level %v)\n'
@[go_sem] theorem f_hd : FmtStop.printed? ⟨#[37, 118, 59, 32, 102, 117, 110, 99, 116, 105, 111, 110, 32, 91, 37, 118, 93, 32, 100, 101, 102, 105, 110, 105, 116, 105, 111, 110, 32, 40, 108, 101, 118, 101, 108, 32, 37, 118, 41, 10]⟩ 3 = some [(0, 118, false), (1, 118, false), (2, 118, false)] := by kernel_rfl
@[go_sem] theorem f_hdr (w : World) : (FmtDoors.printed ⟨#[37, 118, 59, 32, 102, 117, 110, 99, 116, 105, 111, 110, 32, 91, 37, 118, 93, 32, 100, 101, 102, 105, 110, 105, 116, 105, 111, 110, 32, 40, 108, 101, 118, 101, 108, 32, 37, 118, 41, 10]⟩ 3).run Tryf.prog w = .ok [(0, 118, false), (1, 118, false), (2, 118, false)] w := by kernel_rfl
-- '%v; %v upvalues, %v params, %v stacks\n'
@[go_sem] theorem f_up : FmtStop.printed? ⟨#[37, 118, 59, 32, 37, 118, 32, 117, 112, 118, 97, 108, 117, 101, 115, 44, 32, 37, 118, 32, 112, 97, 114, 97, 109, 115, 44, 32, 37, 118, 32, 115, 116, 97, 99, 107, 115, 10]⟩ 4 = some [(0, 118, false), (1, 118, false), (2, 118, false), (3, 118, false)] := by kernel_rfl
@[go_sem] theorem f_upr (w : World) : (FmtDoors.printed ⟨#[37, 118, 59, 32, 37, 118, 32, 117, 112, 118, 97, 108, 117, 101, 115, 44, 32, 37, 118, 32, 112, 97, 114, 97, 109, 115, 44, 32, 37, 118, 32, 115, 116, 97, 99, 107, 115, 10]⟩ 4).run Tryf.prog w = .ok [(0, 118, false), (1, 118, false), (2, 118, false), (3, 118, false)] w := by kernel_rfl
-- '%v.local %v ; %v\n'
@[go_sem] theorem f_lo : FmtStop.printed? ⟨#[37, 118, 46, 108, 111, 99, 97, 108, 32, 37, 118, 32, 59, 32, 37, 118, 10]⟩ 3 = some [(0, 118, false), (1, 118, false), (2, 118, false)] := by kernel_rfl
@[go_sem] theorem f_lor (w : World) : (FmtDoors.printed ⟨#[37, 118, 46, 108, 111, 99, 97, 108, 32, 37, 118, 32, 59, 32, 37, 118, 10]⟩ 3).run Tryf.prog w = .ok [(0, 118, false), (1, 118, false), (2, 118, false)] w := by kernel_rfl
-- '%v.upvalue %v ; %v\n'
@[go_sem] theorem f_uv : FmtStop.printed? ⟨#[37, 118, 46, 117, 112, 118, 97, 108, 117, 101, 32, 37, 118, 32, 59, 32, 37, 118, 10]⟩ 3 = some [(0, 118, false), (1, 118, false), (2, 118, false)] := by kernel_rfl
@[go_sem] theorem f_uvr (w : World) : (FmtDoors.printed ⟨#[37, 118, 46, 117, 112, 118, 97, 108, 117, 101, 32, 37, 118, 32, 59, 32, 37, 118, 10]⟩ 3).run Tryf.prog w = .ok [(0, 118, false), (1, 118, false), (2, 118, false)] w := by kernel_rfl
-- '%v; end of function\n'
@[go_sem] theorem f_en : FmtStop.printed? ⟨#[37, 118, 59, 32, 101, 110, 100, 32, 111, 102, 32, 102, 117, 110, 99, 116, 105, 111, 110, 10]⟩ 1 = some [(0, 118, false)] := by kernel_rfl
@[go_sem] theorem f_enr (w : World) : (FmtDoors.printed ⟨#[37, 118, 59, 32, 101, 110, 100, 32, 111, 102, 32, 102, 117, 110, 99, 116, 105, 111, 110, 10]⟩ 1).run Tryf.prog w = .ok [(0, 118, false)] w := by kernel_rfl
def sh_int : List UInt8 := FmtStop.intCode .i64 :: FmtStop.pack [105, 110, 116]
@[go_sem] theorem op_int (name : String) (x : Int) (w : World) : (FmtStop.operand name false 118 false (.iface 3 (.int .i64 x))).run Tryf.prog w = .ok (sh_int, Go.Extern.Stop.digits 8 (x % 2 ^ 64).toNat) w := by kernel_rfl
@[go_sem] theorem strict_int (name : String) (x : Int) (w : World) : (FmtStop.strict name (.iface 3 (.int .i64 x))).run Tryf.prog w = .ok (sh_int, Go.Extern.Stop.digits 8 (x % 2 ^ 64).toNat) w := by kernel_rfl
def sh_uint8 : List UInt8 := FmtStop.intCode .u8 :: FmtStop.pack [117, 105, 110, 116, 56]
@[go_sem] theorem op_uint8 (name : String) (x : Int) (w : World) : (FmtStop.operand name false 118 false (.iface 5 (.int .u8 x))).run Tryf.prog w = .ok (sh_uint8, Go.Extern.Stop.digits 8 (x % 2 ^ 64).toNat) w := by kernel_rfl
@[go_sem] theorem strict_uint8 (name : String) (x : Int) (w : World) : (FmtStop.strict name (.iface 5 (.int .u8 x))).run Tryf.prog w = .ok (sh_uint8, Go.Extern.Stop.digits 8 (x % 2 ^ 64).toNat) w := by kernel_rfl
def sh_string : List UInt8 := 12 :: FmtStop.pack [115, 116, 114, 105, 110, 103]
@[go_sem] theorem op_string (name : String) (x : ByteArray) (w : World) : (FmtStop.operand name false 118 false (.iface 9 (.string x))).run Tryf.prog w = .ok (sh_string, FmtStop.pack x.data.toList) w := by kernel_rfl
@[go_sem] theorem strict_string (name : String) (x : ByteArray) (w : World) : (FmtStop.strict name (.iface 9 (.string x))).run Tryf.prog w = .ok (sh_string, FmtStop.pack x.data.toList) w := by kernel_rfl
end Go.Proofs.YtdljljnjijkbjaaFmt
