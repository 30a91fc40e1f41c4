/- (UNDER WAY) FunctionProto.str's contract: what it writes at a proto without constants and code. -/
import Derived.Test.YtdljljnjijkbjaaFmtText15
import Derived.Test.YtdljljnjijkbjaaFmtShelf
import Derived.Test.YtdljljnjijkbjaaFmtMem
import Derived.Test.YtdljljnjijkbjaaFmtDrawnEndB
import Derived.Maps.AppendAt
namespace Go.Proofs.YtdljljnjijkbjaaFmt
open Go.RowKit Go.Kit Go.Extern.Stop Go.Stop Go.Extern
set_option linter.unusedVariables false

theorem infoStr : (Tryf.prog.info? 9).map (fun i => (i.zero, i.size, i.bytes)) = some (some (.string ByteArray.empty), 1, 16) := by kernel_rfl

/-- a text told -/
theorem told_bytes (F : Interp) {reading : List (List UInt8)} {s : List UInt8} (h : FmtText.text "fmt.Sprintf" reading = some s) (hl : s.length < 2 ^ 63) : FmtStop.textOf (F.told "fmt.Sprintf" reading 0) = ⟨s.toArray⟩ := by
  have := textOf_list F.told "fmt.Sprintf" reading
  rw [told_string F h hl] at this
  have e : (FmtStop.textOf (F.told "fmt.Sprintf" reading 0)).data = s.toArray := by rw [← this]
  exact congrArg ByteArray.mk e

def ind (level : Nat) : ByteArray := ⟨(Lib.repeatL [32, 32] (level - 1)).toArray⟩
end Go.Proofs.YtdljljnjijkbjaaFmt
