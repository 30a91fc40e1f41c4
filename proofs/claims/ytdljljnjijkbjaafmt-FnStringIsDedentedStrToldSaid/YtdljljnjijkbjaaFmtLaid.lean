/- The start that is shown to be there for the rows that list opProps: the heap that the door's own run leaves meets the condition. No condition. -/
import Derived.Test.YtdljljnjijkbjaaFmtRows
import Derived.LaidMore
import Derived.ProofKit
import Derived.Stop.Joined
namespace Go.Proofs.YtdljljnjijkbjaaFmt

theorem door_met (os : Os) (args : Array Value) : laidMetH Tryf.prog Rows.fnNewFunctionProtoIsEmptyRow.laid ((World.doorLaid Tryf.prog 61 os).forCall (fun _ _ => 0) ⟨#[], args, []⟩).memory :=
  laidMetH_of_parts3 (fuel := 8) (laidMet_of_run' 8 (by kernel_rfl) (by kernel_rfl)) (by kernel_rfl) (by kernel_rfl)
end Go.Proofs.YtdljljnjijkbjaaFmt
