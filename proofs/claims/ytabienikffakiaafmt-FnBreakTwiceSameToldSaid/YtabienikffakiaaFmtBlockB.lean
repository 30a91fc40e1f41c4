/- newCodeBlock's contract. -/
import Derived.Test.YtabienikffakiaaFmtPool
import Derived.Maps.OwnSet
namespace Go.Proofs.YtabienikffakiaaFmt
open Go.RowKit Go.Maps
set_option linter.unusedVariables false

set_option maxRecDepth 100000 in
theorem newCodeBlock_any (lv par : Option Addr) (bl fg : Int) (w : World) :
    Calls Tryf.prog 43 #[.pointer lv, .int .i64 bl, .pointer par, .nilIface, .int .i64 fg] w fun e w' =>
      e = .returned (.pointer (some ⟨w.heap.size + 1, 0, none⟩)) ∧
      (w.alloc (.map #[] 0)).alloc (.cells #[.pointer lv, .int .i64 bl, .pointer par, .bool false, .int .i64 0, .int .i64 0, .map (some w.heap.size), .int .i64 fg] 71) = w' := by
  have hmm := @run_makeMap Tryf.prog
  go_enter Tryf.func43, Tryf.ntmps43
  go_wp2
  go_ret
  exact ⟨rfl, rfl⟩
end Go.Proofs.YtabienikffakiaaFmt
