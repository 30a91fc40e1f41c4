/- The walks of the laws on UpvalueIndex (folder n005_15): each call returns true. -/
import Derived.Test.YtdljljnjijkbjaaRows
import Derived.WalkKit
import Derived.ProofKit
import Derived.OpenShut
import Derived.WalkLawsBesides
import Derived.WalkSpells
import Derived.Handy
namespace Go.Proofs.Ytdljljnjijkbjaa
open Go.RowKit
set_option linter.unusedVariables false

theorem walk_FnUpvalueIndexStepsDownByOne (a0 : Int) (w0 : (Lit.int .i64 a0).wf = true) (w : World) :
    Calls Try.prog 3 #[.int .i64 a0] w fun e w' => e = .returned (.bool true) ∧ Below w.heap.size w w' := by
  by_cases c0 : a0 < -1073741824
  · go_enter Try.func3, Try.ntmps3
    go_wp2
    go_ret
    exact ⟨rfl, Below.refl _ _⟩
  by_cases c1 : 1073741824 < a0
  · go_enter Try.func3, Try.ntmps3
    go_wp2
    go_ret
    exact ⟨rfl, Below.refl _ _⟩
  go_enter Try.func3, Try.ntmps3
  go_wp2
  go_ret
  exact ⟨by first | rfl | exact congrArg (fun b => Ending.returned (.bool b)) (by rw [beq_iff_eq]; omega), Below.refl _ _⟩

theorem walk_FnUpvalueIndexDecodesToSlot (a0 : Int) (w0 : (Lit.int .i64 a0).wf = true) (w : World) :
    Calls Try.prog 4 #[.int .i64 a0] w fun e w' => e = .returned (.bool true) ∧ Below w.heap.size w w' := by
  by_cases c0 : a0 < 1
  · go_enter Try.func4, Try.ntmps4
    go_wp2
    go_ret
    exact ⟨rfl, Below.refl _ _⟩
  by_cases c1 : 1073741824 < a0
  · go_enter Try.func4, Try.ntmps4
    go_wp2
    go_ret
    exact ⟨rfl, Below.refl _ _⟩
  have e1 : ((-10002 : Int) - a0 == -10001) = false := by rw [beq_eq_false_iff_ne]; omega
  have e2 : ((-10002 : Int) - a0 == -10000) = false := by rw [beq_eq_false_iff_ne]; omega
  have e3 : decide ((-10002 : Int) ≤ -10002 - a0) = false := decide_eq_false (by omega)
  have e4 : decide ((-10002 : Int) - a0 < -10002) = true := decide_eq_true (by omega)
  go_enter Try.func4, Try.ntmps4
  go_wp2
  go_ret
  exact ⟨by first | rfl | exact congrArg (fun b => Ending.returned (.bool b)) (by rw [beq_iff_eq]; omega), Below.refl _ _⟩

end Go.Proofs.Ytdljljnjijkbjaa
