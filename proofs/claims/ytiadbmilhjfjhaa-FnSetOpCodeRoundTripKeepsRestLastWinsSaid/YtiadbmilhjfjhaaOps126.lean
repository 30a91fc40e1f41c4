/- The contracts of the instruction word's makers, setters and readers. -/
import Derived.Test.YtiadbmilhjfjhaaRows
import Derived.Test.YtiadbmilhjfjhaaBits
import Derived.WalkKit
import Derived.ProofKit
import Derived.OpenShut
import Derived.WalkLawsBesides
import Derived.WalkSpells
import Derived.Handy
import Derived.Lib.Hide
namespace Go.Proofs.Ytiadbmilhjfjhaa
open Go.RowKit
set_option linter.unusedVariables false

theorem opSetOpCode_any (b o : Nat) (x v : Int) (w : World) (h0 : 0 ≤ x) (h1 : x < 4294967296) (hc : w.cell? ⟨b, o, none⟩ = some (.int .u32 x)) (hf : w.frozen? ⟨b, o, none⟩ = false) :
    Calls Try.prog 11 #[.pointer (some ⟨b, o, none⟩), .int .i64 v] w fun e w' => e = .returned (.tuple #[]) ∧ w.setCell ⟨b, o, none⟩ (.int .u32 (setOp x v)) = w' := by
  go_enter Try.func11, Try.ntmps11
  go_wp2
  go_end0
  exact ⟨rfl, by rw [shl_op, setOp_eq x v h0 h1]⟩

theorem opSetArgA_any (b o : Nat) (x v : Int) (w : World) (h0 : 0 ≤ x) (h1 : x < 4294967296) (hc : w.cell? ⟨b, o, none⟩ = some (.int .u32 x)) (hf : w.frozen? ⟨b, o, none⟩ = false) :
    Calls Try.prog 13 #[.pointer (some ⟨b, o, none⟩), .int .i64 v] w fun e w' => e = .returned (.tuple #[]) ∧ w.setCell ⟨b, o, none⟩ (.int .u32 (setA x v)) = w' := by
  go_enter Try.func13, Try.ntmps13
  go_wp2
  go_end0
  exact ⟨rfl, by rw [shl_a, setA_eq x v h0 h1]⟩

theorem opGetOpCode_any (x : Int) (h0 : 0 ≤ x) (h1 : x < 4294967296) (w : World) :
    Calls Try.prog 10 #[.int .u32 x] w fun e w' => e = .returned (.int .i64 (x / 67108864)) ∧ w = w' := by
  go_enter Try.func10, Try.ntmps10
  go_wp2
  go_ret
  exact ⟨rfl, rfl⟩

theorem opGetArgA_any (x : Int) (h0 : 0 ≤ x) (h1 : x < 4294967296) (w : World) :
    Calls Try.prog 12 #[.int .u32 x] w fun e w' => e = .returned (.int .i64 (x / 262144 % 256)) ∧ w = w' := by
  go_enter Try.func12, Try.ntmps12
  go_wp2
  go_ret
  exact ⟨congrArg (fun t => Ending.returned (.int .i64 t)) (get_a' x h0 h1), rfl⟩

theorem ZZopGetOpCode_any (x : Int) (h0 : 0 ≤ x) (h1 : x < 4294967296) (w : World) :
    Calls Try.prog 6 #[.int .u32 x] w fun e w' => e = .returned (.int .i64 (x / 67108864)) ∧ w = w' := by
  go_enter Try.func6, Try.ntmps6
  go_wp2_with fail
  refine (opGetOpCode_any x h0 h1 _).mono ?_
  rintro e w' ⟨rfl, rfl⟩
  go_wp2
  go_ret
  exact ⟨rfl, rfl⟩

theorem ZZopGetArgA_any (x : Int) (h0 : 0 ≤ x) (h1 : x < 4294967296) (w : World) :
    Calls Try.prog 8 #[.int .u32 x] w fun e w' => e = .returned (.int .i64 (x / 262144 % 256)) ∧ w = w' := by
  go_enter Try.func8, Try.ntmps8
  go_wp2_with fail
  refine (opGetArgA_any x h0 h1 _).mono ?_
  rintro e w' ⟨rfl, rfl⟩
  go_wp2
  go_ret
  exact ⟨rfl, rfl⟩


end Go.Proofs.Ytiadbmilhjfjhaa
