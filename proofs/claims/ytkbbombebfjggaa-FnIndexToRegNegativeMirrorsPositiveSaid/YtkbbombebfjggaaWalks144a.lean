/- The walks of the laws on a state's frame window (folder n005_144): each call returns true. -/
import Derived.Test.YtkbbombebfjggaaRows
import Derived.Test.YtkbbombebfjggaaPtr
import Derived.WalkKit
import Derived.ProofKit
import Derived.OpenShut
import Derived.WalkLawsBesides
import Derived.WalkSpells
import Derived.Handy
import Derived.Lib.Hide
namespace Go.Proofs.Ytkbbombebfjggaa
open Go.RowKit
set_option linter.unusedVariables false

theorem bd_i64 {v : Int} (w : (Lit.int .i64 v).wf = true) : -9223372036854775808 ≤ v ∧ v ≤ 9223372036854775807 := by
  simpa [Lit.wf, IntKind.min, IntKind.max, IntKind.signed, IntKind.bits] using w
theorem ret_bool {b : Bool} (h : b = true) : Ending.returned (.bool b) = .returned (.bool true) := by rw [h]

@[go_sem] theorem neqParent (a : Addr) (w : World) : (binOp .neq 22 (.pointer (some a)) (.pointer (some a))).run Try.prog w = .ok (.bool false) w := by
  have h : (Try.prog.info? 45).isSome = true := by kernel_rfl
  obtain ⟨j, hj⟩ := Option.isSome_iff_exists.1 h
  exact run_neq_ptr_same w a Try.underlying22 hj
@[go_sem] theorem eqlParent (a : Addr) (w : World) : (binOp .eql 22 (.pointer (some a)) (.pointer (some a))).run Try.prog w = .ok (.bool true) w := by
  have h : (Try.prog.info? 45).isSome = true := by kernel_rfl
  obtain ⟨j, hj⟩ := Option.isSome_iff_exists.1 h
  exact run_eql_ptr_same w a Try.underlying22 hj
@[go_sem] theorem neqNilFunc (w : World) : (binOp .neq 43 .nilFunc .nilFunc).run Try.prog w = .ok (.bool false) w := by kernel_rfl

set_option maxRecDepth 100000 in
theorem kill_any (b : Nat) (x : Value) (w : World) (hd : w.cell? ⟨b, 4, none⟩ = some x) (hf : w.frozen? ⟨b, 4, none⟩ = false) (hn : w.cell? ⟨b, 22, none⟩ = some .nilFunc) :
    Calls Try.prog 12 #[.pointer (some ⟨b, 0, none⟩)] w fun e w' => e = .returned (.tuple #[]) ∧ w.setCell ⟨b, 4, none⟩ (.bool true) = w' := by
  have hn2 : (w.setCell ⟨b, 4, none⟩ (.bool true)).cell? ⟨b, 22, none⟩ = some .nilFunc := (World.cell?_setCell_other w _ _ _ (by simp)).trans hn
  go_enter Try.func12, Try.ntmps12
  go_wp2
  go_end0
  exact ⟨rfl, rfl⟩

set_option maxRecDepth 100000 in
set_option maxHeartbeats 2000000 in
theorem walk_FnIsStartedAgreesWithGetStack (a0 : Bool) (a1 : Int) (w1 : (Lit.int .i64 a1).wf = true) (w : World) :
    Calls Try.prog 3 #[.bool a0, .int .i64 a1] w fun e w' => e = .returned (.bool true) ∧ Below w.heap.size w w' := by
  cases a0
  all_goals
    go_enter Try.func3, Try.ntmps3
    go_wp2
    go_rounds 1
    go_ret
    exact ⟨rfl, by go_grown⟩

set_option maxRecDepth 100000 in
set_option maxHeartbeats 2000000 in
theorem walk_FnKillMarksDead (a0 : Bool) (a1 : Int) (a2 : Bool) (a3 : Bool) (w1 : (Lit.int .i64 a1).wf = true) (w : World) :
    Calls Try.prog 4 #[.bool a0, .int .i64 a1, .bool a2, .bool a3] w fun e w' => e = .returned (.bool true) ∧ Below w.heap.size w w' := by
  cases a0 <;> cases a3
  all_goals
    go_enter Try.func4, Try.ntmps4
    go_wp2_with (first | (go_at_call 12; go_call (kill_any _ _ _) as e w' ⟨rfl, rfl⟩) | go_in)
    go_ret
    exact ⟨by first | rfl | exact ret_bool (by rw [beq_iff_eq]; omega) | exact ret_bool (decide_eq_true (by omega)) | exact ret_bool (by rw [beq_iff_eq]; unfold wrap64; omega), by go_grown⟩

set_option maxRecDepth 100000 in
set_option maxHeartbeats 2000000 in
theorem walk_FnIsStartedIffFrame (a0 : Bool) (a1 : Int) (w1 : (Lit.int .i64 a1).wf = true) (w : World) :
    Calls Try.prog 5 #[.bool a0, .int .i64 a1] w fun e w' => e = .returned (.bool true) ∧ Below w.heap.size w w' := by
  have b1 := bd_i64 w1
  cases a0
  all_goals
    go_enter Try.func5, Try.ntmps5
    go_wp2
    go_ret
    exact ⟨by first | rfl | exact ret_bool (by rw [beq_iff_eq]; omega) | exact ret_bool (decide_eq_true (by omega)) | exact ret_bool (by rw [beq_iff_eq]; unfold wrap64; omega), by go_grown⟩

end Go.Proofs.Ytkbbombebfjggaa
