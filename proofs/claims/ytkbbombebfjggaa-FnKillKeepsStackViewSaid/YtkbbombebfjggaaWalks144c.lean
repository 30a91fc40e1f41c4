/- The walks of the laws on a state's frame window (folder n005_144): each call returns true. -/
import Derived.Test.YtkbbombebfjggaaWalks144a
namespace Go.Proofs.Ytkbbombebfjggaa
open Go.RowKit
set_option linter.unusedVariables false

set_option maxRecDepth 100000 in
set_option maxHeartbeats 2000000 in
theorem walk_FnKillKeepsStackView (a0 : Bool) (a1 : Int) (a2 : Int) (a3 : Int) (w1 : (Lit.int .i64 a1).wf = true) (w2 : (Lit.int .i64 a2).wf = true) (w3 : (Lit.int .i64 a3).wf = true) (w : World) :
    Calls Try.prog 6 #[.bool a0, .int .i64 a1, .int .i64 a2, .int .i64 a3] w fun e w' => e = .returned (.bool true) ∧ Below w.heap.size w w' := by
  by_cases c0 : a1 < 0
  · go_enter Try.func6, Try.ntmps6
    go_wp2
    go_ret
    exact ⟨rfl, by go_grown⟩
  by_cases c1 : 1073741824 < a1
  · go_enter Try.func6, Try.ntmps6
    go_wp2
    go_ret
    exact ⟨rfl, by go_grown⟩
  by_cases c2 : a2 < 0
  · go_enter Try.func6, Try.ntmps6
    go_wp2
    go_ret
    exact ⟨rfl, by go_grown⟩
  by_cases c3 : 1073741824 < a2
  · go_enter Try.func6, Try.ntmps6
    go_wp2
    go_ret
    exact ⟨rfl, by go_grown⟩
  by_cases c4 : a3 < -1073741824
  · go_enter Try.func6, Try.ntmps6
    go_wp2
    go_ret
    exact ⟨rfl, by go_grown⟩
  by_cases c5 : 1073741824 < a3
  · go_enter Try.func6, Try.ntmps6
    go_wp2
    go_ret
    exact ⟨rfl, by go_grown⟩
  cases a0
  · by_cases hi : 0 < a3
    · go_enter Try.func6, Try.ntmps6
      go_wp2_with (first | (go_at_call 12; go_call (kill_any _ _ _) as e w' ⟨rfl, rfl⟩) | go_in)
      go_ret
      exact ⟨by first | rfl | exact ret_bool (by rw [beq_iff_eq]; omega) | exact ret_bool (decide_eq_true (by omega)) | exact ret_bool (by rw [beq_iff_eq]; unfold wrap64; omega), by go_grown⟩
    by_cases hz : a3 = 0
    · subst hz
      go_enter Try.func6, Try.ntmps6
      go_wp2_with (first | (go_at_call 12; go_call (kill_any _ _ _) as e w' ⟨rfl, rfl⟩) | go_in)
      go_ret
      exact ⟨by first | rfl | exact ret_bool (by rw [beq_iff_eq]; omega) | exact ret_bool (decide_eq_true (by omega)) | exact ret_bool (by rw [beq_iff_eq]; unfold wrap64; omega), by go_grown⟩
    by_cases hn : a2 + a3 < 0
    · go_enter Try.func6, Try.ntmps6
      go_wp2_with (first | (go_at_call 12; go_call (kill_any _ _ _) as e w' ⟨rfl, rfl⟩) | go_in)
      go_ret
      exact ⟨by first | rfl | exact ret_bool (by rw [beq_iff_eq]; omega) | exact ret_bool (decide_eq_true (by omega)) | exact ret_bool (by rw [beq_iff_eq]; unfold wrap64; omega), by go_grown⟩
    · go_enter Try.func6, Try.ntmps6
      go_wp2_with (first | (go_at_call 12; go_call (kill_any _ _ _) as e w' ⟨rfl, rfl⟩) | go_in)
      go_ret
      exact ⟨by first | rfl | exact ret_bool (by rw [beq_iff_eq]; omega) | exact ret_bool (decide_eq_true (by omega)) | exact ret_bool (by rw [beq_iff_eq]; unfold wrap64; omega), by go_grown⟩
  · by_cases c0 : a2 < a1
    · go_enter Try.func6, Try.ntmps6
      go_wp2
      go_ret
      exact ⟨rfl, by go_grown⟩
    by_cases hi : 0 < a3
    · go_enter Try.func6, Try.ntmps6
      go_wp2_with (first | (go_at_call 12; go_call (kill_any _ _ _) as e w' ⟨rfl, rfl⟩) | go_in)
      go_ret
      exact ⟨by first | rfl | exact ret_bool (by rw [beq_iff_eq]; omega) | exact ret_bool (decide_eq_true (by omega)) | exact ret_bool (by rw [beq_iff_eq]; unfold wrap64; omega), by go_grown⟩
    by_cases hz : a3 = 0
    · subst hz
      go_enter Try.func6, Try.ntmps6
      go_wp2_with (first | (go_at_call 12; go_call (kill_any _ _ _) as e w' ⟨rfl, rfl⟩) | go_in)
      go_ret
      exact ⟨by first | rfl | exact ret_bool (by rw [beq_iff_eq]; omega) | exact ret_bool (decide_eq_true (by omega)) | exact ret_bool (by rw [beq_iff_eq]; unfold wrap64; omega), by go_grown⟩
    by_cases hn : a2 + a3 < a1
    · go_enter Try.func6, Try.ntmps6
      go_wp2_with (first | (go_at_call 12; go_call (kill_any _ _ _) as e w' ⟨rfl, rfl⟩) | go_in)
      go_ret
      exact ⟨by first | rfl | exact ret_bool (by rw [beq_iff_eq]; omega) | exact ret_bool (decide_eq_true (by omega)) | exact ret_bool (by rw [beq_iff_eq]; unfold wrap64; omega), by go_grown⟩
    · go_enter Try.func6, Try.ntmps6
      go_wp2_with (first | (go_at_call 12; go_call (kill_any _ _ _) as e w' ⟨rfl, rfl⟩) | go_in)
      go_ret
      exact ⟨by first | rfl | exact ret_bool (by rw [beq_iff_eq]; omega) | exact ret_bool (decide_eq_true (by omega)) | exact ret_bool (by rw [beq_iff_eq]; unfold wrap64; omega), by go_grown⟩

end Go.Proofs.Ytkbbombebfjggaa
