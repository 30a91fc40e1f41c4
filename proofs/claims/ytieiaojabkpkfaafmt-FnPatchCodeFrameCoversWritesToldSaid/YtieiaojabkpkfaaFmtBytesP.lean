/- The contracts of the generated guards 'zzBytes_..': a bool comes back; where it is true the lengths sum to at most 2^20. -/
import Derived.Test.YtieiaojabkpkfaaFmtRows
import Derived.Test.YtieiaojabkpkfaaFmtMem
import Derived.WalkKit
import Derived.ProofKit
import Derived.WalkLawsBesides
import Derived.WalkSpells
import Derived.Handy
import Derived.Lib.Hide
namespace Go.Proofs.YtieiaojabkpkfaaFmt
open Go.RowKit
set_option linter.unusedVariables false


set_option maxRecDepth 100000 in
set_option maxHeartbeats 1000000 in
theorem zzB_FnPatchCodeMoveRuns (a0 : Option Addr) (n0 c0 : Nat) (x1 : Int) (w : World) (m0 : n0 ≤ maxLen) :
    Calls Tryf.prog 8 #[.slice a0 n0 c0, .int .u8 x1] w (SomeBool (n0 ≤ 1048576) w) := by
  unfold maxLen at m0
  have b9 : True := trivial
  go_enter Tryf.func8, Tryf.ntmps8
  go_wp2
  all_goals first
    | (go_ret; exact ⟨true, rfl, (fun _ => by omega), rfl⟩)
    | (go_ret; exact ⟨false, rfl, (fun h => absurd h (by simp)), rfl⟩)


set_option maxRecDepth 100000 in
set_option maxHeartbeats 1000000 in
theorem zzB_FnPatchCodeFrameCoversWrites (a0 : Option Addr) (n0 c0 : Nat) (x1 : Int) (w : World) (m0 : n0 ≤ maxLen) :
    Calls Tryf.prog 28 #[.slice a0 n0 c0, .int .u8 x1] w (SomeBool (n0 ≤ 1048576) w) := by
  unfold maxLen at m0
  have b9 : True := trivial
  go_enter Tryf.func28, Tryf.ntmps28
  go_wp2
  all_goals first
    | (go_ret; exact ⟨true, rfl, (fun _ => by omega), rfl⟩)
    | (go_ret; exact ⟨false, rfl, (fun h => absurd h (by simp)), rfl⟩)


set_option maxRecDepth 100000 in
set_option maxHeartbeats 1000000 in
theorem zzB_FnPatchCodeCountSplitsAsMax (a0 : Option Addr) (n0 c0 : Nat) (a1 : Option Addr) (n1 c1 : Nat) (x2 : Int) (w : World) (m0 : n0 ≤ maxLen) (m1 : n1 ≤ maxLen) :
    Calls Tryf.prog 25 #[.slice a0 n0 c0, .slice a1 n1 c1, .int .u8 x2] w (SomeBool (n0 + n1 ≤ 1048576) w) := by
  unfold maxLen at m0
  unfold maxLen at m1
  have b9 : True := trivial
  go_enter Tryf.func25, Tryf.ntmps25
  go_wp2
  all_goals first
    | (go_ret; exact ⟨true, rfl, (fun _ => by omega), rfl⟩)
    | (go_ret; exact ⟨false, rfl, (fun h => absurd h (by simp)), rfl⟩)


end Go.Proofs.YtieiaojabkpkfaaFmt
