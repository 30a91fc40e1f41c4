/- The contracts of the generated guards 'zzBytes_..': a bool comes back; where it is true the lengths sum to at most 2^20. -/
import Derived.Test.YtabienikffakiaaFmtRows
import Derived.Test.YtabienikffakiaaFmtMem
import Derived.WalkKit
import Derived.ProofKit
import Derived.WalkLawsBesides
import Derived.WalkSpells
import Derived.Handy
import Derived.Lib.Hide
namespace Go.Proofs.YtabienikffakiaaFmt
open Go.RowKit
set_option linter.unusedVariables false


set_option maxRecDepth 100000 in
set_option maxHeartbeats 1000000 in
theorem zzB_FnBreakJumpsToInnermostLoop (x0 : Int) (a1 : Option Addr) (n1 c1 : Nat) (a2 : Option Addr) (n2 c2 : Nat) (a3 : Option Addr) (n3 c3 : Nat) (x4 : Int) (w : World) (m1 : n1 ≤ maxLen) (m2 : n2 ≤ maxLen) (m3 : n3 ≤ maxLen) :
    Calls Tryf.prog 5 #[.int .i64 x0, .slice a1 n1 c1, .slice a2 n2 c2, .slice a3 n3 c3, .int .i64 x4] w (SomeBool (n1 + n2 + n3 ≤ 1048576) w) := by
  unfold maxLen at m1
  unfold maxLen at m2
  unfold maxLen at m3
  have b9 : True := trivial
  go_enter Tryf.func5, Tryf.ntmps5
  go_wp2
  all_goals first
    | (go_ret; exact ⟨true, rfl, (fun _ => by omega), rfl⟩)
    | (go_ret; exact ⟨false, rfl, (fun h => absurd h (by simp)), rfl⟩)


set_option maxRecDepth 100000 in
set_option maxHeartbeats 1000000 in
theorem zzB_FnBreakTwiceSame (x0 : Int) (a1 : Option Addr) (n1 c1 : Nat) (a2 : Option Addr) (n2 c2 : Nat) (a3 : Option Addr) (n3 c3 : Nat) (x4 : Int) (w : World) (m1 : n1 ≤ maxLen) (m2 : n2 ≤ maxLen) (m3 : n3 ≤ maxLen) :
    Calls Tryf.prog 20 #[.int .i64 x0, .slice a1 n1 c1, .slice a2 n2 c2, .slice a3 n3 c3, .int .i64 x4] w (SomeBool (n1 + n2 + n3 ≤ 1048576) w) := by
  unfold maxLen at m1
  unfold maxLen at m2
  unfold maxLen at m3
  have b9 : True := trivial
  go_enter Tryf.func20, Tryf.ntmps20
  go_wp2
  all_goals first
    | (go_ret; exact ⟨true, rfl, (fun _ => by omega), rfl⟩)
    | (go_ret; exact ⟨false, rfl, (fun h => absurd h (by simp)), rfl⟩)


end Go.Proofs.YtabienikffakiaaFmt
