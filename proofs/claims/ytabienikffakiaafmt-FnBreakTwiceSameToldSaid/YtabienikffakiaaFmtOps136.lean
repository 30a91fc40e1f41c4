/- The contracts of the instruction word's makers, setters and readers. -/
import Derived.Test.YtabienikffakiaaFmtRows
import Derived.Test.YtabienikffakiaaFmtBits
import Derived.WalkKit
import Derived.ProofKit
import Derived.OpenShut
import Derived.WalkLawsBesides
import Derived.WalkSpells
import Derived.Handy
import Derived.Lib.Hide
namespace Go.Proofs.YtabienikffakiaaFmt
open Go.RowKit
set_option linter.unusedVariables false

theorem opSetArgA_any (b o : Nat) (x v : Int) (w : World) (h0 : 0 ≤ x) (h1 : x < 4294967296) (hc : w.cell? ⟨b, o, none⟩ = some (.int .u32 x)) (hf : w.frozen? ⟨b, o, none⟩ = false) :
    Calls Tryf.prog 53 #[.pointer (some ⟨b, o, none⟩), .int .i64 v] w fun e w' => e = .returned (.tuple #[]) ∧ w.setCell ⟨b, o, none⟩ (.int .u32 (setA x v)) = w' := by
  go_enter Tryf.func53, Tryf.ntmps53
  go_wp2
  go_end0
  exact ⟨rfl, by rw [shl_a, setA_eq x v h0 h1]⟩

theorem opSetArgBx_any (b o : Nat) (x v : Int) (w : World) (h0 : 0 ≤ x) (h1 : x < 4294967296) (hc : w.cell? ⟨b, o, none⟩ = some (.int .u32 x)) (hf : w.frozen? ⟨b, o, none⟩ = false) :
    Calls Tryf.prog 57 #[.pointer (some ⟨b, o, none⟩), .int .i64 v] w fun e w' => e = .returned (.tuple #[]) ∧ w.setCell ⟨b, o, none⟩ (.int .u32 (setBx x v)) = w' := by
  go_enter Tryf.func57, Tryf.ntmps57
  go_wp2
  go_end0
  exact ⟨rfl, by rw [low_bx, setBx_eq x v h0 h1]⟩

theorem opSetArgSbx_any (b o : Nat) (x v : Int) (w : World) (h0 : 0 ≤ x) (h1 : x < 4294967296) (hc : w.cell? ⟨b, o, none⟩ = some (.int .u32 x)) (hf : w.frozen? ⟨b, o, none⟩ = false) :
    Calls Tryf.prog 56 #[.pointer (some ⟨b, o, none⟩), .int .i64 v] w fun e w' => e = .returned (.tuple #[]) ∧ w.setCell ⟨b, o, none⟩ (.int .u32 (setBx x (v + 131071))) = w' := by
  go_enter Tryf.func56, Tryf.ntmps56
  go_wp2_with fail
  refine (opSetArgBx_any b o x _ _ h0 h1 hc hf).mono ?_
  rintro e w' ⟨rfl, rfl⟩
  go_wp2
  go_end0
  exact ⟨rfl, by rw [show setBx x (wrap64 (v + 131071)) = setBx x (v + 131071) from by unfold setBx wrap64; omega]⟩


end Go.Proofs.YtabienikffakiaaFmt
