/- The contracts of the instruction word's makers, setters and readers. -/
import Derived.Test.YtdhmpfijdmlfoaaFmtRows
import Derived.Test.YtdhmpfijdmlfoaaFmtBits
import Derived.WalkKit
import Derived.ProofKit
import Derived.OpenShut
import Derived.WalkLawsBesides
import Derived.WalkSpells
import Derived.Handy
import Derived.Lib.Hide
namespace Go.Proofs.YtdhmpfijdmlfoaaFmt
open Go.RowKit
set_option linter.unusedVariables false

theorem opSetArgA_any (b o : Nat) (x v : Int) (w : World) (h0 : 0 ≤ x) (h1 : x < 4294967296) (hc : w.cell? ⟨b, o, none⟩ = some (.int .u32 x)) (hf : w.frozen? ⟨b, o, none⟩ = false) :
    Calls Tryf.prog 47 #[.pointer (some ⟨b, o, none⟩), .int .i64 v] w fun e w' => e = .returned (.tuple #[]) ∧ w.setCell ⟨b, o, none⟩ (.int .u32 (setA x v)) = w' := by
  go_enter Tryf.func47, Tryf.ntmps47
  go_wp2
  go_end0
  exact ⟨rfl, by rw [shl_a, setA_eq x v h0 h1]⟩

theorem opSetArgBx_any (b o : Nat) (x v : Int) (w : World) (h0 : 0 ≤ x) (h1 : x < 4294967296) (hc : w.cell? ⟨b, o, none⟩ = some (.int .u32 x)) (hf : w.frozen? ⟨b, o, none⟩ = false) :
    Calls Tryf.prog 51 #[.pointer (some ⟨b, o, none⟩), .int .i64 v] w fun e w' => e = .returned (.tuple #[]) ∧ w.setCell ⟨b, o, none⟩ (.int .u32 (setBx x v)) = w' := by
  go_enter Tryf.func51, Tryf.ntmps51
  go_wp2
  go_end0
  exact ⟨rfl, by rw [low_bx, setBx_eq x v h0 h1]⟩

theorem opSetArgSbx_any (b o : Nat) (x v : Int) (w : World) (h0 : 0 ≤ x) (h1 : x < 4294967296) (hc : w.cell? ⟨b, o, none⟩ = some (.int .u32 x)) (hf : w.frozen? ⟨b, o, none⟩ = false) :
    Calls Tryf.prog 46 #[.pointer (some ⟨b, o, none⟩), .int .i64 v] w fun e w' => e = .returned (.tuple #[]) ∧ w.setCell ⟨b, o, none⟩ (.int .u32 (setBx x (v + 131071))) = w' := by
  go_enter Tryf.func46, Tryf.ntmps46
  go_wp2_with fail
  refine (opSetArgBx_any b o x _ _ h0 h1 hc hf).mono ?_
  rintro e w' ⟨rfl, rfl⟩
  go_wp2
  go_end0
  exact ⟨rfl, by rw [show setBx x (wrap64 (v + 131071)) = setBx x (v + 131071) from by unfold setBx wrap64; omega]⟩


end Go.Proofs.YtdhmpfijdmlfoaaFmt
