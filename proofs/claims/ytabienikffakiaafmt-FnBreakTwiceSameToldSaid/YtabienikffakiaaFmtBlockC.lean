/- newCodeBlock's contract with a position. -/
import Derived.Test.YtabienikffakiaaFmtBlockB
namespace Go.Proofs.YtabienikffakiaaFmt
open Go.RowKit Go.Maps
set_option linter.unusedVariables false

set_option maxRecDepth 100000 in
theorem newCodeBlockPos_any (lv par : Option Addr) (bl fg : Int) (p : Nat) (l1 l2 : Int) (w : World) (c0 : w.cell? ⟨p, 0, none⟩ = some (.int .i64 l1)) (c1 : w.cell? ⟨p, 1, none⟩ = some (.int .i64 l2)) :
    Calls Tryf.prog 43 #[.pointer lv, .int .i64 bl, .pointer par, .iface 50 (.pointer (some ⟨p, 0, none⟩)), .int .i64 fg] w fun e w' =>
      e = .returned (.pointer (some ⟨w.heap.size + 1, 0, none⟩)) ∧
      (w.alloc (.map #[] 0)).alloc (.cells #[.pointer lv, .int .i64 bl, .pointer par, .bool false, .int .i64 l1, .int .i64 l2, .map (some w.heap.size), .int .i64 fg] 71) = w' := by
  have hmm := @run_makeMap Tryf.prog
  have hp := World.block_lt_of_cell? _ _ c0
  have hp : p < w.heap.size := hp
  have n1 : ¬ p = w.heap.size := by omega
  have n2 : ¬ p = w.heap.size + 1 := by omega
  have k0 : ∀ o1 o2, ((w.alloc o1).alloc o2).cell? ⟨p, 0, none⟩ = some (.int .i64 l1) := fun o1 o2 => (((Turn.refl w (fun _ => False)).alloc o1).alloc o2).cell c0 id
  have k1 : ∀ o1 o2, ((w.alloc o1).alloc o2).cell? ⟨p, 1, none⟩ = some (.int .i64 l2) := fun o1 o2 => (((Turn.refl w (fun _ => False)).alloc o1).alloc o2).cell c1 id
  go_enter Tryf.func43, Tryf.ntmps43
  go_wp2
  go_ret
  exact ⟨rfl, rfl⟩
end Go.Proofs.YtabienikffakiaaFmt
