/-
  No cell of these rows narrows 'for every input' (looked for: loops, veiled, ifaces, maps, wideKeys, modest, calm, conditions, laid).
  DERIVED. THE GIVEN ROWS OF THIS SEAT. 2 by the template 'for every input the law returns true; each argument reads behind the call as it read before'; 0 by the template 'total and deterministic' (their statements: YteaopkanlnpiaaaTotals.lean).
  GIVEN WITH THE SEED: the statements are not yours to turn. If you find one false, say at which input.
  Laid BY PROGRAM, IN A SANDBOX (cutbox-rows.mjs): the forced cells as the released guide's own fill.sh prints them over the translation ff2395b7ee7113ba… (all of the seat's roots in one cut). By AI agents, Wed Nov 11 2026. No macro, syntax, notation, axiom, sorry.
-/
import Derived.Test.YteaopkanlnpiaaaChecked
import GoSem.Claim
import GoSem.ClaimJoined
import GoSem.ClaimMapViews
import Derived.JoinedTies
import Derived.KernelRfl
namespace Go.Proofs.Yteaopkanlnpiaaa
/- THE CELL 'sum', in the pinned program and in every row, IS THE sha256 OF THE DUMP (.gsa) THAT YteaopkanlnpiaaaProg.lean LOADS. Nothing in Lean hashes anything: it is a label: what it is worth is what the hold of that sum in a sandbox is worth. -/
noncomputable def Try.pinned : Pinned := { name := "yteaopkanlnpiaaa", sum := "ff2395b7ee7113ba8759ff61ca9e5e877df751f90e15fa151bf0cccb069b30d5", checked := Try.checked }
namespace Rows
def none {H : Type} : Left H := { results := [], args := [] }

/-- 'n005_134.FnLuaModuloMatchesIntegerFloorMod': WHATEVER THE INPUT: true; the input reads as it did. -/
def fnLuaModuloMatchesIntegerFloorModSpec : ChangeSpec := { name := "fnLuaModuloMatchesIntegerFloorMod", fn := fun _ => fun
  | [d1, d2] => { results := [.lit (.bool true)], args := [d1, d2] }
  | _ => none }
def fnLuaModuloMatchesIntegerFloorModRow : OpenClaim := { program := "yteaopkanlnpiaaa", sum := "ff2395b7ee7113ba8759ff61ca9e5e877df751f90e15fa151bf0cccb069b30d5", func := "github.com/yuin/gopher-lua/n005_134.FnLuaModuloMatchesIntegerFloorMod", spec := "fnLuaModuloMatchesIntegerFloorMod", inPlace := ["math.Float64bits", "math.Float64frombits"], apart := false }
def FnLuaModuloMatchesIntegerFloorModSaid : Prop := fnLuaModuloMatchesIntegerFloorModRow.holds Try.pinned (OpenSpec.ofChange fnLuaModuloMatchesIntegerFloorModSpec)

/-- ITS FALSE NEIGHBOUR: 'it returns false'. Refute it at one input. -/
def fnLuaModuloMatchesIntegerFloorModWrong : ChangeSpec := { name := "fnLuaModuloMatchesIntegerFloorMod", fn := fun _ => fun
  | [d1, d2] => { results := [.lit (.bool false)], args := [d1, d2] }
  | _ => none }
def FnLuaModuloMatchesIntegerFloorModWrongFalsely : Prop := fnLuaModuloMatchesIntegerFloorModRow.holds Try.pinned (OpenSpec.ofChange fnLuaModuloMatchesIntegerFloorModWrong)

/-- 'n005_134.FnLuaModuloSignAndBound': WHATEVER THE INPUT: true; the input reads as it did. -/
def fnLuaModuloSignAndBoundSpec : ChangeSpec := { name := "fnLuaModuloSignAndBound", fn := fun _ => fun
  | [d1, d2] => { results := [.lit (.bool true)], args := [d1, d2] }
  | _ => none }
def fnLuaModuloSignAndBoundRow : OpenClaim := { program := "yteaopkanlnpiaaa", sum := "ff2395b7ee7113ba8759ff61ca9e5e877df751f90e15fa151bf0cccb069b30d5", func := "github.com/yuin/gopher-lua/n005_134.FnLuaModuloSignAndBound", spec := "fnLuaModuloSignAndBound", inPlace := ["math.Float64bits", "math.Float64frombits"], apart := false }
def FnLuaModuloSignAndBoundSaid : Prop := fnLuaModuloSignAndBoundRow.holds Try.pinned (OpenSpec.ofChange fnLuaModuloSignAndBoundSpec)

/-- ITS FALSE NEIGHBOUR: 'it returns false'. Refute it at one input. -/
def fnLuaModuloSignAndBoundWrong : ChangeSpec := { name := "fnLuaModuloSignAndBound", fn := fun _ => fun
  | [d1, d2] => { results := [.lit (.bool false)], args := [d1, d2] }
  | _ => none }
def FnLuaModuloSignAndBoundWrongFalsely : Prop := fnLuaModuloSignAndBoundRow.holds Try.pinned (OpenSpec.ofChange fnLuaModuloSignAndBoundWrong)

/- THE SECOND FORM. 'bulk': how many values and letters a reading holds, each counted each time it is reached (what is shared counts as often as it is met; a slice's spare places count too). A statement '..UptoSaid' is the law's where the arguments, and the package variables that the reading takes, are together of bulk at most 1048576: NARROWER than '..Said'. Prove '..Said' where nothing that the law and all that it calls make is longer than what came in: it says more and counts as full. Else prove '..UptoSaid'. A law counts once. -/
mutual
def uptoBulk {H : Type} : DataW H → Nat
  | .lit (.string bytes) => bytes.length + 1
  | .lit _ => 1
  | .nil => 1
  | .ptr d => uptoBulk d + 1
  | .slice elems spare => uptoBulkAll elems + uptoBulkAll spare + 1
  | .agg parts => uptoBulkAll parts + 1
  | .iface _ d => uptoBulk d + 1
  | .map entries => uptoBulkEntries entries + 1
  | .held _ => 1
def uptoBulkAll {H : Type} : List (DataW H) → Nat
  | [] => 0
  | d :: r => uptoBulk d + uptoBulkAll r
def uptoBulkEntries {H : Type} : List (Lit × DataW H) → Nat
  | [] => 0
  | x :: r => uptoBulkEntry x + uptoBulkEntries r
def uptoBulkEntry {H : Type} : Lit × DataW H → Nat
  | (.string bytes, d) => bytes.length + uptoBulk d + 1
  | (_, d) => uptoBulk d + 1
 end
def uptoSmall : (H : Type) → List (DataW H) → Bool := fun _ ds => decide (uptoBulkAll ds ≤ 1048576)
def OpenSpec.upto (s : _root_.Go.ChangeSpec) : _root_.Go.OpenSpec := { _root_.Go.OpenSpec.ofChange s with cond := some uptoSmall }

/-- 'n005_134.FnLuaModuloMatchesIntegerFloorMod', WHERE WHAT IT READS IS OF BULK AT MOST 1048576: true; the input reads as it did. -/
def fnLuaModuloMatchesIntegerFloorModUptoRow : OpenClaim := { program := "yteaopkanlnpiaaa", sum := "ff2395b7ee7113ba8759ff61ca9e5e877df751f90e15fa151bf0cccb069b30d5", func := "github.com/yuin/gopher-lua/n005_134.FnLuaModuloMatchesIntegerFloorMod", spec := "fnLuaModuloMatchesIntegerFloorMod", inPlace := ["math.Float64bits", "math.Float64frombits"], apart := false, narrowed := true }
def FnLuaModuloMatchesIntegerFloorModUptoSaid : Prop := fnLuaModuloMatchesIntegerFloorModUptoRow.holds Try.pinned (OpenSpec.upto fnLuaModuloMatchesIntegerFloorModSpec)

/-- 'n005_134.FnLuaModuloSignAndBound', WHERE WHAT IT READS IS OF BULK AT MOST 1048576: true; the input reads as it did. -/
def fnLuaModuloSignAndBoundUptoRow : OpenClaim := { program := "yteaopkanlnpiaaa", sum := "ff2395b7ee7113ba8759ff61ca9e5e877df751f90e15fa151bf0cccb069b30d5", func := "github.com/yuin/gopher-lua/n005_134.FnLuaModuloSignAndBound", spec := "fnLuaModuloSignAndBound", inPlace := ["math.Float64bits", "math.Float64frombits"], apart := false, narrowed := true }
def FnLuaModuloSignAndBoundUptoSaid : Prop := fnLuaModuloSignAndBoundUptoRow.holds Try.pinned (OpenSpec.upto fnLuaModuloSignAndBoundSpec)

end Rows
end Go.Proofs.Yteaopkanlnpiaaa
