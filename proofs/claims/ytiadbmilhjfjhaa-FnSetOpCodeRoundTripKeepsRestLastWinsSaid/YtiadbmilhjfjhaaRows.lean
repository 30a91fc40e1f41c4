/-
  No cell of these rows narrows 'for every input' (looked for: loops, veiled, ifaces, maps, wideKeys, modest, calm, conditions, laid).
  DERIVED. THE GIVEN ROWS OF THIS SEAT. 3 by the template 'for every input the law returns true; each argument reads behind the call as it read before'; 0 by the template 'total and deterministic' (their statements: YtiadbmilhjfjhaaTotals.lean).
  GIVEN WITH THE SEED: the statements are not yours to turn. If you find one false, say at which input.
  Laid BY PROGRAM, IN A SANDBOX (cutbox-rows.mjs): the forced cells as the released guide's own fill.sh prints them over the translation 62cc3b1325a7357c… (all of the seat's roots in one cut). By AI agents, Wed Nov 11 2026. No macro, syntax, notation, axiom, sorry.
-/
import Derived.Test.YtiadbmilhjfjhaaChecked
import GoSem.Claim
import GoSem.ClaimJoined
import GoSem.ClaimMapViews
import Derived.JoinedTies
import Derived.KernelRfl
namespace Go.Proofs.Ytiadbmilhjfjhaa
/- THE CELL 'sum', in the pinned program and in every row, IS THE sha256 OF THE DUMP (.gsa) THAT YtiadbmilhjfjhaaProg.lean LOADS. Nothing in Lean hashes anything: it is a label: what it is worth is what the hold of that sum in a sandbox is worth. -/
noncomputable def Try.pinned : Pinned := { name := "ytiadbmilhjfjhaa", sum := "62cc3b1325a7357c88b2578fffc26edcb329a88c728d69a2dc9aafd8b43396be", checked := Try.checked }
namespace Rows
def none {H : Type} : Left H := { results := [], args := [] }

/-- 'n005_126.FnGetOpCodeMonotone': WHATEVER THE INPUT: true; the input reads as it did. -/
def fnGetOpCodeMonotoneSpec : ChangeSpec := { name := "fnGetOpCodeMonotone", fn := fun _ => fun
  | [d1, d2] => { results := [.lit (.bool true)], args := [d1, d2] }
  | _ => none }
def fnGetOpCodeMonotoneRow : OpenClaim := { program := "ytiadbmilhjfjhaa", sum := "62cc3b1325a7357c88b2578fffc26edcb329a88c728d69a2dc9aafd8b43396be", func := "github.com/yuin/gopher-lua/n005_126.FnGetOpCodeMonotone", spec := "fnGetOpCodeMonotone", apart := false }
def FnGetOpCodeMonotoneSaid : Prop := fnGetOpCodeMonotoneRow.holds Try.pinned (OpenSpec.ofChange fnGetOpCodeMonotoneSpec)

/-- ITS FALSE NEIGHBOUR: 'it returns false'. Refute it at one input. -/
def fnGetOpCodeMonotoneWrong : ChangeSpec := { name := "fnGetOpCodeMonotone", fn := fun _ => fun
  | [d1, d2] => { results := [.lit (.bool false)], args := [d1, d2] }
  | _ => none }
def FnGetOpCodeMonotoneWrongFalsely : Prop := fnGetOpCodeMonotoneRow.holds Try.pinned (OpenSpec.ofChange fnGetOpCodeMonotoneWrong)

/-- 'n005_126.FnSetOpCodeRoundTripKeepsRestLastWins': WHATEVER THE INPUT: true; the input reads as it did. -/
def fnSetOpCodeRoundTripKeepsRestLastWinsSpec : ChangeSpec := { name := "fnSetOpCodeRoundTripKeepsRestLastWins", fn := fun _ => fun
  | [d1, d2, d3] => { results := [.lit (.bool true)], args := [d1, d2, d3] }
  | _ => none }
def fnSetOpCodeRoundTripKeepsRestLastWinsRow : OpenClaim := { program := "ytiadbmilhjfjhaa", sum := "62cc3b1325a7357c88b2578fffc26edcb329a88c728d69a2dc9aafd8b43396be", func := "github.com/yuin/gopher-lua/n005_126.FnSetOpCodeRoundTripKeepsRestLastWins", spec := "fnSetOpCodeRoundTripKeepsRestLastWins", apart := false }
def FnSetOpCodeRoundTripKeepsRestLastWinsSaid : Prop := fnSetOpCodeRoundTripKeepsRestLastWinsRow.holds Try.pinned (OpenSpec.ofChange fnSetOpCodeRoundTripKeepsRestLastWinsSpec)

/-- ITS FALSE NEIGHBOUR: 'it returns false'. Refute it at one input. -/
def fnSetOpCodeRoundTripKeepsRestLastWinsWrong : ChangeSpec := { name := "fnSetOpCodeRoundTripKeepsRestLastWins", fn := fun _ => fun
  | [d1, d2, d3] => { results := [.lit (.bool false)], args := [d1, d2, d3] }
  | _ => none }
def FnSetOpCodeRoundTripKeepsRestLastWinsWrongFalsely : Prop := fnSetOpCodeRoundTripKeepsRestLastWinsRow.holds Try.pinned (OpenSpec.ofChange fnSetOpCodeRoundTripKeepsRestLastWinsWrong)

/-- 'n005_126.FnSetArgARoundTripKeepsRestCommutes': WHATEVER THE INPUT: true; the input reads as it did. -/
def fnSetArgARoundTripKeepsRestCommutesSpec : ChangeSpec := { name := "fnSetArgARoundTripKeepsRestCommutes", fn := fun _ => fun
  | [d1, d2, d3, d4] => { results := [.lit (.bool true)], args := [d1, d2, d3, d4] }
  | _ => none }
def fnSetArgARoundTripKeepsRestCommutesRow : OpenClaim := { program := "ytiadbmilhjfjhaa", sum := "62cc3b1325a7357c88b2578fffc26edcb329a88c728d69a2dc9aafd8b43396be", func := "github.com/yuin/gopher-lua/n005_126.FnSetArgARoundTripKeepsRestCommutes", spec := "fnSetArgARoundTripKeepsRestCommutes", apart := false }
def FnSetArgARoundTripKeepsRestCommutesSaid : Prop := fnSetArgARoundTripKeepsRestCommutesRow.holds Try.pinned (OpenSpec.ofChange fnSetArgARoundTripKeepsRestCommutesSpec)

/-- ITS FALSE NEIGHBOUR: 'it returns false'. Refute it at one input. -/
def fnSetArgARoundTripKeepsRestCommutesWrong : ChangeSpec := { name := "fnSetArgARoundTripKeepsRestCommutes", fn := fun _ => fun
  | [d1, d2, d3, d4] => { results := [.lit (.bool false)], args := [d1, d2, d3, d4] }
  | _ => none }
def FnSetArgARoundTripKeepsRestCommutesWrongFalsely : Prop := fnSetArgARoundTripKeepsRestCommutesRow.holds Try.pinned (OpenSpec.ofChange fnSetArgARoundTripKeepsRestCommutesWrong)

/- THE SECOND FORM. 'bulk': how many values and letters a reading holds, each counted each time it is reached (what is shared counts as often as it is met; a slice's spare places count too). A statement '..UptoSaid' is the law's where the arguments, and the package variables that the reading takes, are together of bulk at most 1048576: NARROWER than '..Said'. Prove '..Said' where nothing that the law and all that it calls make is longer than what came in: it says more and counts as full. Else prove '..UptoSaid'. A law counts once. -/
mutual
def uptoBulk {H : Type} : DataW H → Nat
  | .lit (.string bytes) => bytes.length + 1
  | .lit _ => 1
  | .nil => 1
  | .ptr d => uptoBulk d + 1
  | .slice elems spare => uptoBulkAll elems + uptoBulkAll spare + 1
  | .agg parts => uptoBulkAll parts + 1
  | .iface _ d => uptoBulk d + 1
  | .map entries => uptoBulkEntries entries + 1
  | .held _ => 1
def uptoBulkAll {H : Type} : List (DataW H) → Nat
  | [] => 0
  | d :: r => uptoBulk d + uptoBulkAll r
def uptoBulkEntries {H : Type} : List (Lit × DataW H) → Nat
  | [] => 0
  | x :: r => uptoBulkEntry x + uptoBulkEntries r
def uptoBulkEntry {H : Type} : Lit × DataW H → Nat
  | (.string bytes, d) => bytes.length + uptoBulk d + 1
  | (_, d) => uptoBulk d + 1
 end
def uptoSmall : (H : Type) → List (DataW H) → Bool := fun _ ds => decide (uptoBulkAll ds ≤ 1048576)
def OpenSpec.upto (s : _root_.Go.ChangeSpec) : _root_.Go.OpenSpec := { _root_.Go.OpenSpec.ofChange s with cond := some uptoSmall }

/-- 'n005_126.FnGetOpCodeMonotone', WHERE WHAT IT READS IS OF BULK AT MOST 1048576: true; the input reads as it did. -/
def fnGetOpCodeMonotoneUptoRow : OpenClaim := { program := "ytiadbmilhjfjhaa", sum := "62cc3b1325a7357c88b2578fffc26edcb329a88c728d69a2dc9aafd8b43396be", func := "github.com/yuin/gopher-lua/n005_126.FnGetOpCodeMonotone", spec := "fnGetOpCodeMonotone", apart := false, narrowed := true }
def FnGetOpCodeMonotoneUptoSaid : Prop := fnGetOpCodeMonotoneUptoRow.holds Try.pinned (OpenSpec.upto fnGetOpCodeMonotoneSpec)

/-- 'n005_126.FnSetOpCodeRoundTripKeepsRestLastWins', WHERE WHAT IT READS IS OF BULK AT MOST 1048576: true; the input reads as it did. -/
def fnSetOpCodeRoundTripKeepsRestLastWinsUptoRow : OpenClaim := { program := "ytiadbmilhjfjhaa", sum := "62cc3b1325a7357c88b2578fffc26edcb329a88c728d69a2dc9aafd8b43396be", func := "github.com/yuin/gopher-lua/n005_126.FnSetOpCodeRoundTripKeepsRestLastWins", spec := "fnSetOpCodeRoundTripKeepsRestLastWins", apart := false, narrowed := true }
def FnSetOpCodeRoundTripKeepsRestLastWinsUptoSaid : Prop := fnSetOpCodeRoundTripKeepsRestLastWinsUptoRow.holds Try.pinned (OpenSpec.upto fnSetOpCodeRoundTripKeepsRestLastWinsSpec)

/-- 'n005_126.FnSetArgARoundTripKeepsRestCommutes', WHERE WHAT IT READS IS OF BULK AT MOST 1048576: true; the input reads as it did. -/
def fnSetArgARoundTripKeepsRestCommutesUptoRow : OpenClaim := { program := "ytiadbmilhjfjhaa", sum := "62cc3b1325a7357c88b2578fffc26edcb329a88c728d69a2dc9aafd8b43396be", func := "github.com/yuin/gopher-lua/n005_126.FnSetArgARoundTripKeepsRestCommutes", spec := "fnSetArgARoundTripKeepsRestCommutes", apart := false, narrowed := true }
def FnSetArgARoundTripKeepsRestCommutesUptoSaid : Prop := fnSetArgARoundTripKeepsRestCommutesUptoRow.holds Try.pinned (OpenSpec.upto fnSetArgARoundTripKeepsRestCommutesSpec)

end Rows
end Go.Proofs.Ytiadbmilhjfjhaa
