/-
  No cell of these rows narrows 'for every input' (looked for: loops, veiled, ifaces, maps, wideKeys, modest, calm, conditions, laid).
  DERIVED. THE GIVEN ROWS OF THIS SEAT. 6 by the template 'for every input the law returns true; each argument reads behind the call as it read before'; 0 by the template 'total and deterministic' (their statements: YtkbbombebfjggaaTotals.lean).
  GIVEN WITH THE SEED: the statements are not yours to turn. If you find one false, say at which input.
  Laid BY PROGRAM, IN A SANDBOX (cutbox-rows.mjs): the forced cells as the released guide's own fill.sh prints them over the translation 0ff689c76eba2430… (all of the seat's roots in one cut). By AI agents, Wed Nov 11 2026. No macro, syntax, notation, axiom, sorry.
-/
import Derived.Test.YtkbbombebfjggaaChecked
import GoSem.Claim
import GoSem.ClaimJoined
import GoSem.ClaimMapViews
import Derived.JoinedTies
import Derived.KernelRfl
namespace Go.Proofs.Ytkbbombebfjggaa
/- THE CELL 'sum', in the pinned program and in every row, IS THE sha256 OF THE DUMP (.gsa) THAT YtkbbombebfjggaaProg.lean LOADS. Nothing in Lean hashes anything: it is a label: what it is worth is what the hold of that sum in a sandbox is worth. -/
noncomputable def Try.pinned : Pinned := { name := "ytkbbombebfjggaa", sum := "0ff689c76eba2430cd16e9329fb90a75701a5f91fff1cd095c4c9c718418174f", checked := Try.checked }
namespace Rows
def none {H : Type} : Left H := { results := [], args := [] }

/-- 'n005_144.FnIsStartedAgreesWithGetStack': WHATEVER THE INPUT: true; the input reads as it did. -/
def fnIsStartedAgreesWithGetStackSpec : ChangeSpec := { name := "fnIsStartedAgreesWithGetStack", fn := fun _ => fun
  | [d1, d2] => { results := [.lit (.bool true)], args := [d1, d2] }
  | _ => none }
def fnIsStartedAgreesWithGetStackRow : OpenClaim := { program := "ytkbbombebfjggaa", sum := "0ff689c76eba2430cd16e9329fb90a75701a5f91fff1cd095c4c9c718418174f", func := "github.com/yuin/gopher-lua/n005_144.FnIsStartedAgreesWithGetStack", spec := "fnIsStartedAgreesWithGetStack", unfollowed := true, recurses := true, apart := false }
def FnIsStartedAgreesWithGetStackSaid : Prop := fnIsStartedAgreesWithGetStackRow.holds Try.pinned (OpenSpec.ofChange fnIsStartedAgreesWithGetStackSpec)

/-- ITS FALSE NEIGHBOUR: 'it returns false'. Refute it at one input. -/
def fnIsStartedAgreesWithGetStackWrong : ChangeSpec := { name := "fnIsStartedAgreesWithGetStack", fn := fun _ => fun
  | [d1, d2] => { results := [.lit (.bool false)], args := [d1, d2] }
  | _ => none }
def FnIsStartedAgreesWithGetStackWrongFalsely : Prop := fnIsStartedAgreesWithGetStackRow.holds Try.pinned (OpenSpec.ofChange fnIsStartedAgreesWithGetStackWrong)

/-- 'n005_144.FnKillMarksDead': WHATEVER THE INPUT: true; the input reads as it did. -/
def fnKillMarksDeadSpec : ChangeSpec := { name := "fnKillMarksDead", fn := fun _ => fun
  | [d1, d2, d3, d4] => { results := [.lit (.bool true)], args := [d1, d2, d3, d4] }
  | _ => none }
def fnKillMarksDeadRow : OpenClaim := { program := "ytkbbombebfjggaa", sum := "0ff689c76eba2430cd16e9329fb90a75701a5f91fff1cd095c4c9c718418174f", func := "github.com/yuin/gopher-lua/n005_144.FnKillMarksDead", spec := "fnKillMarksDead", unfollowed := true, recurses := true, apart := false }
def FnKillMarksDeadSaid : Prop := fnKillMarksDeadRow.holds Try.pinned (OpenSpec.ofChange fnKillMarksDeadSpec)

/-- ITS FALSE NEIGHBOUR: 'it returns false'. Refute it at one input. -/
def fnKillMarksDeadWrong : ChangeSpec := { name := "fnKillMarksDead", fn := fun _ => fun
  | [d1, d2, d3, d4] => { results := [.lit (.bool false)], args := [d1, d2, d3, d4] }
  | _ => none }
def FnKillMarksDeadWrongFalsely : Prop := fnKillMarksDeadRow.holds Try.pinned (OpenSpec.ofChange fnKillMarksDeadWrong)

/-- 'n005_144.FnIsStartedIffFrame': WHATEVER THE INPUT: true; the input reads as it did. -/
def fnIsStartedIffFrameSpec : ChangeSpec := { name := "fnIsStartedIffFrame", fn := fun _ => fun
  | [d1, d2] => { results := [.lit (.bool true)], args := [d1, d2] }
  | _ => none }
def fnIsStartedIffFrameRow : OpenClaim := { program := "ytkbbombebfjggaa", sum := "0ff689c76eba2430cd16e9329fb90a75701a5f91fff1cd095c4c9c718418174f", func := "github.com/yuin/gopher-lua/n005_144.FnIsStartedIffFrame", spec := "fnIsStartedIffFrame", apart := false }
def FnIsStartedIffFrameSaid : Prop := fnIsStartedIffFrameRow.holds Try.pinned (OpenSpec.ofChange fnIsStartedIffFrameSpec)

/-- ITS FALSE NEIGHBOUR: 'it returns false'. Refute it at one input. -/
def fnIsStartedIffFrameWrong : ChangeSpec := { name := "fnIsStartedIffFrame", fn := fun _ => fun
  | [d1, d2] => { results := [.lit (.bool false)], args := [d1, d2] }
  | _ => none }
def FnIsStartedIffFrameWrongFalsely : Prop := fnIsStartedIffFrameRow.holds Try.pinned (OpenSpec.ofChange fnIsStartedIffFrameWrong)

/-- 'n005_144.FnKillKeepsStackView': WHATEVER THE INPUT: true; the input reads as it did. -/
def fnKillKeepsStackViewSpec : ChangeSpec := { name := "fnKillKeepsStackView", fn := fun _ => fun
  | [d1, d2, d3, d4] => { results := [.lit (.bool true)], args := [d1, d2, d3, d4] }
  | _ => none }
def fnKillKeepsStackViewRow : OpenClaim := { program := "ytkbbombebfjggaa", sum := "0ff689c76eba2430cd16e9329fb90a75701a5f91fff1cd095c4c9c718418174f", func := "github.com/yuin/gopher-lua/n005_144.FnKillKeepsStackView", spec := "fnKillKeepsStackView", unfollowed := true, recurses := true, apart := false }
def FnKillKeepsStackViewSaid : Prop := fnKillKeepsStackViewRow.holds Try.pinned (OpenSpec.ofChange fnKillKeepsStackViewSpec)

/-- ITS FALSE NEIGHBOUR: 'it returns false'. Refute it at one input. -/
def fnKillKeepsStackViewWrong : ChangeSpec := { name := "fnKillKeepsStackView", fn := fun _ => fun
  | [d1, d2, d3, d4] => { results := [.lit (.bool false)], args := [d1, d2, d3, d4] }
  | _ => none }
def FnKillKeepsStackViewWrongFalsely : Prop := fnKillKeepsStackViewRow.holds Try.pinned (OpenSpec.ofChange fnKillKeepsStackViewWrong)

/-- 'n005_144.FnIndexToRegNegativeMirrorsPositive': WHATEVER THE INPUT: true; the input reads as it did. -/
def fnIndexToRegNegativeMirrorsPositiveSpec : ChangeSpec := { name := "fnIndexToRegNegativeMirrorsPositive", fn := fun _ => fun
  | [d1, d2, d3, d4] => { results := [.lit (.bool true)], args := [d1, d2, d3, d4] }
  | _ => none }
def fnIndexToRegNegativeMirrorsPositiveRow : OpenClaim := { program := "ytkbbombebfjggaa", sum := "0ff689c76eba2430cd16e9329fb90a75701a5f91fff1cd095c4c9c718418174f", func := "github.com/yuin/gopher-lua/n005_144.FnIndexToRegNegativeMirrorsPositive", spec := "fnIndexToRegNegativeMirrorsPositive", apart := false }
def FnIndexToRegNegativeMirrorsPositiveSaid : Prop := fnIndexToRegNegativeMirrorsPositiveRow.holds Try.pinned (OpenSpec.ofChange fnIndexToRegNegativeMirrorsPositiveSpec)

/-- ITS FALSE NEIGHBOUR: 'it returns false'. Refute it at one input. -/
def fnIndexToRegNegativeMirrorsPositiveWrong : ChangeSpec := { name := "fnIndexToRegNegativeMirrorsPositive", fn := fun _ => fun
  | [d1, d2, d3, d4] => { results := [.lit (.bool false)], args := [d1, d2, d3, d4] }
  | _ => none }
def FnIndexToRegNegativeMirrorsPositiveWrongFalsely : Prop := fnIndexToRegNegativeMirrorsPositiveRow.holds Try.pinned (OpenSpec.ofChange fnIndexToRegNegativeMirrorsPositiveWrong)

/-- 'n005_144.FnIndexToRegTable': WHATEVER THE INPUT: true; the input reads as it did. -/
def fnIndexToRegTableSpec : ChangeSpec := { name := "fnIndexToRegTable", fn := fun _ => fun
  | [d1, d2, d3, d4] => { results := [.lit (.bool true)], args := [d1, d2, d3, d4] }
  | _ => none }
def fnIndexToRegTableRow : OpenClaim := { program := "ytkbbombebfjggaa", sum := "0ff689c76eba2430cd16e9329fb90a75701a5f91fff1cd095c4c9c718418174f", func := "github.com/yuin/gopher-lua/n005_144.FnIndexToRegTable", spec := "fnIndexToRegTable", apart := false }
def FnIndexToRegTableSaid : Prop := fnIndexToRegTableRow.holds Try.pinned (OpenSpec.ofChange fnIndexToRegTableSpec)

/-- ITS FALSE NEIGHBOUR: 'it returns false'. Refute it at one input. -/
def fnIndexToRegTableWrong : ChangeSpec := { name := "fnIndexToRegTable", fn := fun _ => fun
  | [d1, d2, d3, d4] => { results := [.lit (.bool false)], args := [d1, d2, d3, d4] }
  | _ => none }
def FnIndexToRegTableWrongFalsely : Prop := fnIndexToRegTableRow.holds Try.pinned (OpenSpec.ofChange fnIndexToRegTableWrong)

/- THE SECOND FORM. 'bulk': how many values and letters a reading holds, each counted each time it is reached (what is shared counts as often as it is met; a slice's spare places count too). A statement '..UptoSaid' is the law's where the arguments, and the package variables that the reading takes, are together of bulk at most 1048576: NARROWER than '..Said'. Prove '..Said' where nothing that the law and all that it calls make is longer than what came in: it says more and counts as full. Else prove '..UptoSaid'. A law counts once. -/
mutual
def uptoBulk {H : Type} : DataW H → Nat
  | .lit (.string bytes) => bytes.length + 1
  | .lit _ => 1
  | .nil => 1
  | .ptr d => uptoBulk d + 1
  | .slice elems spare => uptoBulkAll elems + uptoBulkAll spare + 1
  | .agg parts => uptoBulkAll parts + 1
  | .iface _ d => uptoBulk d + 1
  | .map entries => uptoBulkEntries entries + 1
  | .held _ => 1
def uptoBulkAll {H : Type} : List (DataW H) → Nat
  | [] => 0
  | d :: r => uptoBulk d + uptoBulkAll r
def uptoBulkEntries {H : Type} : List (Lit × DataW H) → Nat
  | [] => 0
  | x :: r => uptoBulkEntry x + uptoBulkEntries r
def uptoBulkEntry {H : Type} : Lit × DataW H → Nat
  | (.string bytes, d) => bytes.length + uptoBulk d + 1
  | (_, d) => uptoBulk d + 1
 end
def uptoSmall : (H : Type) → List (DataW H) → Bool := fun _ ds => decide (uptoBulkAll ds ≤ 1048576)
def OpenSpec.upto (s : _root_.Go.ChangeSpec) : _root_.Go.OpenSpec := { _root_.Go.OpenSpec.ofChange s with cond := some uptoSmall }

/-- 'n005_144.FnIsStartedAgreesWithGetStack', WHERE WHAT IT READS IS OF BULK AT MOST 1048576: true; the input reads as it did. -/
def fnIsStartedAgreesWithGetStackUptoRow : OpenClaim := { program := "ytkbbombebfjggaa", sum := "0ff689c76eba2430cd16e9329fb90a75701a5f91fff1cd095c4c9c718418174f", func := "github.com/yuin/gopher-lua/n005_144.FnIsStartedAgreesWithGetStack", spec := "fnIsStartedAgreesWithGetStack", unfollowed := true, recurses := true, apart := false, narrowed := true }
def FnIsStartedAgreesWithGetStackUptoSaid : Prop := fnIsStartedAgreesWithGetStackUptoRow.holds Try.pinned (OpenSpec.upto fnIsStartedAgreesWithGetStackSpec)

/-- 'n005_144.FnKillMarksDead', WHERE WHAT IT READS IS OF BULK AT MOST 1048576: true; the input reads as it did. -/
def fnKillMarksDeadUptoRow : OpenClaim := { program := "ytkbbombebfjggaa", sum := "0ff689c76eba2430cd16e9329fb90a75701a5f91fff1cd095c4c9c718418174f", func := "github.com/yuin/gopher-lua/n005_144.FnKillMarksDead", spec := "fnKillMarksDead", unfollowed := true, recurses := true, apart := false, narrowed := true }
def FnKillMarksDeadUptoSaid : Prop := fnKillMarksDeadUptoRow.holds Try.pinned (OpenSpec.upto fnKillMarksDeadSpec)

/-- 'n005_144.FnIsStartedIffFrame', WHERE WHAT IT READS IS OF BULK AT MOST 1048576: true; the input reads as it did. -/
def fnIsStartedIffFrameUptoRow : OpenClaim := { program := "ytkbbombebfjggaa", sum := "0ff689c76eba2430cd16e9329fb90a75701a5f91fff1cd095c4c9c718418174f", func := "github.com/yuin/gopher-lua/n005_144.FnIsStartedIffFrame", spec := "fnIsStartedIffFrame", apart := false, narrowed := true }
def FnIsStartedIffFrameUptoSaid : Prop := fnIsStartedIffFrameUptoRow.holds Try.pinned (OpenSpec.upto fnIsStartedIffFrameSpec)

/-- 'n005_144.FnKillKeepsStackView', WHERE WHAT IT READS IS OF BULK AT MOST 1048576: true; the input reads as it did. -/
def fnKillKeepsStackViewUptoRow : OpenClaim := { program := "ytkbbombebfjggaa", sum := "0ff689c76eba2430cd16e9329fb90a75701a5f91fff1cd095c4c9c718418174f", func := "github.com/yuin/gopher-lua/n005_144.FnKillKeepsStackView", spec := "fnKillKeepsStackView", unfollowed := true, recurses := true, apart := false, narrowed := true }
def FnKillKeepsStackViewUptoSaid : Prop := fnKillKeepsStackViewUptoRow.holds Try.pinned (OpenSpec.upto fnKillKeepsStackViewSpec)

/-- 'n005_144.FnIndexToRegNegativeMirrorsPositive', WHERE WHAT IT READS IS OF BULK AT MOST 1048576: true; the input reads as it did. -/
def fnIndexToRegNegativeMirrorsPositiveUptoRow : OpenClaim := { program := "ytkbbombebfjggaa", sum := "0ff689c76eba2430cd16e9329fb90a75701a5f91fff1cd095c4c9c718418174f", func := "github.com/yuin/gopher-lua/n005_144.FnIndexToRegNegativeMirrorsPositive", spec := "fnIndexToRegNegativeMirrorsPositive", apart := false, narrowed := true }
def FnIndexToRegNegativeMirrorsPositiveUptoSaid : Prop := fnIndexToRegNegativeMirrorsPositiveUptoRow.holds Try.pinned (OpenSpec.upto fnIndexToRegNegativeMirrorsPositiveSpec)

/-- 'n005_144.FnIndexToRegTable', WHERE WHAT IT READS IS OF BULK AT MOST 1048576: true; the input reads as it did. -/
def fnIndexToRegTableUptoRow : OpenClaim := { program := "ytkbbombebfjggaa", sum := "0ff689c76eba2430cd16e9329fb90a75701a5f91fff1cd095c4c9c718418174f", func := "github.com/yuin/gopher-lua/n005_144.FnIndexToRegTable", spec := "fnIndexToRegTable", apart := false, narrowed := true }
def FnIndexToRegTableUptoSaid : Prop := fnIndexToRegTableUptoRow.holds Try.pinned (OpenSpec.upto fnIndexToRegTableSpec)

end Rows
end Go.Proofs.Ytkbbombebfjggaa
