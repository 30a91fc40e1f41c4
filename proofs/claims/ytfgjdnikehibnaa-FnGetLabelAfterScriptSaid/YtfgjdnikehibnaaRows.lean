/-
  No cell of these rows narrows 'for every input' (looked for: loops, veiled, ifaces, maps, wideKeys, modest, calm, conditions, laid).
  DERIVED. THE GIVEN ROWS OF THIS SEAT. 5 by the template 'for every input the law returns true; each argument reads behind the call as it read before'; 0 by the template 'total and deterministic' (their statements: YtfgjdnikehibnaaTotals.lean).
  GIVEN WITH THE SEED: the statements are not yours to turn. If you find one false, say at which input.
  Laid BY PROGRAM, IN A SANDBOX (cutbox-rows.mjs): the forced cells as the released guide's own fill.sh prints them over the translation dcb4ff1bcbf24703… (all of the seat's roots in one cut). By AI agents, Wed Nov 11 2026. No macro, syntax, notation, axiom, sorry.
-/
import Derived.Test.YtfgjdnikehibnaaChecked
import GoSem.Claim
import GoSem.ClaimJoined
import GoSem.ClaimMapViews
import Derived.JoinedTies
import Derived.KernelRfl
namespace Go.Proofs.Ytfgjdnikehibnaa
/- THE CELL 'sum', in the pinned program and in every row, IS THE sha256 OF THE DUMP (.gsa) THAT YtfgjdnikehibnaaProg.lean LOADS. Nothing in Lean hashes anything: it is a label: what it is worth is what the hold of that sum in a sandbox is worth. -/
noncomputable def Try.pinned : Pinned := { name := "ytfgjdnikehibnaa", sum := "dcb4ff1bcbf24703f87ed67bbf926a61b49b2c3ca17f3d4bb4894d67c846185a", checked := Try.checked }
namespace Rows
def none {H : Type} : Left H := { results := [], args := [] }

/-- 'n005_154.FnRegisterConsecutiveIndices': WHATEVER THE INPUT: true; the input reads as it did. -/
def fnRegisterConsecutiveIndicesSpec : ChangeSpec := { name := "fnRegisterConsecutiveIndices", fn := fun _ => fun
  | [d1, d2] => { results := [.lit (.bool true)], args := [d1, d2] }
  | _ => none }
def fnRegisterConsecutiveIndicesRow : OpenClaim := { program := "ytfgjdnikehibnaa", sum := "dcb4ff1bcbf24703f87ed67bbf926a61b49b2c3ca17f3d4bb4894d67c846185a", func := "github.com/yuin/gopher-lua/n005_154.FnRegisterConsecutiveIndices", spec := "fnRegisterConsecutiveIndices", apart := false }
def FnRegisterConsecutiveIndicesSaid : Prop := fnRegisterConsecutiveIndicesRow.holds Try.pinned (OpenSpec.ofChange fnRegisterConsecutiveIndicesSpec)

/-- ITS FALSE NEIGHBOUR: 'it returns false'. Refute it at one input. -/
def fnRegisterConsecutiveIndicesWrong : ChangeSpec := { name := "fnRegisterConsecutiveIndices", fn := fun _ => fun
  | [d1, d2] => { results := [.lit (.bool false)], args := [d1, d2] }
  | _ => none }
def FnRegisterConsecutiveIndicesWrongFalsely : Prop := fnRegisterConsecutiveIndicesRow.holds Try.pinned (OpenSpec.ofChange fnRegisterConsecutiveIndicesWrong)

/-- 'n005_154.FnAddLabelReplayRefused': WHATEVER THE INPUT: true; the input reads as it did. -/
def fnAddLabelReplayRefusedSpec : ChangeSpec := { name := "fnAddLabelReplayRefused", fn := fun _ => fun
  | [d] => { results := [.lit (.bool true)], args := [d] }
  | _ => none }
def fnAddLabelReplayRefusedRow : OpenClaim := { program := "ytfgjdnikehibnaa", sum := "dcb4ff1bcbf24703f87ed67bbf926a61b49b2c3ca17f3d4bb4894d67c846185a", func := "github.com/yuin/gopher-lua/n005_154.FnAddLabelReplayRefused", spec := "fnAddLabelReplayRefused", unfollowed := true, recurses := true, apart := false }
def FnAddLabelReplayRefusedSaid : Prop := fnAddLabelReplayRefusedRow.holds Try.pinned (OpenSpec.ofChange fnAddLabelReplayRefusedSpec)

/-- ITS FALSE NEIGHBOUR: 'it returns false'. Refute it at one input. -/
def fnAddLabelReplayRefusedWrong : ChangeSpec := { name := "fnAddLabelReplayRefused", fn := fun _ => fun
  | [d] => { results := [.lit (.bool false)], args := [d] }
  | _ => none }
def FnAddLabelReplayRefusedWrongFalsely : Prop := fnAddLabelReplayRefusedRow.holds Try.pinned (OpenSpec.ofChange fnAddLabelReplayRefusedWrong)

/-- 'n005_154.FnAddLabelFirstWins': WHATEVER THE INPUT: true; the input reads as it did. -/
def fnAddLabelFirstWinsSpec : ChangeSpec := { name := "fnAddLabelFirstWins", fn := fun _ => fun
  | [d] => { results := [.lit (.bool true)], args := [d] }
  | _ => none }
def fnAddLabelFirstWinsRow : OpenClaim := { program := "ytfgjdnikehibnaa", sum := "dcb4ff1bcbf24703f87ed67bbf926a61b49b2c3ca17f3d4bb4894d67c846185a", func := "github.com/yuin/gopher-lua/n005_154.FnAddLabelFirstWins", spec := "fnAddLabelFirstWins", unfollowed := true, recurses := true, apart := false }
def FnAddLabelFirstWinsSaid : Prop := fnAddLabelFirstWinsRow.holds Try.pinned (OpenSpec.ofChange fnAddLabelFirstWinsSpec)

/-- ITS FALSE NEIGHBOUR: 'it returns false'. Refute it at one input. -/
def fnAddLabelFirstWinsWrong : ChangeSpec := { name := "fnAddLabelFirstWins", fn := fun _ => fun
  | [d] => { results := [.lit (.bool false)], args := [d] }
  | _ => none }
def FnAddLabelFirstWinsWrongFalsely : Prop := fnAddLabelFirstWinsRow.holds Try.pinned (OpenSpec.ofChange fnAddLabelFirstWinsWrong)

/-- 'n005_154.FnRegisterFindAndList': WHATEVER THE INPUT: true; the input reads as it did. -/
def fnRegisterFindAndListSpec : ChangeSpec := { name := "fnRegisterFindAndList", fn := fun _ => fun
  | [d1, d2] => { results := [.lit (.bool true)], args := [d1, d2] }
  | _ => none }
def fnRegisterFindAndListRow : OpenClaim := { program := "ytfgjdnikehibnaa", sum := "dcb4ff1bcbf24703f87ed67bbf926a61b49b2c3ca17f3d4bb4894d67c846185a", func := "github.com/yuin/gopher-lua/n005_154.FnRegisterFindAndList", spec := "fnRegisterFindAndList", apart := false }
def FnRegisterFindAndListSaid : Prop := fnRegisterFindAndListRow.holds Try.pinned (OpenSpec.ofChange fnRegisterFindAndListSpec)

/-- ITS FALSE NEIGHBOUR: 'it returns false'. Refute it at one input. -/
def fnRegisterFindAndListWrong : ChangeSpec := { name := "fnRegisterFindAndList", fn := fun _ => fun
  | [d1, d2] => { results := [.lit (.bool false)], args := [d1, d2] }
  | _ => none }
def FnRegisterFindAndListWrongFalsely : Prop := fnRegisterFindAndListRow.holds Try.pinned (OpenSpec.ofChange fnRegisterFindAndListWrong)

/-- 'n005_154.FnGetLabelAfterScript': WHATEVER THE INPUT: true; the input reads as it did. -/
def fnGetLabelAfterScriptSpec : ChangeSpec := { name := "fnGetLabelAfterScript", fn := fun _ => fun
  | [d1, d2] => { results := [.lit (.bool true)], args := [d1, d2] }
  | _ => none }
def fnGetLabelAfterScriptRow : OpenClaim := { program := "ytfgjdnikehibnaa", sum := "dcb4ff1bcbf24703f87ed67bbf926a61b49b2c3ca17f3d4bb4894d67c846185a", func := "github.com/yuin/gopher-lua/n005_154.FnGetLabelAfterScript", spec := "fnGetLabelAfterScript", unfollowed := true, recurses := true, apart := false }
def FnGetLabelAfterScriptSaid : Prop := fnGetLabelAfterScriptRow.holds Try.pinned (OpenSpec.ofChange fnGetLabelAfterScriptSpec)

/-- ITS FALSE NEIGHBOUR: 'it returns false'. Refute it at one input. -/
def fnGetLabelAfterScriptWrong : ChangeSpec := { name := "fnGetLabelAfterScript", fn := fun _ => fun
  | [d1, d2] => { results := [.lit (.bool false)], args := [d1, d2] }
  | _ => none }
def FnGetLabelAfterScriptWrongFalsely : Prop := fnGetLabelAfterScriptRow.holds Try.pinned (OpenSpec.ofChange fnGetLabelAfterScriptWrong)

/- THE SECOND FORM. 'bulk': how many values and letters a reading holds, each counted each time it is reached (what is shared counts as often as it is met; a slice's spare places count too). A statement '..UptoSaid' is the law's where the arguments, and the package variables that the reading takes, are together of bulk at most 1048576: NARROWER than '..Said'. Prove '..Said' where nothing that the law and all that it calls make is longer than what came in: it says more and counts as full. Else prove '..UptoSaid'. A law counts once. -/
mutual
def uptoBulk {H : Type} : DataW H → Nat
  | .lit (.string bytes) => bytes.length + 1
  | .lit _ => 1
  | .nil => 1
  | .ptr d => uptoBulk d + 1
  | .slice elems spare => uptoBulkAll elems + uptoBulkAll spare + 1
  | .agg parts => uptoBulkAll parts + 1
  | .iface _ d => uptoBulk d + 1
  | .map entries => uptoBulkEntries entries + 1
  | .held _ => 1
def uptoBulkAll {H : Type} : List (DataW H) → Nat
  | [] => 0
  | d :: r => uptoBulk d + uptoBulkAll r
def uptoBulkEntries {H : Type} : List (Lit × DataW H) → Nat
  | [] => 0
  | x :: r => uptoBulkEntry x + uptoBulkEntries r
def uptoBulkEntry {H : Type} : Lit × DataW H → Nat
  | (.string bytes, d) => bytes.length + uptoBulk d + 1
  | (_, d) => uptoBulk d + 1
 end
def uptoSmall : (H : Type) → List (DataW H) → Bool := fun _ ds => decide (uptoBulkAll ds ≤ 1048576)
def OpenSpec.upto (s : _root_.Go.ChangeSpec) : _root_.Go.OpenSpec := { _root_.Go.OpenSpec.ofChange s with cond := some uptoSmall }

/-- 'n005_154.FnRegisterConsecutiveIndices', WHERE WHAT IT READS IS OF BULK AT MOST 1048576: true; the input reads as it did. -/
def fnRegisterConsecutiveIndicesUptoRow : OpenClaim := { program := "ytfgjdnikehibnaa", sum := "dcb4ff1bcbf24703f87ed67bbf926a61b49b2c3ca17f3d4bb4894d67c846185a", func := "github.com/yuin/gopher-lua/n005_154.FnRegisterConsecutiveIndices", spec := "fnRegisterConsecutiveIndices", apart := false, narrowed := true }
def FnRegisterConsecutiveIndicesUptoSaid : Prop := fnRegisterConsecutiveIndicesUptoRow.holds Try.pinned (OpenSpec.upto fnRegisterConsecutiveIndicesSpec)

/-- 'n005_154.FnAddLabelReplayRefused', WHERE WHAT IT READS IS OF BULK AT MOST 1048576: true; the input reads as it did. -/
def fnAddLabelReplayRefusedUptoRow : OpenClaim := { program := "ytfgjdnikehibnaa", sum := "dcb4ff1bcbf24703f87ed67bbf926a61b49b2c3ca17f3d4bb4894d67c846185a", func := "github.com/yuin/gopher-lua/n005_154.FnAddLabelReplayRefused", spec := "fnAddLabelReplayRefused", unfollowed := true, recurses := true, apart := false, narrowed := true }
def FnAddLabelReplayRefusedUptoSaid : Prop := fnAddLabelReplayRefusedUptoRow.holds Try.pinned (OpenSpec.upto fnAddLabelReplayRefusedSpec)

/-- 'n005_154.FnAddLabelFirstWins', WHERE WHAT IT READS IS OF BULK AT MOST 1048576: true; the input reads as it did. -/
def fnAddLabelFirstWinsUptoRow : OpenClaim := { program := "ytfgjdnikehibnaa", sum := "dcb4ff1bcbf24703f87ed67bbf926a61b49b2c3ca17f3d4bb4894d67c846185a", func := "github.com/yuin/gopher-lua/n005_154.FnAddLabelFirstWins", spec := "fnAddLabelFirstWins", unfollowed := true, recurses := true, apart := false, narrowed := true }
def FnAddLabelFirstWinsUptoSaid : Prop := fnAddLabelFirstWinsUptoRow.holds Try.pinned (OpenSpec.upto fnAddLabelFirstWinsSpec)

/-- 'n005_154.FnRegisterFindAndList', WHERE WHAT IT READS IS OF BULK AT MOST 1048576: true; the input reads as it did. -/
def fnRegisterFindAndListUptoRow : OpenClaim := { program := "ytfgjdnikehibnaa", sum := "dcb4ff1bcbf24703f87ed67bbf926a61b49b2c3ca17f3d4bb4894d67c846185a", func := "github.com/yuin/gopher-lua/n005_154.FnRegisterFindAndList", spec := "fnRegisterFindAndList", apart := false, narrowed := true }
def FnRegisterFindAndListUptoSaid : Prop := fnRegisterFindAndListUptoRow.holds Try.pinned (OpenSpec.upto fnRegisterFindAndListSpec)

/-- 'n005_154.FnGetLabelAfterScript', WHERE WHAT IT READS IS OF BULK AT MOST 1048576: true; the input reads as it did. -/
def fnGetLabelAfterScriptUptoRow : OpenClaim := { program := "ytfgjdnikehibnaa", sum := "dcb4ff1bcbf24703f87ed67bbf926a61b49b2c3ca17f3d4bb4894d67c846185a", func := "github.com/yuin/gopher-lua/n005_154.FnGetLabelAfterScript", spec := "fnGetLabelAfterScript", unfollowed := true, recurses := true, apart := false, narrowed := true }
def FnGetLabelAfterScriptUptoSaid : Prop := fnGetLabelAfterScriptUptoRow.holds Try.pinned (OpenSpec.upto fnGetLabelAfterScriptSpec)

end Rows
end Go.Proofs.Ytfgjdnikehibnaa
