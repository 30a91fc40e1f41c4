/-
  No cell of these rows narrows 'for every input' (looked for: loops, veiled, ifaces, maps, wideKeys, modest, calm, conditions, laid).
  DERIVED. THE GIVEN ROWS OF THIS SEAT. 2 by the template 'for every input the law returns true; each argument reads behind the call as it read before'; 0 by the template 'total and deterministic' (their statements: YtabienikffakiaaFmtTotals.lean).
  GIVEN WITH THE SEED: the statements are not yours to turn. If you find one false, say at which input.
  Laid BY PROGRAM, IN A SANDBOX (cutbox-rows.mjs): the forced cells as the released guide's own fill.sh prints them over the translation a6b620ca734db987… (all of the seat's roots in one cut). By AI agents, Wed Nov 11 2026. No macro, syntax, notation, axiom, sorry.
-/
import Derived.Test.YtabienikffakiaaFmtChecked
import GoSem.Claim
import GoSem.ClaimJoined
import GoSem.ClaimMapViews
import Derived.JoinedTies
import Derived.KernelRfl
namespace Go.Proofs.YtabienikffakiaaFmt
/- THE CELL 'sum', in the pinned program and in every row, IS THE sha256 OF THE DUMP (.gsa) THAT YtabienikffakiaaFmtProg.lean LOADS. Nothing in Lean hashes anything: it is a label: what it is worth is what the hold of that sum in a sandbox is worth. -/
noncomputable def Tryf.pinned : Pinned := { name := "ytabienikffakiaafmt", sum := "a6b620ca734db987ee56d5b5555dad51212e8267cccd6e3ce7238f787149ff69", checked := Tryf.checked }
namespace Rows
def none {H : Type} : Left H := { results := [], args := [] }

/-- 'n005_135.FnBreakJumpsToInnermostLoop': WHATEVER THE INPUT: true; the input reads as it did. -/
def fnBreakJumpsToInnermostLoopSpec : ChangeSpec := { name := "fnBreakJumpsToInnermostLoop", fn := fun _ => fun
  | [d1, d2, d3, d4, d5] => { results := [.lit (.bool true)], args := [d1, d2, d3, d4, d5] }
  | _ => none }
def fnBreakJumpsToInnermostLoopRow : OpenClaim := { program := "ytabienikffakiaafmt", sum := "a6b620ca734db987ee56d5b5555dad51212e8267cccd6e3ce7238f787149ff69", func := "github.com/yuin/gopher-lua/n005_135.FnBreakJumpsToInnermostLoop", spec := "fnBreakJumpsToInnermostLoop", stops := ["fmt.Sprintf, its operands' methods called"], inPlace := ["fmt.Sprintf"], unfollowed := true, recurses := true, apart := false }
/-- NO THEOREM (fmt's text is open here; it may be false): for the released tool's asking of the row's closed facts alone. THE STATEMENT IS 'FnBreakJumpsToInnermostLoopToldSaid' (YtabienikffakiaaFmtCards.lean). -/
def FnBreakJumpsToInnermostLoopFormAsk : Prop := fnBreakJumpsToInnermostLoopRow.holds Tryf.pinned (OpenSpec.ofChange fnBreakJumpsToInnermostLoopSpec)

/-- ITS FALSE NEIGHBOUR: 'it returns false'. Refute it at one input. -/
def fnBreakJumpsToInnermostLoopWrong : ChangeSpec := { name := "fnBreakJumpsToInnermostLoop", fn := fun _ => fun
  | [d1, d2, d3, d4, d5] => { results := [.lit (.bool false)], args := [d1, d2, d3, d4, d5] }
  | _ => none }
def FnBreakJumpsToInnermostLoopWrongFormAsk : Prop := fnBreakJumpsToInnermostLoopRow.holds Tryf.pinned (OpenSpec.ofChange fnBreakJumpsToInnermostLoopWrong)

/-- 'n005_135.FnBreakTwiceSame': WHATEVER THE INPUT: true; the input reads as it did. -/
def fnBreakTwiceSameSpec : ChangeSpec := { name := "fnBreakTwiceSame", fn := fun _ => fun
  | [d1, d2, d3, d4, d5] => { results := [.lit (.bool true)], args := [d1, d2, d3, d4, d5] }
  | _ => none }
def fnBreakTwiceSameRow : OpenClaim := { program := "ytabienikffakiaafmt", sum := "a6b620ca734db987ee56d5b5555dad51212e8267cccd6e3ce7238f787149ff69", func := "github.com/yuin/gopher-lua/n005_135.FnBreakTwiceSame", spec := "fnBreakTwiceSame", stops := ["fmt.Sprintf, its operands' methods called"], inPlace := ["fmt.Sprintf"], unfollowed := true, recurses := true, apart := false }
/-- NO THEOREM (fmt's text is open here; it may be false): for the released tool's asking of the row's closed facts alone. THE STATEMENT IS 'FnBreakTwiceSameToldSaid' (YtabienikffakiaaFmtCards.lean). -/
def FnBreakTwiceSameFormAsk : Prop := fnBreakTwiceSameRow.holds Tryf.pinned (OpenSpec.ofChange fnBreakTwiceSameSpec)

/-- ITS FALSE NEIGHBOUR: 'it returns false'. Refute it at one input. -/
def fnBreakTwiceSameWrong : ChangeSpec := { name := "fnBreakTwiceSame", fn := fun _ => fun
  | [d1, d2, d3, d4, d5] => { results := [.lit (.bool false)], args := [d1, d2, d3, d4, d5] }
  | _ => none }
def FnBreakTwiceSameWrongFormAsk : Prop := fnBreakTwiceSameRow.holds Tryf.pinned (OpenSpec.ofChange fnBreakTwiceSameWrong)

end Rows
end Go.Proofs.YtabienikffakiaaFmt
