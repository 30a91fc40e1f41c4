/-
  No cell of these rows narrows 'for every input' (looked for: loops, veiled, ifaces, maps, wideKeys, modest, calm, conditions, laid).
  DERIVED. THE GIVEN ROWS OF THIS SEAT. 5 by the template 'for every input the law returns true; each argument reads behind the call as it read before'; 0 by the template 'total and deterministic' (their statements: YtieiaojabkpkfaaFmtTotals.lean).
  GIVEN WITH THE SEED: the statements are not yours to turn. If you find one false, say at which input.
  Laid BY PROGRAM, IN A SANDBOX (cutbox-rows.mjs): the forced cells as the released guide's own fill.sh prints them over the translation a51ae0f67047ae38… (all of the seat's roots in one cut). By AI agents, Wed Nov 11 2026. No macro, syntax, notation, axiom, sorry.
-/
import Derived.Test.YtieiaojabkpkfaaFmtChecked
import GoSem.Claim
import GoSem.ClaimJoined
import GoSem.ClaimMapViews
import Derived.JoinedTies
import Derived.KernelRfl
namespace Go.Proofs.YtieiaojabkpkfaaFmt
/- THE CELL 'sum', in the pinned program and in every row, IS THE sha256 OF THE DUMP (.gsa) THAT YtieiaojabkpkfaaFmtProg.lean LOADS. Nothing in Lean hashes anything: it is a label: what it is worth is what the hold of that sum in a sandbox is worth. -/
noncomputable def Tryf.pinned : Pinned := { name := "ytieiaojabkpkfaafmt", sum := "a51ae0f67047ae384ae2f1e2c480930d11071e441c0bea88285f9d8dd6313b9f", checked := Tryf.checked }
namespace Rows
def none {H : Type} : Left H := { results := [], args := [] }

/-- 'n005_128.FnPatchCodeMoveRuns': WHATEVER THE INPUT: true; the input reads as it did. -/
def fnPatchCodeMoveRunsSpec : ChangeSpec := { name := "fnPatchCodeMoveRuns", fn := fun _ => fun
  | [d1, d2] => { results := [.lit (.bool true)], args := [d1, d2] }
  | _ => none }
def fnPatchCodeMoveRunsRow : OpenClaim := { program := "ytieiaojabkpkfaafmt", sum := "a51ae0f67047ae384ae2f1e2c480930d11071e441c0bea88285f9d8dd6313b9f", func := "github.com/yuin/gopher-lua/n005_128.FnPatchCodeMoveRuns", spec := "fnPatchCodeMoveRuns", stops := ["fmt.Sprintf, its operands' methods called"], inPlace := ["fmt.Sprintf"], unfollowed := true, recurses := true, apart := false }
/-- NO THEOREM (fmt's text is open here; it may be false): for the released tool's asking of the row's closed facts alone. THE STATEMENT IS 'FnPatchCodeMoveRunsToldSaid' (YtieiaojabkpkfaaFmtCards.lean). -/
def FnPatchCodeMoveRunsFormAsk : Prop := fnPatchCodeMoveRunsRow.holds Tryf.pinned (OpenSpec.ofChange fnPatchCodeMoveRunsSpec)

/-- ITS FALSE NEIGHBOUR: 'it returns false'. Refute it at one input. -/
def fnPatchCodeMoveRunsWrong : ChangeSpec := { name := "fnPatchCodeMoveRuns", fn := fun _ => fun
  | [d1, d2] => { results := [.lit (.bool false)], args := [d1, d2] }
  | _ => none }
def FnPatchCodeMoveRunsWrongFormAsk : Prop := fnPatchCodeMoveRunsRow.holds Tryf.pinned (OpenSpec.ofChange fnPatchCodeMoveRunsWrong)

/-- 'n005_128.FnIdentRefTypeAskerOnlyLocalises': WHATEVER THE INPUT: true; the input reads as it did. -/
def fnIdentRefTypeAskerOnlyLocalisesSpec : ChangeSpec := { name := "fnIdentRefTypeAskerOnlyLocalises", fn := fun _ => fun
  | [d1, d2, d3] => { results := [.lit (.bool true)], args := [d1, d2, d3] }
  | _ => none }
def fnIdentRefTypeAskerOnlyLocalisesRow : OpenClaim := { program := "ytieiaojabkpkfaafmt", sum := "a51ae0f67047ae384ae2f1e2c480930d11071e441c0bea88285f9d8dd6313b9f", func := "github.com/yuin/gopher-lua/n005_128.FnIdentRefTypeAskerOnlyLocalises", spec := "fnIdentRefTypeAskerOnlyLocalises", stops := ["fmt.Sprintf, its operands' methods called"], inPlace := ["fmt.Sprintf"], unfollowed := true, recurses := true, apart := false }
/-- NO THEOREM (fmt's text is open here; it may be false): for the released tool's asking of the row's closed facts alone. THE STATEMENT IS 'FnIdentRefTypeAskerOnlyLocalisesToldSaid' (YtieiaojabkpkfaaFmtCards.lean). -/
def FnIdentRefTypeAskerOnlyLocalisesFormAsk : Prop := fnIdentRefTypeAskerOnlyLocalisesRow.holds Tryf.pinned (OpenSpec.ofChange fnIdentRefTypeAskerOnlyLocalisesSpec)

/-- ITS FALSE NEIGHBOUR: 'it returns false'. Refute it at one input. -/
def fnIdentRefTypeAskerOnlyLocalisesWrong : ChangeSpec := { name := "fnIdentRefTypeAskerOnlyLocalises", fn := fun _ => fun
  | [d1, d2, d3] => { results := [.lit (.bool false)], args := [d1, d2, d3] }
  | _ => none }
def FnIdentRefTypeAskerOnlyLocalisesWrongFormAsk : Prop := fnIdentRefTypeAskerOnlyLocalisesRow.holds Tryf.pinned (OpenSpec.ofChange fnIdentRefTypeAskerOnlyLocalisesWrong)

/-- 'n005_128.FnPatchCodeCountSplitsAsMax': WHATEVER THE INPUT: true; the input reads as it did. -/
def fnPatchCodeCountSplitsAsMaxSpec : ChangeSpec := { name := "fnPatchCodeCountSplitsAsMax", fn := fun _ => fun
  | [d1, d2, d3] => { results := [.lit (.bool true)], args := [d1, d2, d3] }
  | _ => none }
def fnPatchCodeCountSplitsAsMaxRow : OpenClaim := { program := "ytieiaojabkpkfaafmt", sum := "a51ae0f67047ae384ae2f1e2c480930d11071e441c0bea88285f9d8dd6313b9f", func := "github.com/yuin/gopher-lua/n005_128.FnPatchCodeCountSplitsAsMax", spec := "fnPatchCodeCountSplitsAsMax", stops := ["fmt.Sprintf, its operands' methods called"], inPlace := ["fmt.Sprintf"], unfollowed := true, recurses := true, apart := false }
/-- NO THEOREM (fmt's text is open here; it may be false): for the released tool's asking of the row's closed facts alone. THE STATEMENT IS 'FnPatchCodeCountSplitsAsMaxToldSaid' (YtieiaojabkpkfaaFmtCards.lean). -/
def FnPatchCodeCountSplitsAsMaxFormAsk : Prop := fnPatchCodeCountSplitsAsMaxRow.holds Tryf.pinned (OpenSpec.ofChange fnPatchCodeCountSplitsAsMaxSpec)

/-- ITS FALSE NEIGHBOUR: 'it returns false'. Refute it at one input. -/
def fnPatchCodeCountSplitsAsMaxWrong : ChangeSpec := { name := "fnPatchCodeCountSplitsAsMax", fn := fun _ => fun
  | [d1, d2, d3] => { results := [.lit (.bool false)], args := [d1, d2, d3] }
  | _ => none }
def FnPatchCodeCountSplitsAsMaxWrongFormAsk : Prop := fnPatchCodeCountSplitsAsMaxRow.holds Tryf.pinned (OpenSpec.ofChange fnPatchCodeCountSplitsAsMaxWrong)

/-- 'n005_128.FnIdentRefTypeByScope': WHATEVER THE INPUT: true; the input reads as it did. -/
def fnIdentRefTypeByScopeSpec : ChangeSpec := { name := "fnIdentRefTypeByScope", fn := fun _ => fun
  | [d1, d2, d3, d4] => { results := [.lit (.bool true)], args := [d1, d2, d3, d4] }
  | _ => none }
def fnIdentRefTypeByScopeRow : OpenClaim := { program := "ytieiaojabkpkfaafmt", sum := "a51ae0f67047ae384ae2f1e2c480930d11071e441c0bea88285f9d8dd6313b9f", func := "github.com/yuin/gopher-lua/n005_128.FnIdentRefTypeByScope", spec := "fnIdentRefTypeByScope", stops := ["fmt.Sprintf, its operands' methods called"], inPlace := ["fmt.Sprintf"], unfollowed := true, recurses := true, apart := false }
/-- NO THEOREM (fmt's text is open here; it may be false): for the released tool's asking of the row's closed facts alone. THE STATEMENT IS 'FnIdentRefTypeByScopeToldSaid' (YtieiaojabkpkfaaFmtCards.lean). -/
def FnIdentRefTypeByScopeFormAsk : Prop := fnIdentRefTypeByScopeRow.holds Tryf.pinned (OpenSpec.ofChange fnIdentRefTypeByScopeSpec)

/-- ITS FALSE NEIGHBOUR: 'it returns false'. Refute it at one input. -/
def fnIdentRefTypeByScopeWrong : ChangeSpec := { name := "fnIdentRefTypeByScope", fn := fun _ => fun
  | [d1, d2, d3, d4] => { results := [.lit (.bool false)], args := [d1, d2, d3, d4] }
  | _ => none }
def FnIdentRefTypeByScopeWrongFormAsk : Prop := fnIdentRefTypeByScopeRow.holds Tryf.pinned (OpenSpec.ofChange fnIdentRefTypeByScopeWrong)

/-- 'n005_128.FnPatchCodeFrameCoversWrites': WHATEVER THE INPUT: true; the input reads as it did. -/
def fnPatchCodeFrameCoversWritesSpec : ChangeSpec := { name := "fnPatchCodeFrameCoversWrites", fn := fun _ => fun
  | [d1, d2] => { results := [.lit (.bool true)], args := [d1, d2] }
  | _ => none }
def fnPatchCodeFrameCoversWritesRow : OpenClaim := { program := "ytieiaojabkpkfaafmt", sum := "a51ae0f67047ae384ae2f1e2c480930d11071e441c0bea88285f9d8dd6313b9f", func := "github.com/yuin/gopher-lua/n005_128.FnPatchCodeFrameCoversWrites", spec := "fnPatchCodeFrameCoversWrites", stops := ["fmt.Sprintf, its operands' methods called"], inPlace := ["fmt.Sprintf"], unfollowed := true, recurses := true, apart := false }
/-- NO THEOREM (fmt's text is open here; it may be false): for the released tool's asking of the row's closed facts alone. THE STATEMENT IS 'FnPatchCodeFrameCoversWritesToldSaid' (YtieiaojabkpkfaaFmtCards.lean). -/
def FnPatchCodeFrameCoversWritesFormAsk : Prop := fnPatchCodeFrameCoversWritesRow.holds Tryf.pinned (OpenSpec.ofChange fnPatchCodeFrameCoversWritesSpec)

/-- ITS FALSE NEIGHBOUR: 'it returns false'. Refute it at one input. -/
def fnPatchCodeFrameCoversWritesWrong : ChangeSpec := { name := "fnPatchCodeFrameCoversWrites", fn := fun _ => fun
  | [d1, d2] => { results := [.lit (.bool false)], args := [d1, d2] }
  | _ => none }
def FnPatchCodeFrameCoversWritesWrongFormAsk : Prop := fnPatchCodeFrameCoversWritesRow.holds Tryf.pinned (OpenSpec.ofChange fnPatchCodeFrameCoversWritesWrong)

end Rows
end Go.Proofs.YtieiaojabkpkfaaFmt
