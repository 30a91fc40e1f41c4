/-
  No cell of these rows narrows 'for every input' (looked for: loops, veiled, ifaces, maps, wideKeys, modest, calm, conditions, laid).
  DERIVED. THE GIVEN ROWS OF THIS SEAT. 6 by the template 'for every input the law returns true; each argument reads behind the call as it read before'; 0 by the template 'total and deterministic' (their statements: YtdhmpfijdmlfoaaFmtTotals.lean).
  GIVEN WITH THE SEED: the statements are not yours to turn. If you find one false, say at which input.
  Laid BY PROGRAM, IN A SANDBOX (cutbox-rows.mjs): the forced cells as the released guide's own fill.sh prints them over the translation eb457c1b03893f3e… (all of the seat's roots in one cut). By AI agents, Wed Nov 11 2026. No macro, syntax, notation, axiom, sorry.
-/
import Derived.Test.YtdhmpfijdmlfoaaFmtChecked
import GoSem.Claim
import GoSem.ClaimJoined
import GoSem.ClaimMapViews
import Derived.JoinedTies
import Derived.KernelRfl
namespace Go.Proofs.YtdhmpfijdmlfoaaFmt
/- THE CELL 'sum', in the pinned program and in every row, IS THE sha256 OF THE DUMP (.gsa) THAT YtdhmpfijdmlfoaaFmtProg.lean LOADS. Nothing in Lean hashes anything: it is a label: what it is worth is what the hold of that sum in a sandbox is worth. -/
noncomputable def Tryf.pinned : Pinned := { name := "ytdhmpfijdmlfoaafmt", sum := "eb457c1b03893f3ed58e5bba5a55718068a58b729cb649db09582cf6877d5b80", checked := Tryf.checked }
namespace Rows
def none {H : Type} : Left H := { results := [], args := [] }

/-- 'n005_136.FnResolveGotoTwiceIsOnce': WHATEVER THE INPUT: true; the input reads as it did. -/
def fnResolveGotoTwiceIsOnceSpec : ChangeSpec := { name := "fnResolveGotoTwiceIsOnce", fn := fun _ => fun
  | [d1, d2, d3, d4, d5, d6, d7] => { results := [.lit (.bool true)], args := [d1, d2, d3, d4, d5, d6, d7] }
  | _ => none }
def fnResolveGotoTwiceIsOnceRow : OpenClaim := { program := "ytdhmpfijdmlfoaafmt", sum := "eb457c1b03893f3ed58e5bba5a55718068a58b729cb649db09582cf6877d5b80", func := "github.com/yuin/gopher-lua/n005_136.FnResolveGotoTwiceIsOnce", spec := "fnResolveGotoTwiceIsOnce", stops := ["fmt.Sprintf, its operands' methods called"], inPlace := ["fmt.Sprintf"], unfollowed := true, recurses := true, apart := false }
/-- NO THEOREM (fmt's text is open here; it may be false): for the released tool's asking of the row's closed facts alone. THE STATEMENT IS 'FnResolveGotoTwiceIsOnceToldSaid' (YtdhmpfijdmlfoaaFmtCards.lean). -/
def FnResolveGotoTwiceIsOnceFormAsk : Prop := fnResolveGotoTwiceIsOnceRow.holds Tryf.pinned (OpenSpec.ofChange fnResolveGotoTwiceIsOnceSpec)

/-- ITS FALSE NEIGHBOUR: 'it returns false'. Refute it at one input. -/
def fnResolveGotoTwiceIsOnceWrong : ChangeSpec := { name := "fnResolveGotoTwiceIsOnce", fn := fun _ => fun
  | [d1, d2, d3, d4, d5, d6, d7] => { results := [.lit (.bool false)], args := [d1, d2, d3, d4, d5, d6, d7] }
  | _ => none }
def FnResolveGotoTwiceIsOnceWrongFormAsk : Prop := fnResolveGotoTwiceIsOnceRow.holds Tryf.pinned (OpenSpec.ofChange fnResolveGotoTwiceIsOnceWrong)

/-- 'n005_136.FnFindLabelRepeatIsStable': WHATEVER THE INPUT: true; the input reads as it did. -/
def fnFindLabelRepeatIsStableSpec : ChangeSpec := { name := "fnFindLabelRepeatIsStable", fn := fun _ => fun
  | [d1, d2, d3, d4, d5, d6, d7, d8] => { results := [.lit (.bool true)], args := [d1, d2, d3, d4, d5, d6, d7, d8] }
  | _ => none }
def fnFindLabelRepeatIsStableRow : OpenClaim := { program := "ytdhmpfijdmlfoaafmt", sum := "eb457c1b03893f3ed58e5bba5a55718068a58b729cb649db09582cf6877d5b80", func := "github.com/yuin/gopher-lua/n005_136.FnFindLabelRepeatIsStable", spec := "fnFindLabelRepeatIsStable", stops := ["fmt.Sprintf, its operands' methods called"], inPlace := ["fmt.Sprintf"], unfollowed := true, recurses := true, apart := false }
/-- NO THEOREM (fmt's text is open here; it may be false): for the released tool's asking of the row's closed facts alone. THE STATEMENT IS 'FnFindLabelRepeatIsStableToldSaid' (YtdhmpfijdmlfoaaFmtCards.lean). -/
def FnFindLabelRepeatIsStableFormAsk : Prop := fnFindLabelRepeatIsStableRow.holds Tryf.pinned (OpenSpec.ofChange fnFindLabelRepeatIsStableSpec)

/-- ITS FALSE NEIGHBOUR: 'it returns false'. Refute it at one input. -/
def fnFindLabelRepeatIsStableWrong : ChangeSpec := { name := "fnFindLabelRepeatIsStable", fn := fun _ => fun
  | [d1, d2, d3, d4, d5, d6, d7, d8] => { results := [.lit (.bool false)], args := [d1, d2, d3, d4, d5, d6, d7, d8] }
  | _ => none }
def FnFindLabelRepeatIsStableWrongFormAsk : Prop := fnFindLabelRepeatIsStableRow.holds Tryf.pinned (OpenSpec.ofChange fnFindLabelRepeatIsStableWrong)

/-- 'n005_136.FnResolveGotoPatchesOnlyItsJump': WHATEVER THE INPUT: true; the input reads as it did. -/
def fnResolveGotoPatchesOnlyItsJumpSpec : ChangeSpec := { name := "fnResolveGotoPatchesOnlyItsJump", fn := fun _ => fun
  | [d1, d2, d3, d4, d5, d6, d7] => { results := [.lit (.bool true)], args := [d1, d2, d3, d4, d5, d6, d7] }
  | _ => none }
def fnResolveGotoPatchesOnlyItsJumpRow : OpenClaim := { program := "ytdhmpfijdmlfoaafmt", sum := "eb457c1b03893f3ed58e5bba5a55718068a58b729cb649db09582cf6877d5b80", func := "github.com/yuin/gopher-lua/n005_136.FnResolveGotoPatchesOnlyItsJump", spec := "fnResolveGotoPatchesOnlyItsJump", stops := ["fmt.Sprintf, its operands' methods called"], inPlace := ["fmt.Sprintf"], unfollowed := true, recurses := true, apart := false }
/-- NO THEOREM (fmt's text is open here; it may be false): for the released tool's asking of the row's closed facts alone. THE STATEMENT IS 'FnResolveGotoPatchesOnlyItsJumpToldSaid' (YtdhmpfijdmlfoaaFmtCards.lean). -/
def FnResolveGotoPatchesOnlyItsJumpFormAsk : Prop := fnResolveGotoPatchesOnlyItsJumpRow.holds Tryf.pinned (OpenSpec.ofChange fnResolveGotoPatchesOnlyItsJumpSpec)

/-- ITS FALSE NEIGHBOUR: 'it returns false'. Refute it at one input. -/
def fnResolveGotoPatchesOnlyItsJumpWrong : ChangeSpec := { name := "fnResolveGotoPatchesOnlyItsJump", fn := fun _ => fun
  | [d1, d2, d3, d4, d5, d6, d7] => { results := [.lit (.bool false)], args := [d1, d2, d3, d4, d5, d6, d7] }
  | _ => none }
def FnResolveGotoPatchesOnlyItsJumpWrongFormAsk : Prop := fnResolveGotoPatchesOnlyItsJumpRow.holds Tryf.pinned (OpenSpec.ofChange fnResolveGotoPatchesOnlyItsJumpWrong)

/-- 'n005_136.FnInnerBlockLabelsShadowOuter': WHATEVER THE INPUT: true; the input reads as it did. -/
def fnInnerBlockLabelsShadowOuterSpec : ChangeSpec := { name := "fnInnerBlockLabelsShadowOuter", fn := fun _ => fun
  | [d1, d2, d3] => { results := [.lit (.bool true)], args := [d1, d2, d3] }
  | _ => none }
def fnInnerBlockLabelsShadowOuterRow : OpenClaim := { program := "ytdhmpfijdmlfoaafmt", sum := "eb457c1b03893f3ed58e5bba5a55718068a58b729cb649db09582cf6877d5b80", func := "github.com/yuin/gopher-lua/n005_136.FnInnerBlockLabelsShadowOuter", spec := "fnInnerBlockLabelsShadowOuter", stops := ["fmt.Sprintf, its operands' methods called"], inPlace := ["fmt.Sprintf"], unfollowed := true, recurses := true, apart := false }
/-- NO THEOREM (fmt's text is open here; it may be false): for the released tool's asking of the row's closed facts alone. THE STATEMENT IS 'FnInnerBlockLabelsShadowOuterToldSaid' (YtdhmpfijdmlfoaaFmtCards.lean). -/
def FnInnerBlockLabelsShadowOuterFormAsk : Prop := fnInnerBlockLabelsShadowOuterRow.holds Tryf.pinned (OpenSpec.ofChange fnInnerBlockLabelsShadowOuterSpec)

/-- ITS FALSE NEIGHBOUR: 'it returns false'. Refute it at one input. -/
def fnInnerBlockLabelsShadowOuterWrong : ChangeSpec := { name := "fnInnerBlockLabelsShadowOuter", fn := fun _ => fun
  | [d1, d2, d3] => { results := [.lit (.bool false)], args := [d1, d2, d3] }
  | _ => none }
def FnInnerBlockLabelsShadowOuterWrongFormAsk : Prop := fnInnerBlockLabelsShadowOuterRow.holds Tryf.pinned (OpenSpec.ofChange fnInnerBlockLabelsShadowOuterWrong)

/-- 'n005_136.FnNamedLabelsMatchModel': WHATEVER THE INPUT: true; the input reads as it did. -/
def fnNamedLabelsMatchModelSpec : ChangeSpec := { name := "fnNamedLabelsMatchModel", fn := fun _ => fun
  | [d1, d2, d3, d4] => { results := [.lit (.bool true)], args := [d1, d2, d3, d4] }
  | _ => none }
def fnNamedLabelsMatchModelRow : OpenClaim := { program := "ytdhmpfijdmlfoaafmt", sum := "eb457c1b03893f3ed58e5bba5a55718068a58b729cb649db09582cf6877d5b80", func := "github.com/yuin/gopher-lua/n005_136.FnNamedLabelsMatchModel", spec := "fnNamedLabelsMatchModel", stops := ["fmt.Sprintf, its operands' methods called"], inPlace := ["fmt.Sprintf"], unfollowed := true, recurses := true, apart := false }
/-- NO THEOREM (fmt's text is open here; it may be false): for the released tool's asking of the row's closed facts alone. THE STATEMENT IS 'FnNamedLabelsMatchModelToldSaid' (YtdhmpfijdmlfoaaFmtCards.lean). -/
def FnNamedLabelsMatchModelFormAsk : Prop := fnNamedLabelsMatchModelRow.holds Tryf.pinned (OpenSpec.ofChange fnNamedLabelsMatchModelSpec)

/-- ITS FALSE NEIGHBOUR: 'it returns false'. Refute it at one input. -/
def fnNamedLabelsMatchModelWrong : ChangeSpec := { name := "fnNamedLabelsMatchModel", fn := fun _ => fun
  | [d1, d2, d3, d4] => { results := [.lit (.bool false)], args := [d1, d2, d3, d4] }
  | _ => none }
def FnNamedLabelsMatchModelWrongFormAsk : Prop := fnNamedLabelsMatchModelRow.holds Tryf.pinned (OpenSpec.ofChange fnNamedLabelsMatchModelWrong)

/-- 'n005_136.FnFindLabelCaseTable': WHATEVER THE INPUT: true; the input reads as it did. -/
def fnFindLabelCaseTableSpec : ChangeSpec := { name := "fnFindLabelCaseTable", fn := fun _ => fun
  | [d1, d2, d3, d4, d5, d6, d7, d8] => { results := [.lit (.bool true)], args := [d1, d2, d3, d4, d5, d6, d7, d8] }
  | _ => none }
def fnFindLabelCaseTableRow : OpenClaim := { program := "ytdhmpfijdmlfoaafmt", sum := "eb457c1b03893f3ed58e5bba5a55718068a58b729cb649db09582cf6877d5b80", func := "github.com/yuin/gopher-lua/n005_136.FnFindLabelCaseTable", spec := "fnFindLabelCaseTable", stops := ["fmt.Sprintf, its operands' methods called"], inPlace := ["fmt.Sprintf"], unfollowed := true, recurses := true, apart := false }
/-- NO THEOREM (fmt's text is open here; it may be false): for the released tool's asking of the row's closed facts alone. THE STATEMENT IS 'FnFindLabelCaseTableToldSaid' (YtdhmpfijdmlfoaaFmtCards.lean). -/
def FnFindLabelCaseTableFormAsk : Prop := fnFindLabelCaseTableRow.holds Tryf.pinned (OpenSpec.ofChange fnFindLabelCaseTableSpec)

/-- ITS FALSE NEIGHBOUR: 'it returns false'. Refute it at one input. -/
def fnFindLabelCaseTableWrong : ChangeSpec := { name := "fnFindLabelCaseTable", fn := fun _ => fun
  | [d1, d2, d3, d4, d5, d6, d7, d8] => { results := [.lit (.bool false)], args := [d1, d2, d3, d4, d5, d6, d7, d8] }
  | _ => none }
def FnFindLabelCaseTableWrongFormAsk : Prop := fnFindLabelCaseTableRow.holds Tryf.pinned (OpenSpec.ofChange fnFindLabelCaseTableWrong)

end Rows
end Go.Proofs.YtdhmpfijdmlfoaaFmt
