/-
  DERIVED. GIVEN WITH THE SEED: THE CARDS: each row of YtdhmpfijdmlfoaaFmtRows.lean that lists a variable, with what it lists TIED to the program's text (the seventh form; the later family's looks); each row that meets fmt, with fmt's text TOLD by the authors' own Lean function (tested against real Go, not proved from fmt's source: count such statements apart). THE CARD IS WHAT COUNTS. Prove the row's statement (the work); the ties are given (YtdhmpfijdmlfoaaFmtTie.lean); close each card by the builder's one call (the guide's Derived/Test/ToyasCard.lean, 'card_holds'). Laid BY PROGRAM, IN A SANDBOX (cutbox-door.mjs). By AI agents, Wed Nov 11 2026. No macro, syntax, notation, axiom, sorry.
-/
import Derived.Test.YtdhmpfijdmlfoaaFmtRows
import GoSem.ClaimSeven
namespace Go.Proofs.YtdhmpfijdmlfoaaFmt
namespace Rows

/-- THE TOLD CARD OF 'n005_136.FnResolveGotoTwiceIsOnce'. -/
def fnResolveGotoTwiceIsOnceCard : Claim7 := { stood := { row := fnResolveGotoTwiceIsOnceRow, standIns := [], harness := (true, "51e933e4f421168edbb0212679e95620aca852f531fd1656f52c139ecdc3024e"), looks := false }, told := true, goes := false }
def FnResolveGotoTwiceIsOnceToldSaid : Prop := Claim7.holds Tryf.pinned (.plain (OpenSpec.ofChange fnResolveGotoTwiceIsOnceSpec)) fnResolveGotoTwiceIsOnceCard
/-- ITS FALSE NEIGHBOUR. Refute it at one input. -/
def FnResolveGotoTwiceIsOnceToldWrongFalsely : Prop := Claim7.holds Tryf.pinned (.plain (OpenSpec.ofChange fnResolveGotoTwiceIsOnceWrong)) fnResolveGotoTwiceIsOnceCard

/-- THE TOLD CARD OF 'n005_136.FnFindLabelRepeatIsStable'. -/
def fnFindLabelRepeatIsStableCard : Claim7 := { stood := { row := fnFindLabelRepeatIsStableRow, standIns := [], harness := (true, "51e933e4f421168edbb0212679e95620aca852f531fd1656f52c139ecdc3024e"), looks := false }, told := true, goes := false }
def FnFindLabelRepeatIsStableToldSaid : Prop := Claim7.holds Tryf.pinned (.plain (OpenSpec.ofChange fnFindLabelRepeatIsStableSpec)) fnFindLabelRepeatIsStableCard
/-- ITS FALSE NEIGHBOUR. Refute it at one input. -/
def FnFindLabelRepeatIsStableToldWrongFalsely : Prop := Claim7.holds Tryf.pinned (.plain (OpenSpec.ofChange fnFindLabelRepeatIsStableWrong)) fnFindLabelRepeatIsStableCard

/-- THE TOLD CARD OF 'n005_136.FnResolveGotoPatchesOnlyItsJump'. -/
def fnResolveGotoPatchesOnlyItsJumpCard : Claim7 := { stood := { row := fnResolveGotoPatchesOnlyItsJumpRow, standIns := [], harness := (true, "51e933e4f421168edbb0212679e95620aca852f531fd1656f52c139ecdc3024e"), looks := false }, told := true, goes := false }
def FnResolveGotoPatchesOnlyItsJumpToldSaid : Prop := Claim7.holds Tryf.pinned (.plain (OpenSpec.ofChange fnResolveGotoPatchesOnlyItsJumpSpec)) fnResolveGotoPatchesOnlyItsJumpCard
/-- ITS FALSE NEIGHBOUR. Refute it at one input. -/
def FnResolveGotoPatchesOnlyItsJumpToldWrongFalsely : Prop := Claim7.holds Tryf.pinned (.plain (OpenSpec.ofChange fnResolveGotoPatchesOnlyItsJumpWrong)) fnResolveGotoPatchesOnlyItsJumpCard

/-- THE TOLD CARD OF 'n005_136.FnInnerBlockLabelsShadowOuter'. -/
def fnInnerBlockLabelsShadowOuterCard : Claim7 := { stood := { row := fnInnerBlockLabelsShadowOuterRow, standIns := [], harness := (true, "51e933e4f421168edbb0212679e95620aca852f531fd1656f52c139ecdc3024e"), looks := false }, told := true, goes := false }
def FnInnerBlockLabelsShadowOuterToldSaid : Prop := Claim7.holds Tryf.pinned (.plain (OpenSpec.ofChange fnInnerBlockLabelsShadowOuterSpec)) fnInnerBlockLabelsShadowOuterCard
/-- ITS FALSE NEIGHBOUR. Refute it at one input. -/
def FnInnerBlockLabelsShadowOuterToldWrongFalsely : Prop := Claim7.holds Tryf.pinned (.plain (OpenSpec.ofChange fnInnerBlockLabelsShadowOuterWrong)) fnInnerBlockLabelsShadowOuterCard

/-- THE TOLD CARD OF 'n005_136.FnNamedLabelsMatchModel'. -/
def fnNamedLabelsMatchModelCard : Claim7 := { stood := { row := fnNamedLabelsMatchModelRow, standIns := [], harness := (true, "51e933e4f421168edbb0212679e95620aca852f531fd1656f52c139ecdc3024e"), looks := false }, told := true, goes := false }
def FnNamedLabelsMatchModelToldSaid : Prop := Claim7.holds Tryf.pinned (.plain (OpenSpec.ofChange fnNamedLabelsMatchModelSpec)) fnNamedLabelsMatchModelCard
/-- ITS FALSE NEIGHBOUR. Refute it at one input. -/
def FnNamedLabelsMatchModelToldWrongFalsely : Prop := Claim7.holds Tryf.pinned (.plain (OpenSpec.ofChange fnNamedLabelsMatchModelWrong)) fnNamedLabelsMatchModelCard

/-- THE TOLD CARD OF 'n005_136.FnFindLabelCaseTable'. -/
def fnFindLabelCaseTableCard : Claim7 := { stood := { row := fnFindLabelCaseTableRow, standIns := [], harness := (true, "51e933e4f421168edbb0212679e95620aca852f531fd1656f52c139ecdc3024e"), looks := false }, told := true, goes := false }
def FnFindLabelCaseTableToldSaid : Prop := Claim7.holds Tryf.pinned (.plain (OpenSpec.ofChange fnFindLabelCaseTableSpec)) fnFindLabelCaseTableCard
/-- ITS FALSE NEIGHBOUR. Refute it at one input. -/
def FnFindLabelCaseTableToldWrongFalsely : Prop := Claim7.holds Tryf.pinned (.plain (OpenSpec.ofChange fnFindLabelCaseTableWrong)) fnFindLabelCaseTableCard
end Rows
end Go.Proofs.YtdhmpfijdmlfoaaFmt
