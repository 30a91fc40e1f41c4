/-
  DERIVED. GIVEN WITH THE SEED: THE CARDS: each row of YtdljljnjijkbjaaFmtRows.lean that lists a variable, with what it lists TIED to the program's text (the seventh form; the later family's looks); each row that meets fmt, with fmt's text TOLD by the authors' own Lean function (tested against real Go, not proved from fmt's source: count such statements apart). THE CARD IS WHAT COUNTS. Prove the row's statement (the work); the ties are given (YtdljljnjijkbjaaFmtTie.lean); close each card by the builder's one call (the guide's Derived/Test/ToyasCard.lean, 'card_holds'). Laid BY PROGRAM, IN A SANDBOX (cutbox-door.mjs). By AI agents, Wed Nov 11 2026. No macro, syntax, notation, axiom, sorry.
-/
import Derived.Test.YtdljljnjijkbjaaFmtRows
import GoSem.ClaimSeven
namespace Go.Proofs.YtdljljnjijkbjaaFmt
namespace Rows

/-- THE TOLD AND TIED CARD OF 'n005_15.FnNewFunctionProtoIsEmpty'. -/
def fnNewFunctionProtoIsEmptyCard : Claim7 := { stood := { row := fnNewFunctionProtoIsEmptyRow, standIns := [], harness := (true, "5a98b24aca9a02d0048a43fac07cb768b1a5ed47eb0137483112641cb6d8a1a8"), looks := false }, told := true, laidByText := true, laidKinds := [.widerDeep], laidTests := true, laidLooks := .later, goes := false }
def FnNewFunctionProtoIsEmptyToldSaid : Prop := Claim7.holds Tryf.pinned (.plain (OpenSpec.ofChange fnNewFunctionProtoIsEmptySpec)) fnNewFunctionProtoIsEmptyCard
/-- ITS FALSE NEIGHBOUR. Refute it at one input. -/
def FnNewFunctionProtoIsEmptyToldWrongFalsely : Prop := Claim7.holds Tryf.pinned (.plain (OpenSpec.ofChange fnNewFunctionProtoIsEmptyWrong)) fnNewFunctionProtoIsEmptyCard

/-- THE TOLD AND TIED CARD OF 'n005_15.FnStrCountOnlyTouchesHeader'. -/
def fnStrCountOnlyTouchesHeaderCard : Claim7 := { stood := { row := fnStrCountOnlyTouchesHeaderRow, standIns := [], harness := (true, "5a98b24aca9a02d0048a43fac07cb768b1a5ed47eb0137483112641cb6d8a1a8"), looks := false }, told := true, laidByText := true, laidKinds := [.widerDeep], laidTests := true, laidLooks := .later, goes := false }
def FnStrCountOnlyTouchesHeaderToldSaid : Prop := Claim7.holds Tryf.pinned (.plain (OpenSpec.ofChange fnStrCountOnlyTouchesHeaderSpec)) fnStrCountOnlyTouchesHeaderCard
/-- ITS FALSE NEIGHBOUR. Refute it at one input. -/
def FnStrCountOnlyTouchesHeaderToldWrongFalsely : Prop := Claim7.holds Tryf.pinned (.plain (OpenSpec.ofChange fnStrCountOnlyTouchesHeaderWrong)) fnStrCountOnlyTouchesHeaderCard

/-- THE TOLD AND TIED CARD OF 'n005_15.FnStringIsDedentedStr'. -/
def fnStringIsDedentedStrCard : Claim7 := { stood := { row := fnStringIsDedentedStrRow, standIns := [], harness := (true, "5a98b24aca9a02d0048a43fac07cb768b1a5ed47eb0137483112641cb6d8a1a8"), looks := false }, told := true, laidByText := true, laidKinds := [.widerDeep], laidTests := true, laidLooks := .later, goes := false }
def FnStringIsDedentedStrToldSaid : Prop := Claim7.holds Tryf.pinned (.plain (OpenSpec.ofChange fnStringIsDedentedStrSpec)) fnStringIsDedentedStrCard
/-- ITS FALSE NEIGHBOUR. Refute it at one input. -/
def FnStringIsDedentedStrToldWrongFalsely : Prop := Claim7.holds Tryf.pinned (.plain (OpenSpec.ofChange fnStringIsDedentedStrWrong)) fnStringIsDedentedStrCard
end Rows
end Go.Proofs.YtdljljnjijkbjaaFmt
