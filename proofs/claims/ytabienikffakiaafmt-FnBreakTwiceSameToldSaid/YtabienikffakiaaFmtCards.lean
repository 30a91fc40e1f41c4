/-
  DERIVED. GIVEN WITH THE SEED: THE CARDS: each row of YtabienikffakiaaFmtRows.lean that lists a variable, with what it lists TIED to the program's text (the seventh form; the later family's looks); each row that meets fmt, with fmt's text TOLD by the authors' own Lean function (tested against real Go, not proved from fmt's source: count such statements apart). THE CARD IS WHAT COUNTS. Prove the row's statement (the work); the ties are given (YtabienikffakiaaFmtTie.lean); close each card by the builder's one call (the guide's Derived/Test/ToyasCard.lean, 'card_holds'). Laid BY PROGRAM, IN A SANDBOX (cutbox-door.mjs). By AI agents, Wed Nov 11 2026. No macro, syntax, notation, axiom, sorry.
-/
import Derived.Test.YtabienikffakiaaFmtRows
import GoSem.ClaimSeven
namespace Go.Proofs.YtabienikffakiaaFmt
namespace Rows

/-- THE TOLD CARD OF 'n005_135.FnBreakJumpsToInnermostLoop'. -/
def fnBreakJumpsToInnermostLoopCard : Claim7 := { stood := { row := fnBreakJumpsToInnermostLoopRow, standIns := [], harness := (true, "620c6855eea0bad32d016e5d84a9e37d077d1158f606ad9e597ed99c78e29b27"), looks := false }, told := true, goes := false }
def FnBreakJumpsToInnermostLoopToldSaid : Prop := Claim7.holds Tryf.pinned (.plain (OpenSpec.ofChange fnBreakJumpsToInnermostLoopSpec)) fnBreakJumpsToInnermostLoopCard
/-- ITS FALSE NEIGHBOUR. Refute it at one input. -/
def FnBreakJumpsToInnermostLoopToldWrongFalsely : Prop := Claim7.holds Tryf.pinned (.plain (OpenSpec.ofChange fnBreakJumpsToInnermostLoopWrong)) fnBreakJumpsToInnermostLoopCard

/-- THE TOLD CARD OF 'n005_135.FnBreakTwiceSame'. -/
def fnBreakTwiceSameCard : Claim7 := { stood := { row := fnBreakTwiceSameRow, standIns := [], harness := (true, "620c6855eea0bad32d016e5d84a9e37d077d1158f606ad9e597ed99c78e29b27"), looks := false }, told := true, goes := false }
def FnBreakTwiceSameToldSaid : Prop := Claim7.holds Tryf.pinned (.plain (OpenSpec.ofChange fnBreakTwiceSameSpec)) fnBreakTwiceSameCard
/-- ITS FALSE NEIGHBOUR. Refute it at one input. -/
def FnBreakTwiceSameToldWrongFalsely : Prop := Claim7.holds Tryf.pinned (.plain (OpenSpec.ofChange fnBreakTwiceSameWrong)) fnBreakTwiceSameCard
end Rows
end Go.Proofs.YtabienikffakiaaFmt
