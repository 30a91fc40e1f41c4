/-
  DERIVED. GIVEN WITH THE SEED: THE CARDS: each row of YtkbbombebfjggaaFmtRows.lean that lists a variable, with what it lists TIED to the program's text (the seventh form; the later family's looks); each row that meets fmt, with fmt's text TOLD by the authors' own Lean function (tested against real Go, not proved from fmt's source: count such statements apart). THE CARD IS WHAT COUNTS. Prove the row's statement (the work); the ties are given (YtkbbombebfjggaaFmtTie.lean); close each card by the builder's one call (the guide's Derived/Test/ToyasCard.lean, 'card_holds'). Laid BY PROGRAM, IN A SANDBOX (cutbox-door.mjs). By AI agents, Wed Nov 11 2026. No macro, syntax, notation, axiom, sorry.
-/
import Derived.Test.YtkbbombebfjggaaFmtRows
import GoSem.ClaimSeven
namespace Go.Proofs.YtkbbombebfjggaaFmt
namespace Rows

/-- THE TOLD CARD OF 'n005_144.FnFrameFuncNameLuaCalleeNamedCall'. -/
def fnFrameFuncNameLuaCalleeNamedCallCard : Claim7 := { stood := { row := fnFrameFuncNameLuaCalleeNamedCallRow, standIns := [], harness := (true, "cb1bbcac2a0a7dd5f001b129fe3bee8e648c1c3a89d2f36cc8bd7f0334263393"), looks := false }, told := true, goes := false }
def FnFrameFuncNameLuaCalleeNamedCallToldSaid : Prop := Claim7.holds Tryf.pinned (.plain (OpenSpec.ofChange fnFrameFuncNameLuaCalleeNamedCallSpec)) fnFrameFuncNameLuaCalleeNamedCallCard
/-- ITS FALSE NEIGHBOUR. Refute it at one input. -/
def FnFrameFuncNameLuaCalleeNamedCallToldWrongFalsely : Prop := Claim7.holds Tryf.pinned (.plain (OpenSpec.ofChange fnFrameFuncNameLuaCalleeNamedCallWrong)) fnFrameFuncNameLuaCalleeNamedCallCard

/-- THE TOLD CARD OF 'n005_144.FnFrameFuncNameGoCallee'. -/
def fnFrameFuncNameGoCalleeCard : Claim7 := { stood := { row := fnFrameFuncNameGoCalleeRow, standIns := [], harness := (true, "cb1bbcac2a0a7dd5f001b129fe3bee8e648c1c3a89d2f36cc8bd7f0334263393"), looks := false }, told := true, goes := false }
def FnFrameFuncNameGoCalleeToldSaid : Prop := Claim7.holds Tryf.pinned (.plain (OpenSpec.ofChange fnFrameFuncNameGoCalleeSpec)) fnFrameFuncNameGoCalleeCard
/-- ITS FALSE NEIGHBOUR. Refute it at one input. -/
def FnFrameFuncNameGoCalleeToldWrongFalsely : Prop := Claim7.holds Tryf.pinned (.plain (OpenSpec.ofChange fnFrameFuncNameGoCalleeWrong)) fnFrameFuncNameGoCalleeCard
end Rows
end Go.Proofs.YtkbbombebfjggaaFmt
