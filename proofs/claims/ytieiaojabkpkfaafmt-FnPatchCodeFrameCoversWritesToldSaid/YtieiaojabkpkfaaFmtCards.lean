/-
  DERIVED. GIVEN WITH THE SEED: THE CARDS: each row of YtieiaojabkpkfaaFmtRows.lean that lists a variable, with what it lists TIED to the program's text (the seventh form; the later family's looks); each row that meets fmt, with fmt's text TOLD by the authors' own Lean function (tested against real Go, not proved from fmt's source: count such statements apart). THE CARD IS WHAT COUNTS. Prove the row's statement (the work); the ties are given (YtieiaojabkpkfaaFmtTie.lean); close each card by the builder's one call (the guide's Derived/Test/ToyasCard.lean, 'card_holds'). Laid BY PROGRAM, IN A SANDBOX (cutbox-door.mjs). By AI agents, Wed Nov 11 2026. No macro, syntax, notation, axiom, sorry.
-/
import Derived.Test.YtieiaojabkpkfaaFmtRows
import GoSem.ClaimSeven
namespace Go.Proofs.YtieiaojabkpkfaaFmt
namespace Rows

/-- THE TOLD CARD OF 'n005_128.FnPatchCodeMoveRuns'. -/
def fnPatchCodeMoveRunsCard : Claim7 := { stood := { row := fnPatchCodeMoveRunsRow, standIns := [], harness := (true, "c37a88058e612287d1ac1fedfb620c3223a3f7035518dac5f9d41cbd5bcae3fa"), looks := false }, told := true, goes := false }
def FnPatchCodeMoveRunsToldSaid : Prop := Claim7.holds Tryf.pinned (.plain (OpenSpec.ofChange fnPatchCodeMoveRunsSpec)) fnPatchCodeMoveRunsCard
/-- ITS FALSE NEIGHBOUR. Refute it at one input. -/
def FnPatchCodeMoveRunsToldWrongFalsely : Prop := Claim7.holds Tryf.pinned (.plain (OpenSpec.ofChange fnPatchCodeMoveRunsWrong)) fnPatchCodeMoveRunsCard

/-- THE TOLD CARD OF 'n005_128.FnIdentRefTypeAskerOnlyLocalises'. -/
def fnIdentRefTypeAskerOnlyLocalisesCard : Claim7 := { stood := { row := fnIdentRefTypeAskerOnlyLocalisesRow, standIns := [], harness := (true, "c37a88058e612287d1ac1fedfb620c3223a3f7035518dac5f9d41cbd5bcae3fa"), looks := false }, told := true, goes := false }
def FnIdentRefTypeAskerOnlyLocalisesToldSaid : Prop := Claim7.holds Tryf.pinned (.plain (OpenSpec.ofChange fnIdentRefTypeAskerOnlyLocalisesSpec)) fnIdentRefTypeAskerOnlyLocalisesCard
/-- ITS FALSE NEIGHBOUR. Refute it at one input. -/
def FnIdentRefTypeAskerOnlyLocalisesToldWrongFalsely : Prop := Claim7.holds Tryf.pinned (.plain (OpenSpec.ofChange fnIdentRefTypeAskerOnlyLocalisesWrong)) fnIdentRefTypeAskerOnlyLocalisesCard

/-- THE TOLD CARD OF 'n005_128.FnPatchCodeCountSplitsAsMax'. -/
def fnPatchCodeCountSplitsAsMaxCard : Claim7 := { stood := { row := fnPatchCodeCountSplitsAsMaxRow, standIns := [], harness := (true, "c37a88058e612287d1ac1fedfb620c3223a3f7035518dac5f9d41cbd5bcae3fa"), looks := false }, told := true, goes := false }
def FnPatchCodeCountSplitsAsMaxToldSaid : Prop := Claim7.holds Tryf.pinned (.plain (OpenSpec.ofChange fnPatchCodeCountSplitsAsMaxSpec)) fnPatchCodeCountSplitsAsMaxCard
/-- ITS FALSE NEIGHBOUR. Refute it at one input. -/
def FnPatchCodeCountSplitsAsMaxToldWrongFalsely : Prop := Claim7.holds Tryf.pinned (.plain (OpenSpec.ofChange fnPatchCodeCountSplitsAsMaxWrong)) fnPatchCodeCountSplitsAsMaxCard

/-- THE TOLD CARD OF 'n005_128.FnIdentRefTypeByScope'. -/
def fnIdentRefTypeByScopeCard : Claim7 := { stood := { row := fnIdentRefTypeByScopeRow, standIns := [], harness := (true, "c37a88058e612287d1ac1fedfb620c3223a3f7035518dac5f9d41cbd5bcae3fa"), looks := false }, told := true, goes := false }
def FnIdentRefTypeByScopeToldSaid : Prop := Claim7.holds Tryf.pinned (.plain (OpenSpec.ofChange fnIdentRefTypeByScopeSpec)) fnIdentRefTypeByScopeCard
/-- ITS FALSE NEIGHBOUR. Refute it at one input. -/
def FnIdentRefTypeByScopeToldWrongFalsely : Prop := Claim7.holds Tryf.pinned (.plain (OpenSpec.ofChange fnIdentRefTypeByScopeWrong)) fnIdentRefTypeByScopeCard

/-- THE TOLD CARD OF 'n005_128.FnPatchCodeFrameCoversWrites'. -/
def fnPatchCodeFrameCoversWritesCard : Claim7 := { stood := { row := fnPatchCodeFrameCoversWritesRow, standIns := [], harness := (true, "c37a88058e612287d1ac1fedfb620c3223a3f7035518dac5f9d41cbd5bcae3fa"), looks := false }, told := true, goes := false }
def FnPatchCodeFrameCoversWritesToldSaid : Prop := Claim7.holds Tryf.pinned (.plain (OpenSpec.ofChange fnPatchCodeFrameCoversWritesSpec)) fnPatchCodeFrameCoversWritesCard
/-- ITS FALSE NEIGHBOUR. Refute it at one input. -/
def FnPatchCodeFrameCoversWritesToldWrongFalsely : Prop := Claim7.holds Tryf.pinned (.plain (OpenSpec.ofChange fnPatchCodeFrameCoversWritesWrong)) fnPatchCodeFrameCoversWritesCard
end Rows
end Go.Proofs.YtieiaojabkpkfaaFmt
