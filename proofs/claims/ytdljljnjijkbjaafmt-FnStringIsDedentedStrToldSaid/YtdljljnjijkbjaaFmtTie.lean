/-
  DERIVED. GIVEN WITH THE SEED: THE PROGRAM's TIES (one call each: nine closed facts by the kernel) AND EACH ROW's TIE, after the 31st guide's Derived/Test/Toyas{Tie, Card}.lean. No idea stands in it: it is a product of the set-up. Laid BY PROGRAM, IN A SANDBOX (cutbox-door.mjs). By AI agents, Wed Nov 11 2026. No macro, syntax, notation, axiom, sorry.
-/
import Derived.Test.YtdljljnjijkbjaaFmtRows
import Derived.LaidByTextLater
import Derived.SevenTiedAt
import Derived.LaidSub
import Derived.LaidOnce
namespace Go.Proofs.YtdljljnjijkbjaaFmt
open Go
set_option maxRecDepth 100000
theorem seatTie1 : Tryf.prog.laidByTextLater [("github.com/yuin/gopher-lua.opProps", Rows.laid_github_com_yuin_gopher_lua_opProps)] [.widerDeep] true :=
  Program.laidByTextLater_by_one 61 8 253 (by kernel_rfl) (by kernel_rfl) (by kernel_rfl) (by kernel_rfl) (by kernel_rfl) (by kernel_rfl) (fun _ _ => by kernel_rfl)
theorem noOwnUnsafe : Tryf.pinned.checked.prog.headLifts.contains "ownunsafe" = false := by kernel_rfl
theorem tie : Tryf.prog.laidByTextLater [("github.com/yuin/gopher-lua.opProps", Rows.laid_github_com_yuin_gopher_lua_opProps)] [.widerDeep] true :=
  Program.laidByTextLater.sub seatTie1 ["github.com/yuin/gopher-lua.opProps"] (by kernel_rfl) (by kernel_rfl)
theorem fnNewFunctionProtoIsEmpty_row_tie : Rows.fnNewFunctionProtoIsEmptyRow.laidByTextAt .later Tryf.pinned [.widerDeep] true :=
  OpenClaim.laidByTextAt_later rfl rfl tie noOwnUnsafe
theorem fnStrCountOnlyTouchesHeader_row_tie : Rows.fnStrCountOnlyTouchesHeaderRow.laidByTextAt .later Tryf.pinned [.widerDeep] true :=
  OpenClaim.laidByTextAt_later rfl rfl tie noOwnUnsafe
theorem fnStringIsDedentedStr_row_tie : Rows.fnStringIsDedentedStrRow.laidByTextAt .later Tryf.pinned [.widerDeep] true :=
  OpenClaim.laidByTextAt_later rfl rfl tie noOwnUnsafe
end Go.Proofs.YtdljljnjijkbjaaFmt
