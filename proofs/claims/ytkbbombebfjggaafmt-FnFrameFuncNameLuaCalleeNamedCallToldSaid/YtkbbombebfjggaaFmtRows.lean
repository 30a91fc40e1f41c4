/-
  No cell of these rows narrows 'for every input' (looked for: loops, veiled, ifaces, maps, wideKeys, modest, calm, conditions, laid).
  DERIVED. THE GIVEN ROWS OF THIS SEAT. 2 by the template 'for every input the law returns true; each argument reads behind the call as it read before'; 0 by the template 'total and deterministic' (their statements: YtkbbombebfjggaaFmtTotals.lean).
  GIVEN WITH THE SEED: the statements are not yours to turn. If you find one false, say at which input.
  Laid BY PROGRAM, IN A SANDBOX (cutbox-rows.mjs): the forced cells as the released guide's own fill.sh prints them over the translation be7f52e81f2bab47… (all of the seat's roots in one cut). By AI agents, Wed Nov 11 2026. No macro, syntax, notation, axiom, sorry.
-/
import Derived.Test.YtkbbombebfjggaaFmtChecked
import GoSem.Claim
import GoSem.ClaimJoined
import GoSem.ClaimMapViews
import Derived.JoinedTies
import Derived.KernelRfl
namespace Go.Proofs.YtkbbombebfjggaaFmt
/- THE CELL 'sum', in the pinned program and in every row, IS THE sha256 OF THE DUMP (.gsa) THAT YtkbbombebfjggaaFmtProg.lean LOADS. Nothing in Lean hashes anything: it is a label: what it is worth is what the hold of that sum in a sandbox is worth. -/
noncomputable def Tryf.pinned : Pinned := { name := "ytkbbombebfjggaafmt", sum := "be7f52e81f2bab477c4dc1ef2eddf862268d8e6fdf30fca91684d155ca759d6e", checked := Tryf.checked }
namespace Rows
def none {H : Type} : Left H := { results := [], args := [] }

/-- 'n005_144.FnFrameFuncNameLuaCalleeNamedCall': WHATEVER THE INPUT: true; the input reads as it did. -/
def fnFrameFuncNameLuaCalleeNamedCallSpec : ChangeSpec := { name := "fnFrameFuncNameLuaCalleeNamedCall", fn := fun _ => fun
  | [d1, d2, d3, d4, d5, d6, d7] => { results := [.lit (.bool true)], args := [d1, d2, d3, d4, d5, d6, d7] }
  | _ => none }
def fnFrameFuncNameLuaCalleeNamedCallRow : OpenClaim := { program := "ytkbbombebfjggaafmt", sum := "be7f52e81f2bab477c4dc1ef2eddf862268d8e6fdf30fca91684d155ca759d6e", func := "github.com/yuin/gopher-lua/n005_144.FnFrameFuncNameLuaCalleeNamedCall", spec := "fnFrameFuncNameLuaCalleeNamedCall", stops := ["fmt.Sprintf"], inPlace := ["fmt.Sprintf"], apart := false }
/-- NO THEOREM (fmt's text is open here; it may be false): for the released tool's asking of the row's closed facts alone. THE STATEMENT IS 'FnFrameFuncNameLuaCalleeNamedCallToldSaid' (YtkbbombebfjggaaFmtCards.lean). -/
def FnFrameFuncNameLuaCalleeNamedCallFormAsk : Prop := fnFrameFuncNameLuaCalleeNamedCallRow.holds Tryf.pinned (OpenSpec.ofChange fnFrameFuncNameLuaCalleeNamedCallSpec)

/-- ITS FALSE NEIGHBOUR: 'it returns false'. Refute it at one input. -/
def fnFrameFuncNameLuaCalleeNamedCallWrong : ChangeSpec := { name := "fnFrameFuncNameLuaCalleeNamedCall", fn := fun _ => fun
  | [d1, d2, d3, d4, d5, d6, d7] => { results := [.lit (.bool false)], args := [d1, d2, d3, d4, d5, d6, d7] }
  | _ => none }
def FnFrameFuncNameLuaCalleeNamedCallWrongFormAsk : Prop := fnFrameFuncNameLuaCalleeNamedCallRow.holds Tryf.pinned (OpenSpec.ofChange fnFrameFuncNameLuaCalleeNamedCallWrong)

/-- 'n005_144.FnFrameFuncNameGoCallee': WHATEVER THE INPUT: true; the input reads as it did. -/
def fnFrameFuncNameGoCalleeSpec : ChangeSpec := { name := "fnFrameFuncNameGoCallee", fn := fun _ => fun
  | [d1, d2, d3, d4, d5, d6, d7] => { results := [.lit (.bool true)], args := [d1, d2, d3, d4, d5, d6, d7] }
  | _ => none }
def fnFrameFuncNameGoCalleeRow : OpenClaim := { program := "ytkbbombebfjggaafmt", sum := "be7f52e81f2bab477c4dc1ef2eddf862268d8e6fdf30fca91684d155ca759d6e", func := "github.com/yuin/gopher-lua/n005_144.FnFrameFuncNameGoCallee", spec := "fnFrameFuncNameGoCallee", stops := ["fmt.Sprintf"], inPlace := ["fmt.Sprintf"], apart := false }
/-- NO THEOREM (fmt's text is open here; it may be false): for the released tool's asking of the row's closed facts alone. THE STATEMENT IS 'FnFrameFuncNameGoCalleeToldSaid' (YtkbbombebfjggaaFmtCards.lean). -/
def FnFrameFuncNameGoCalleeFormAsk : Prop := fnFrameFuncNameGoCalleeRow.holds Tryf.pinned (OpenSpec.ofChange fnFrameFuncNameGoCalleeSpec)

/-- ITS FALSE NEIGHBOUR: 'it returns false'. Refute it at one input. -/
def fnFrameFuncNameGoCalleeWrong : ChangeSpec := { name := "fnFrameFuncNameGoCallee", fn := fun _ => fun
  | [d1, d2, d3, d4, d5, d6, d7] => { results := [.lit (.bool false)], args := [d1, d2, d3, d4, d5, d6, d7] }
  | _ => none }
def FnFrameFuncNameGoCalleeWrongFormAsk : Prop := fnFrameFuncNameGoCalleeRow.holds Tryf.pinned (OpenSpec.ofChange fnFrameFuncNameGoCalleeWrong)

end Rows
end Go.Proofs.YtkbbombebfjggaaFmt
