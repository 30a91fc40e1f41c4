/-
  No cell of these rows narrows 'for every input' (looked for: loops, veiled, ifaces, maps, wideKeys, modest, calm, conditions, laid).
  DERIVED. THE GIVEN ROWS OF THIS SEAT. 3 by the template 'for every input the law returns true; each argument reads behind the call as it read before'; 0 by the template 'total and deterministic' (their statements: YtdljljnjijkbjaaTotals.lean).
  GIVEN WITH THE SEED: the statements are not yours to turn. If you find one false, say at which input.
  Laid BY PROGRAM, IN A SANDBOX (cutbox-rows.mjs): the forced cells as the released guide's own fill.sh prints them over the translation 1cf7eae6688cc281… (all of the seat's roots in one cut). By AI agents, Wed Nov 11 2026. No macro, syntax, notation, axiom, sorry.
-/
import Derived.Test.YtdljljnjijkbjaaChecked
import GoSem.Claim
import GoSem.ClaimJoined
import GoSem.ClaimMapViews
import Derived.JoinedTies
import Derived.KernelRfl
namespace Go.Proofs.Ytdljljnjijkbjaa
/- THE CELL 'sum', in the pinned program and in every row, IS THE sha256 OF THE DUMP (.gsa) THAT YtdljljnjijkbjaaProg.lean LOADS. Nothing in Lean hashes anything: it is a label: what it is worth is what the hold of that sum in a sandbox is worth. -/
noncomputable def Try.pinned : Pinned := { name := "ytdljljnjijkbjaa", sum := "1cf7eae6688cc281fa1174903961959f20216c0fd8cb69a294aba7398a82c4d1", checked := Try.checked }
namespace Rows
def none {H : Type} : Left H := { results := [], args := [] }

/-- 'n005_15.FnUpvalueIndexStepsDownByOne': WHATEVER THE INPUT: true; the input reads as it did. -/
def fnUpvalueIndexStepsDownByOneSpec : ChangeSpec := { name := "fnUpvalueIndexStepsDownByOne", fn := fun _ => fun
  | [d] => { results := [.lit (.bool true)], args := [d] }
  | _ => none }
def fnUpvalueIndexStepsDownByOneRow : OpenClaim := { program := "ytdljljnjijkbjaa", sum := "1cf7eae6688cc281fa1174903961959f20216c0fd8cb69a294aba7398a82c4d1", func := "github.com/yuin/gopher-lua/n005_15.FnUpvalueIndexStepsDownByOne", spec := "fnUpvalueIndexStepsDownByOne", apart := false }
def FnUpvalueIndexStepsDownByOneSaid : Prop := fnUpvalueIndexStepsDownByOneRow.holds Try.pinned (OpenSpec.ofChange fnUpvalueIndexStepsDownByOneSpec)

/-- ITS FALSE NEIGHBOUR: 'it returns false'. Refute it at one input. -/
def fnUpvalueIndexStepsDownByOneWrong : ChangeSpec := { name := "fnUpvalueIndexStepsDownByOne", fn := fun _ => fun
  | [d] => { results := [.lit (.bool false)], args := [d] }
  | _ => none }
def FnUpvalueIndexStepsDownByOneWrongFalsely : Prop := fnUpvalueIndexStepsDownByOneRow.holds Try.pinned (OpenSpec.ofChange fnUpvalueIndexStepsDownByOneWrong)

/-- 'n005_15.FnUpvalueIndexDecodesToSlot': WHATEVER THE INPUT: true; the input reads as it did. -/
def fnUpvalueIndexDecodesToSlotSpec : ChangeSpec := { name := "fnUpvalueIndexDecodesToSlot", fn := fun _ => fun
  | [d] => { results := [.lit (.bool true)], args := [d] }
  | _ => none }
def fnUpvalueIndexDecodesToSlotRow : OpenClaim := { program := "ytdljljnjijkbjaa", sum := "1cf7eae6688cc281fa1174903961959f20216c0fd8cb69a294aba7398a82c4d1", func := "github.com/yuin/gopher-lua/n005_15.FnUpvalueIndexDecodesToSlot", spec := "fnUpvalueIndexDecodesToSlot", apart := false }
def FnUpvalueIndexDecodesToSlotSaid : Prop := fnUpvalueIndexDecodesToSlotRow.holds Try.pinned (OpenSpec.ofChange fnUpvalueIndexDecodesToSlotSpec)

/-- ITS FALSE NEIGHBOUR: 'it returns false'. Refute it at one input. -/
def fnUpvalueIndexDecodesToSlotWrong : ChangeSpec := { name := "fnUpvalueIndexDecodesToSlot", fn := fun _ => fun
  | [d] => { results := [.lit (.bool false)], args := [d] }
  | _ => none }
def FnUpvalueIndexDecodesToSlotWrongFalsely : Prop := fnUpvalueIndexDecodesToSlotRow.holds Try.pinned (OpenSpec.ofChange fnUpvalueIndexDecodesToSlotWrong)

/-- 'n005_15.FnNewFunctionProtoFresh': WHATEVER THE INPUT: true; the input reads as it did. -/
def fnNewFunctionProtoFreshSpec : ChangeSpec := { name := "fnNewFunctionProtoFresh", fn := fun _ => fun
  | [d1, d2] => { results := [.lit (.bool true)], args := [d1, d2] }
  | _ => none }
def fnNewFunctionProtoFreshRow : OpenClaim := { program := "ytdljljnjijkbjaa", sum := "1cf7eae6688cc281fa1174903961959f20216c0fd8cb69a294aba7398a82c4d1", func := "github.com/yuin/gopher-lua/n005_15.FnNewFunctionProtoFresh", spec := "fnNewFunctionProtoFresh", apart := false }
def FnNewFunctionProtoFreshSaid : Prop := fnNewFunctionProtoFreshRow.holds Try.pinned (OpenSpec.ofChange fnNewFunctionProtoFreshSpec)

/-- ITS FALSE NEIGHBOUR: 'it returns false'. Refute it at one input. -/
def fnNewFunctionProtoFreshWrong : ChangeSpec := { name := "fnNewFunctionProtoFresh", fn := fun _ => fun
  | [d1, d2] => { results := [.lit (.bool false)], args := [d1, d2] }
  | _ => none }
def FnNewFunctionProtoFreshWrongFalsely : Prop := fnNewFunctionProtoFreshRow.holds Try.pinned (OpenSpec.ofChange fnNewFunctionProtoFreshWrong)

/- THE SECOND FORM. 'bulk': how many values and letters a reading holds, each counted each time it is reached (what is shared counts as often as it is met; a slice's spare places count too). A statement '..UptoSaid' is the law's where the arguments, and the package variables that the reading takes, are together of bulk at most 1048576: NARROWER than '..Said'. Prove '..Said' where nothing that the law and all that it calls make is longer than what came in: it says more and counts as full. Else prove '..UptoSaid'. A law counts once. -/
mutual
def uptoBulk {H : Type} : DataW H → Nat
  | .lit (.string bytes) => bytes.length + 1
  | .lit _ => 1
  | .nil => 1
  | .ptr d => uptoBulk d + 1
  | .slice elems spare => uptoBulkAll elems + uptoBulkAll spare + 1
  | .agg parts => uptoBulkAll parts + 1
  | .iface _ d => uptoBulk d + 1
  | .map entries => uptoBulkEntries entries + 1
  | .held _ => 1
def uptoBulkAll {H : Type} : List (DataW H) → Nat
  | [] => 0
  | d :: r => uptoBulk d + uptoBulkAll r
def uptoBulkEntries {H : Type} : List (Lit × DataW H) → Nat
  | [] => 0
  | x :: r => uptoBulkEntry x + uptoBulkEntries r
def uptoBulkEntry {H : Type} : Lit × DataW H → Nat
  | (.string bytes, d) => bytes.length + uptoBulk d + 1
  | (_, d) => uptoBulk d + 1
 end
def uptoSmall : (H : Type) → List (DataW H) → Bool := fun _ ds => decide (uptoBulkAll ds ≤ 1048576)
def OpenSpec.upto (s : _root_.Go.ChangeSpec) : _root_.Go.OpenSpec := { _root_.Go.OpenSpec.ofChange s with cond := some uptoSmall }

/-- 'n005_15.FnUpvalueIndexStepsDownByOne', WHERE WHAT IT READS IS OF BULK AT MOST 1048576: true; the input reads as it did. -/
def fnUpvalueIndexStepsDownByOneUptoRow : OpenClaim := { program := "ytdljljnjijkbjaa", sum := "1cf7eae6688cc281fa1174903961959f20216c0fd8cb69a294aba7398a82c4d1", func := "github.com/yuin/gopher-lua/n005_15.FnUpvalueIndexStepsDownByOne", spec := "fnUpvalueIndexStepsDownByOne", apart := false, narrowed := true }
def FnUpvalueIndexStepsDownByOneUptoSaid : Prop := fnUpvalueIndexStepsDownByOneUptoRow.holds Try.pinned (OpenSpec.upto fnUpvalueIndexStepsDownByOneSpec)

/-- 'n005_15.FnUpvalueIndexDecodesToSlot', WHERE WHAT IT READS IS OF BULK AT MOST 1048576: true; the input reads as it did. -/
def fnUpvalueIndexDecodesToSlotUptoRow : OpenClaim := { program := "ytdljljnjijkbjaa", sum := "1cf7eae6688cc281fa1174903961959f20216c0fd8cb69a294aba7398a82c4d1", func := "github.com/yuin/gopher-lua/n005_15.FnUpvalueIndexDecodesToSlot", spec := "fnUpvalueIndexDecodesToSlot", apart := false, narrowed := true }
def FnUpvalueIndexDecodesToSlotUptoSaid : Prop := fnUpvalueIndexDecodesToSlotUptoRow.holds Try.pinned (OpenSpec.upto fnUpvalueIndexDecodesToSlotSpec)

/-- 'n005_15.FnNewFunctionProtoFresh', WHERE WHAT IT READS IS OF BULK AT MOST 1048576: true; the input reads as it did. -/
def fnNewFunctionProtoFreshUptoRow : OpenClaim := { program := "ytdljljnjijkbjaa", sum := "1cf7eae6688cc281fa1174903961959f20216c0fd8cb69a294aba7398a82c4d1", func := "github.com/yuin/gopher-lua/n005_15.FnNewFunctionProtoFresh", spec := "fnNewFunctionProtoFresh", apart := false, narrowed := true }
def FnNewFunctionProtoFreshUptoSaid : Prop := fnNewFunctionProtoFreshUptoRow.holds Try.pinned (OpenSpec.upto fnNewFunctionProtoFreshSpec)

end Rows
end Go.Proofs.Ytdljljnjijkbjaa
