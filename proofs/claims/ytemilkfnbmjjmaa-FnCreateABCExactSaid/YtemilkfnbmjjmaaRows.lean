/-
  No cell of these rows narrows 'for every input' (looked for: loops, veiled, ifaces, maps, wideKeys, modest, calm, conditions, laid).
  DERIVED. THE GIVEN ROWS OF THIS SEAT. 8 by the template 'for every input the law returns true; each argument reads behind the call as it read before'; 0 by the template 'total and deterministic' (their statements: YtemilkfnbmjjmaaTotals.lean).
  GIVEN WITH THE SEED: the statements are not yours to turn. If you find one false, say at which input.
  Laid BY PROGRAM, IN A SANDBOX (cutbox-rows.mjs): the forced cells as the released guide's own fill.sh prints them over the translation 3116490cc7f26b2a… (all of the seat's roots in one cut). By AI agents, Wed Nov 11 2026. No macro, syntax, notation, axiom, sorry.
-/
import Derived.Test.YtemilkfnbmjjmaaChecked
import GoSem.Claim
import GoSem.ClaimJoined
import GoSem.ClaimMapViews
import Derived.JoinedTies
import Derived.KernelRfl
namespace Go.Proofs.Ytemilkfnbmjjmaa
/- THE CELL 'sum', in the pinned program and in every row, IS THE sha256 OF THE DUMP (.gsa) THAT YtemilkfnbmjjmaaProg.lean LOADS. Nothing in Lean hashes anything: it is a label: what it is worth is what the hold of that sum in a sandbox is worth. -/
noncomputable def Try.pinned : Pinned := { name := "ytemilkfnbmjjmaa", sum := "3116490cc7f26b2a89e801e3d8cd45040bf650ce00f48110633349135bcad9d6", checked := Try.checked }
namespace Rows
def none {H : Type} : Left H := { results := [], args := [] }

/-- 'n005_13.FnIsKExact': WHATEVER THE INPUT: true; the input reads as it did. -/
def fnIsKExactSpec : ChangeSpec := { name := "fnIsKExact", fn := fun _ => fun
  | [d] => { results := [.lit (.bool true)], args := [d] }
  | _ => none }
def fnIsKExactRow : OpenClaim := { program := "ytemilkfnbmjjmaa", sum := "3116490cc7f26b2a89e801e3d8cd45040bf650ce00f48110633349135bcad9d6", func := "github.com/yuin/gopher-lua/n005_13.FnIsKExact", spec := "fnIsKExact", apart := false }
def FnIsKExactSaid : Prop := fnIsKExactRow.holds Try.pinned (OpenSpec.ofChange fnIsKExactSpec)

/-- ITS FALSE NEIGHBOUR: 'it returns false'. Refute it at one input. -/
def fnIsKExactWrong : ChangeSpec := { name := "fnIsKExact", fn := fun _ => fun
  | [d] => { results := [.lit (.bool false)], args := [d] }
  | _ => none }
def FnIsKExactWrongFalsely : Prop := fnIsKExactRow.holds Try.pinned (OpenSpec.ofChange fnIsKExactWrong)

/-- 'n005_13.FnCreateABCExact': WHATEVER THE INPUT: true; the input reads as it did. -/
def fnCreateABCExactSpec : ChangeSpec := { name := "fnCreateABCExact", fn := fun _ => fun
  | [d1, d2, d3, d4] => { results := [.lit (.bool true)], args := [d1, d2, d3, d4] }
  | _ => none }
def fnCreateABCExactRow : OpenClaim := { program := "ytemilkfnbmjjmaa", sum := "3116490cc7f26b2a89e801e3d8cd45040bf650ce00f48110633349135bcad9d6", func := "github.com/yuin/gopher-lua/n005_13.FnCreateABCExact", spec := "fnCreateABCExact", apart := false }
def FnCreateABCExactSaid : Prop := fnCreateABCExactRow.holds Try.pinned (OpenSpec.ofChange fnCreateABCExactSpec)

/-- ITS FALSE NEIGHBOUR: 'it returns false'. Refute it at one input. -/
def fnCreateABCExactWrong : ChangeSpec := { name := "fnCreateABCExact", fn := fun _ => fun
  | [d1, d2, d3, d4] => { results := [.lit (.bool false)], args := [d1, d2, d3, d4] }
  | _ => none }
def FnCreateABCExactWrongFalsely : Prop := fnCreateABCExactRow.holds Try.pinned (OpenSpec.ofChange fnCreateABCExactWrong)

/-- 'n005_13.FnCreateABxExact': WHATEVER THE INPUT: true; the input reads as it did. -/
def fnCreateABxExactSpec : ChangeSpec := { name := "fnCreateABxExact", fn := fun _ => fun
  | [d1, d2, d3] => { results := [.lit (.bool true)], args := [d1, d2, d3] }
  | _ => none }
def fnCreateABxExactRow : OpenClaim := { program := "ytemilkfnbmjjmaa", sum := "3116490cc7f26b2a89e801e3d8cd45040bf650ce00f48110633349135bcad9d6", func := "github.com/yuin/gopher-lua/n005_13.FnCreateABxExact", spec := "fnCreateABxExact", apart := false }
def FnCreateABxExactSaid : Prop := fnCreateABxExactRow.holds Try.pinned (OpenSpec.ofChange fnCreateABxExactSpec)

/-- ITS FALSE NEIGHBOUR: 'it returns false'. Refute it at one input. -/
def fnCreateABxExactWrong : ChangeSpec := { name := "fnCreateABxExact", fn := fun _ => fun
  | [d1, d2, d3] => { results := [.lit (.bool false)], args := [d1, d2, d3] }
  | _ => none }
def FnCreateABxExactWrongFalsely : Prop := fnCreateABxExactRow.holds Try.pinned (OpenSpec.ofChange fnCreateABxExactWrong)

/-- 'n005_13.FnCreateASbxExact': WHATEVER THE INPUT: true; the input reads as it did. -/
def fnCreateASbxExactSpec : ChangeSpec := { name := "fnCreateASbxExact", fn := fun _ => fun
  | [d1, d2, d3] => { results := [.lit (.bool true)], args := [d1, d2, d3] }
  | _ => none }
def fnCreateASbxExactRow : OpenClaim := { program := "ytemilkfnbmjjmaa", sum := "3116490cc7f26b2a89e801e3d8cd45040bf650ce00f48110633349135bcad9d6", func := "github.com/yuin/gopher-lua/n005_13.FnCreateASbxExact", spec := "fnCreateASbxExact", apart := false }
def FnCreateASbxExactSaid : Prop := fnCreateASbxExactRow.holds Try.pinned (OpenSpec.ofChange fnCreateASbxExactSpec)

/-- ITS FALSE NEIGHBOUR: 'it returns false'. Refute it at one input. -/
def fnCreateASbxExactWrong : ChangeSpec := { name := "fnCreateASbxExact", fn := fun _ => fun
  | [d1, d2, d3] => { results := [.lit (.bool false)], args := [d1, d2, d3] }
  | _ => none }
def FnCreateASbxExactWrongFalsely : Prop := fnCreateASbxExactRow.holds Try.pinned (OpenSpec.ofChange fnCreateASbxExactWrong)

/-- 'n005_13.FnCreateABxFieldsRoundTrip': WHATEVER THE INPUT: true; the input reads as it did. -/
def fnCreateABxFieldsRoundTripSpec : ChangeSpec := { name := "fnCreateABxFieldsRoundTrip", fn := fun _ => fun
  | [d1, d2, d3] => { results := [.lit (.bool true)], args := [d1, d2, d3] }
  | _ => none }
def fnCreateABxFieldsRoundTripRow : OpenClaim := { program := "ytemilkfnbmjjmaa", sum := "3116490cc7f26b2a89e801e3d8cd45040bf650ce00f48110633349135bcad9d6", func := "github.com/yuin/gopher-lua/n005_13.FnCreateABxFieldsRoundTrip", spec := "fnCreateABxFieldsRoundTrip", apart := false }
def FnCreateABxFieldsRoundTripSaid : Prop := fnCreateABxFieldsRoundTripRow.holds Try.pinned (OpenSpec.ofChange fnCreateABxFieldsRoundTripSpec)

/-- ITS FALSE NEIGHBOUR: 'it returns false'. Refute it at one input. -/
def fnCreateABxFieldsRoundTripWrong : ChangeSpec := { name := "fnCreateABxFieldsRoundTrip", fn := fun _ => fun
  | [d1, d2, d3] => { results := [.lit (.bool false)], args := [d1, d2, d3] }
  | _ => none }
def FnCreateABxFieldsRoundTripWrongFalsely : Prop := fnCreateABxFieldsRoundTripRow.holds Try.pinned (OpenSpec.ofChange fnCreateABxFieldsRoundTripWrong)

/-- 'n005_13.FnCreateASbxFieldsRoundTrip': WHATEVER THE INPUT: true; the input reads as it did. -/
def fnCreateASbxFieldsRoundTripSpec : ChangeSpec := { name := "fnCreateASbxFieldsRoundTrip", fn := fun _ => fun
  | [d1, d2, d3] => { results := [.lit (.bool true)], args := [d1, d2, d3] }
  | _ => none }
def fnCreateASbxFieldsRoundTripRow : OpenClaim := { program := "ytemilkfnbmjjmaa", sum := "3116490cc7f26b2a89e801e3d8cd45040bf650ce00f48110633349135bcad9d6", func := "github.com/yuin/gopher-lua/n005_13.FnCreateASbxFieldsRoundTrip", spec := "fnCreateASbxFieldsRoundTrip", apart := false }
def FnCreateASbxFieldsRoundTripSaid : Prop := fnCreateASbxFieldsRoundTripRow.holds Try.pinned (OpenSpec.ofChange fnCreateASbxFieldsRoundTripSpec)

/-- ITS FALSE NEIGHBOUR: 'it returns false'. Refute it at one input. -/
def fnCreateASbxFieldsRoundTripWrong : ChangeSpec := { name := "fnCreateASbxFieldsRoundTrip", fn := fun _ => fun
  | [d1, d2, d3] => { results := [.lit (.bool false)], args := [d1, d2, d3] }
  | _ => none }
def FnCreateASbxFieldsRoundTripWrongFalsely : Prop := fnCreateASbxFieldsRoundTripRow.holds Try.pinned (OpenSpec.ofChange fnCreateASbxFieldsRoundTripWrong)

/-- 'n005_13.FnCreateABCFieldsRoundTrip': WHATEVER THE INPUT: true; the input reads as it did. -/
def fnCreateABCFieldsRoundTripSpec : ChangeSpec := { name := "fnCreateABCFieldsRoundTrip", fn := fun _ => fun
  | [d1, d2, d3, d4] => { results := [.lit (.bool true)], args := [d1, d2, d3, d4] }
  | _ => none }
def fnCreateABCFieldsRoundTripRow : OpenClaim := { program := "ytemilkfnbmjjmaa", sum := "3116490cc7f26b2a89e801e3d8cd45040bf650ce00f48110633349135bcad9d6", func := "github.com/yuin/gopher-lua/n005_13.FnCreateABCFieldsRoundTrip", spec := "fnCreateABCFieldsRoundTrip", apart := false }
def FnCreateABCFieldsRoundTripSaid : Prop := fnCreateABCFieldsRoundTripRow.holds Try.pinned (OpenSpec.ofChange fnCreateABCFieldsRoundTripSpec)

/-- ITS FALSE NEIGHBOUR: 'it returns false'. Refute it at one input. -/
def fnCreateABCFieldsRoundTripWrong : ChangeSpec := { name := "fnCreateABCFieldsRoundTrip", fn := fun _ => fun
  | [d1, d2, d3, d4] => { results := [.lit (.bool false)], args := [d1, d2, d3, d4] }
  | _ => none }
def FnCreateABCFieldsRoundTripWrongFalsely : Prop := fnCreateABCFieldsRoundTripRow.holds Try.pinned (OpenSpec.ofChange fnCreateABCFieldsRoundTripWrong)

/-- 'n005_13.FnIsKRkEncoding': WHATEVER THE INPUT: true; the input reads as it did. -/
def fnIsKRkEncodingSpec : ChangeSpec := { name := "fnIsKRkEncoding", fn := fun _ => fun
  | [d] => { results := [.lit (.bool true)], args := [d] }
  | _ => none }
def fnIsKRkEncodingRow : OpenClaim := { program := "ytemilkfnbmjjmaa", sum := "3116490cc7f26b2a89e801e3d8cd45040bf650ce00f48110633349135bcad9d6", func := "github.com/yuin/gopher-lua/n005_13.FnIsKRkEncoding", spec := "fnIsKRkEncoding", apart := false }
def FnIsKRkEncodingSaid : Prop := fnIsKRkEncodingRow.holds Try.pinned (OpenSpec.ofChange fnIsKRkEncodingSpec)

/-- ITS FALSE NEIGHBOUR: 'it returns false'. Refute it at one input. -/
def fnIsKRkEncodingWrong : ChangeSpec := { name := "fnIsKRkEncoding", fn := fun _ => fun
  | [d] => { results := [.lit (.bool false)], args := [d] }
  | _ => none }
def FnIsKRkEncodingWrongFalsely : Prop := fnIsKRkEncodingRow.holds Try.pinned (OpenSpec.ofChange fnIsKRkEncodingWrong)

/- THE SECOND FORM. 'bulk': how many values and letters a reading holds, each counted each time it is reached (what is shared counts as often as it is met; a slice's spare places count too). A statement '..UptoSaid' is the law's where the arguments, and the package variables that the reading takes, are together of bulk at most 1048576: NARROWER than '..Said'. Prove '..Said' where nothing that the law and all that it calls make is longer than what came in: it says more and counts as full. Else prove '..UptoSaid'. A law counts once. -/
mutual
def uptoBulk {H : Type} : DataW H → Nat
  | .lit (.string bytes) => bytes.length + 1
  | .lit _ => 1
  | .nil => 1
  | .ptr d => uptoBulk d + 1
  | .slice elems spare => uptoBulkAll elems + uptoBulkAll spare + 1
  | .agg parts => uptoBulkAll parts + 1
  | .iface _ d => uptoBulk d + 1
  | .map entries => uptoBulkEntries entries + 1
  | .held _ => 1
def uptoBulkAll {H : Type} : List (DataW H) → Nat
  | [] => 0
  | d :: r => uptoBulk d + uptoBulkAll r
def uptoBulkEntries {H : Type} : List (Lit × DataW H) → Nat
  | [] => 0
  | x :: r => uptoBulkEntry x + uptoBulkEntries r
def uptoBulkEntry {H : Type} : Lit × DataW H → Nat
  | (.string bytes, d) => bytes.length + uptoBulk d + 1
  | (_, d) => uptoBulk d + 1
 end
def uptoSmall : (H : Type) → List (DataW H) → Bool := fun _ ds => decide (uptoBulkAll ds ≤ 1048576)
def OpenSpec.upto (s : _root_.Go.ChangeSpec) : _root_.Go.OpenSpec := { _root_.Go.OpenSpec.ofChange s with cond := some uptoSmall }

/-- 'n005_13.FnIsKExact', WHERE WHAT IT READS IS OF BULK AT MOST 1048576: true; the input reads as it did. -/
def fnIsKExactUptoRow : OpenClaim := { program := "ytemilkfnbmjjmaa", sum := "3116490cc7f26b2a89e801e3d8cd45040bf650ce00f48110633349135bcad9d6", func := "github.com/yuin/gopher-lua/n005_13.FnIsKExact", spec := "fnIsKExact", apart := false, narrowed := true }
def FnIsKExactUptoSaid : Prop := fnIsKExactUptoRow.holds Try.pinned (OpenSpec.upto fnIsKExactSpec)

/-- 'n005_13.FnCreateABCExact', WHERE WHAT IT READS IS OF BULK AT MOST 1048576: true; the input reads as it did. -/
def fnCreateABCExactUptoRow : OpenClaim := { program := "ytemilkfnbmjjmaa", sum := "3116490cc7f26b2a89e801e3d8cd45040bf650ce00f48110633349135bcad9d6", func := "github.com/yuin/gopher-lua/n005_13.FnCreateABCExact", spec := "fnCreateABCExact", apart := false, narrowed := true }
def FnCreateABCExactUptoSaid : Prop := fnCreateABCExactUptoRow.holds Try.pinned (OpenSpec.upto fnCreateABCExactSpec)

/-- 'n005_13.FnCreateABxExact', WHERE WHAT IT READS IS OF BULK AT MOST 1048576: true; the input reads as it did. -/
def fnCreateABxExactUptoRow : OpenClaim := { program := "ytemilkfnbmjjmaa", sum := "3116490cc7f26b2a89e801e3d8cd45040bf650ce00f48110633349135bcad9d6", func := "github.com/yuin/gopher-lua/n005_13.FnCreateABxExact", spec := "fnCreateABxExact", apart := false, narrowed := true }
def FnCreateABxExactUptoSaid : Prop := fnCreateABxExactUptoRow.holds Try.pinned (OpenSpec.upto fnCreateABxExactSpec)

/-- 'n005_13.FnCreateASbxExact', WHERE WHAT IT READS IS OF BULK AT MOST 1048576: true; the input reads as it did. -/
def fnCreateASbxExactUptoRow : OpenClaim := { program := "ytemilkfnbmjjmaa", sum := "3116490cc7f26b2a89e801e3d8cd45040bf650ce00f48110633349135bcad9d6", func := "github.com/yuin/gopher-lua/n005_13.FnCreateASbxExact", spec := "fnCreateASbxExact", apart := false, narrowed := true }
def FnCreateASbxExactUptoSaid : Prop := fnCreateASbxExactUptoRow.holds Try.pinned (OpenSpec.upto fnCreateASbxExactSpec)

/-- 'n005_13.FnCreateABxFieldsRoundTrip', WHERE WHAT IT READS IS OF BULK AT MOST 1048576: true; the input reads as it did. -/
def fnCreateABxFieldsRoundTripUptoRow : OpenClaim := { program := "ytemilkfnbmjjmaa", sum := "3116490cc7f26b2a89e801e3d8cd45040bf650ce00f48110633349135bcad9d6", func := "github.com/yuin/gopher-lua/n005_13.FnCreateABxFieldsRoundTrip", spec := "fnCreateABxFieldsRoundTrip", apart := false, narrowed := true }
def FnCreateABxFieldsRoundTripUptoSaid : Prop := fnCreateABxFieldsRoundTripUptoRow.holds Try.pinned (OpenSpec.upto fnCreateABxFieldsRoundTripSpec)

/-- 'n005_13.FnCreateASbxFieldsRoundTrip', WHERE WHAT IT READS IS OF BULK AT MOST 1048576: true; the input reads as it did. -/
def fnCreateASbxFieldsRoundTripUptoRow : OpenClaim := { program := "ytemilkfnbmjjmaa", sum := "3116490cc7f26b2a89e801e3d8cd45040bf650ce00f48110633349135bcad9d6", func := "github.com/yuin/gopher-lua/n005_13.FnCreateASbxFieldsRoundTrip", spec := "fnCreateASbxFieldsRoundTrip", apart := false, narrowed := true }
def FnCreateASbxFieldsRoundTripUptoSaid : Prop := fnCreateASbxFieldsRoundTripUptoRow.holds Try.pinned (OpenSpec.upto fnCreateASbxFieldsRoundTripSpec)

/-- 'n005_13.FnCreateABCFieldsRoundTrip', WHERE WHAT IT READS IS OF BULK AT MOST 1048576: true; the input reads as it did. -/
def fnCreateABCFieldsRoundTripUptoRow : OpenClaim := { program := "ytemilkfnbmjjmaa", sum := "3116490cc7f26b2a89e801e3d8cd45040bf650ce00f48110633349135bcad9d6", func := "github.com/yuin/gopher-lua/n005_13.FnCreateABCFieldsRoundTrip", spec := "fnCreateABCFieldsRoundTrip", apart := false, narrowed := true }
def FnCreateABCFieldsRoundTripUptoSaid : Prop := fnCreateABCFieldsRoundTripUptoRow.holds Try.pinned (OpenSpec.upto fnCreateABCFieldsRoundTripSpec)

/-- 'n005_13.FnIsKRkEncoding', WHERE WHAT IT READS IS OF BULK AT MOST 1048576: true; the input reads as it did. -/
def fnIsKRkEncodingUptoRow : OpenClaim := { program := "ytemilkfnbmjjmaa", sum := "3116490cc7f26b2a89e801e3d8cd45040bf650ce00f48110633349135bcad9d6", func := "github.com/yuin/gopher-lua/n005_13.FnIsKRkEncoding", spec := "fnIsKRkEncoding", apart := false, narrowed := true }
def FnIsKRkEncodingUptoSaid : Prop := fnIsKRkEncodingUptoRow.holds Try.pinned (OpenSpec.upto fnIsKRkEncodingSpec)

end Rows
end Go.Proofs.Ytemilkfnbmjjmaa
