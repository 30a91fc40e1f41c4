/- The walks of the laws on eline, sline and isVarArgReturnExpr (folder n005_14): each call returns true. -/
import Derived.Test.YthcjbnfpcapaaaaRows
import Derived.WalkKit
import Derived.ProofKit
import Derived.OpenShut
import Derived.WalkLawsBesides
import Derived.WalkSpells
import Derived.Handy
import Derived.Lib.Hide
namespace Go.Proofs.Ythcjbnfpcapaaaa
open Go.RowKit
set_option linter.unusedVariables false

@[go_sem] theorem asCall (v : Value) (w : World) : (Instr.typeAssert (.iface 31 v) 35 31 true).run Try.prog w = .ok (.tuple #[v, .bool true]) w := by kernel_rfl
@[go_sem] theorem asComma (v : Value) (w : World) : (Instr.typeAssert (.iface 39 v) 35 39 true).run Try.prog w = .ok (.tuple #[v, .bool true]) w := by kernel_rfl
@[go_sem] theorem asNoCall (v : Value) (w : World) : (Instr.typeAssert (.iface 39 v) 35 31 true).run Try.prog w = .ok (.tuple #[.pointer none, .bool false]) w := by kernel_rfl

theorem ZZsline_any (a l : Int) (w : World) :
    Calls Try.prog 6 #[.int .i64 a, .int .i64 l] w fun e w' => e = .returned (.int .i64 a) ∧ Below w.heap.size w w' := by
  go_enter Try.func6, Try.ntmps6
  go_wp2
  go_ret
  exact ⟨rfl, by go_grown⟩

theorem ZZeline_zero (a : Int) (w : World) :
    Calls Try.prog 5 #[.int .i64 a, .int .i64 0] w fun e w' => e = .returned (.int .i64 a) ∧ Below w.heap.size w w' := by
  go_enter Try.func5, Try.ntmps5
  go_wp2
  go_ret
  exact ⟨rfl, by go_grown⟩

theorem ZZeline_last (a l : Int) (hl : (l == 0) = false) (w : World) :
    Calls Try.prog 5 #[.int .i64 a, .int .i64 l] w fun e w' => e = .returned (.int .i64 l) ∧ Below w.heap.size w w' := by
  go_enter Try.func5, Try.ntmps5
  go_wp2
  go_ret
  exact ⟨rfl, by go_grown⟩

theorem isV_call (b : Bool) (w : World) :
    Calls Try.prog 7 #[.bool b] w fun e w' => e = .returned (.bool !b) ∧ Below w.heap.size w w' := by
  go_enter Try.func7, Try.ntmps7
  go_wp2
  go_ret
  exact ⟨rfl, by go_grown⟩

theorem isV_comma (b : Bool) (w : World) :
    Calls Try.prog 8 #[.bool b] w fun e w' => e = .returned (.bool !b) ∧ Below w.heap.size w w' := by
  go_enter Try.func8, Try.ntmps8
  go_wp2
  go_ret
  exact ⟨rfl, by go_grown⟩

theorem walk_FnElineAgreesWithSline (a0 a1 a2 : Int) (w0 : (Lit.int .i64 a0).wf = true) (w1 : (Lit.int .i64 a1).wf = true) (w2 : (Lit.int .i64 a2).wf = true) (w : World) :
    Calls Try.prog 3 #[.int .i64 a0, .int .i64 a1, .int .i64 a2] w fun e w' => e = .returned (.bool true) ∧ Below w.heap.size w w' := by
  by_cases h : a2 = 0
  · subst h
    go_enter Try.func3, Try.ntmps3
    go_wp2_with fail
    refine (ZZeline_zero a0 _).mono ?_
    rintro e w1 ⟨rfl, hb1⟩
    go_wp2_with fail
    refine (ZZsline_any a0 0 _).mono ?_
    rintro e w2 ⟨rfl, hb2⟩
    go_wp2
    go_ret
    exact ⟨rfl, hb1.trans (hb2.mono hb1.size)⟩
  · have hl : (a2 == 0) = false := by simpa using h
    clear h
    go_enter Try.func3, Try.ntmps3
    go_wp2_with fail
    refine (ZZeline_zero a0 _).mono ?_
    rintro e w1 ⟨rfl, hb1⟩
    go_wp2_with fail
    refine (ZZsline_any a0 0 _).mono ?_
    rintro e w2 ⟨rfl, hb2⟩
    go_wp2_with fail
    refine (ZZeline_last a0 a2 hl _).mono ?_
    rintro e w3 ⟨rfl, hb3⟩
    go_wp2_with fail
    refine (ZZeline_last a1 a2 hl _).mono ?_
    rintro e w4 ⟨rfl, hb4⟩
    go_wp2
    go_ret
    have s1 := hb1.size
    have s2 := hb2.size
    have s3 := hb3.size
    exact ⟨rfl, hb1.trans ((hb2.mono s1).trans ((hb3.mono (by omega)).trans (hb4.mono (by omega))))⟩

theorem walk_FnIsVarArgAdjustFlips (a0 : Bool) (w : World) :
    Calls Try.prog 4 #[.bool a0] w fun e w' => e = .returned (.bool true) ∧ Below w.heap.size w w' := by
  cases a0
  all_goals
    go_enter Try.func4, Try.ntmps4
    go_wp2_with fail
    refine (isV_call _ _).mono ?_
    rintro e w1 ⟨rfl, hb1⟩
    go_wp2_with fail
    refine (isV_comma _ _).mono ?_
    rintro e w2 ⟨rfl, hb2⟩
    go_wp2_with fail
    refine (isV_call _ _).mono ?_
    rintro e w3 ⟨rfl, hb3⟩
    go_wp2_with fail
    refine (isV_comma _ _).mono ?_
    rintro e w4 ⟨rfl, hb4⟩
    go_wp2
    go_ret
    have s1 := hb1.size
    have s2 := hb2.size
    have s3 := hb3.size
    exact ⟨rfl, hb1.trans ((hb2.mono s1).trans ((hb3.mono (by omega)).trans (hb4.mono (by omega))))⟩
end Go.Proofs.Ythcjbnfpcapaaaa
