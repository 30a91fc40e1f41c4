/- The walk of FnIdentRefTypeAskerOnlyLocalises: it returns true. (Under way.) -/
import Derived.Test.YtieiaojabkpkfaaFmtHelp128
import Derived.Test.YtieiaojabkpkfaaFmtBytes128
namespace Go.Proofs.YtieiaojabkpkfaaFmt
open Go.RowKit
set_option linter.unusedVariables false

set_option maxRecDepth 100000 in
theorem ZZnewFc_any (s : ByteArray) (par : Option Addr) (w : World) : Calls Tryf.prog 12 #[.string s, .pointer par] w (FcMade s par w) := by
  go_enter Tryf.func12, Tryf.ntmps12
  go_wp2_with fail
  refine (newFc_any s par _).mono ?_
  intro e w' hm
  obtain ⟨fc, F, g, rfl, h⟩ := hm
  go_wp2
  go_ret
  exact ⟨fc, F, g, rfl, h⟩

set_option maxRecDepth 100000 in
theorem ZZreg_any (β fc : Nat) (F : FcAt) (gbv pv : Value) (v : Nat → Value) (xs : List Value) (ss : List ByteArray) (s : ByteArray) (w : World) (h : Loc w β fc F gbv pv v xs ss) (hβ : β ≤ w.heap.size) (hn : ss.length < 200) :
    Calls Tryf.prog 21 #[.pointer (some ⟨fc, 0, none⟩), .string s] w (LocMore β fc F gbv pv v ss s w) := by
  go_enter Tryf.func21, Tryf.ntmps21
  go_wp2_with fail
  refine (regLocal_any β fc F gbv pv v xs ss s _ h hβ hn).mono ?_
  rintro e w' ⟨pv', v', xs', rfl, h1⟩
  go_wp2
  go_ret
  exact ⟨pv', v', xs', rfl, h1⟩

set_option maxRecDepth 100000 in
theorem ZZident_any (ctx cur : Option Addr) (q : ByteArray) (r : Int) (h0 : 0 ≤ r) (h2 : r ≤ 2) (w : World)
    (h : ∀ x w1, Turn w w1 (fun _ => False) → w1.cell? ⟨x, 2, none⟩ = some (.string q) → Calls Tryf.prog 37 #[.pointer ctx, .pointer cur, .pointer (some ⟨x, 0, none⟩)] w1 fun e w' => e = .returned (.int .i64 r) ∧ Turn w1 w' (fun _ => False)) :
    Calls Tryf.prog 22 #[.pointer ctx, .pointer cur, .string q] w fun e w' => e = .returned (.int .i64 r) ∧ Turn w w' (fun _ => False) := by
  go_enter Tryf.func22, Tryf.ntmps22
  go_wp2_with fail
  have T := (Turn.refl w (fun _ => False)).alloc (.cells #[.int .i64 0, .int .i64 0, .string q] 73)
  have hb := alloc_blk w (.cells #[.int .i64 0, .int .i64 0, .string q] 73)
  refine (h w.heap.size _ T (cell_of_blk hb 2 (.string q) rfl)).mono ?_
  rintro e w' ⟨rfl, hT⟩
  go_wp2
  go_ret
  exact ⟨rfl, T.trans hT⟩

/-- what one context answers about itself, with the answer of its parent behind it -/
theorem ident_self {β fc x : Nat} {F : FcAt} {gbv pv : Value} {v : Nat → Value} {xs : List Value} {ss : List ByteArray} {q : ByteArray} {w : World} (r : Int) (h : Loc w β fc F gbv pv v xs ss) (hn : ss.length ≤ 200) (hx : w.cell? ⟨x, 2, none⟩ = some (.string q)) [Decidable (Has ss q)]
    (hup : ∀ w1, Turn w w1 (fun _ => False) → Calls Tryf.prog 37 #[.pointer (some ⟨fc, 0, none⟩), .pointer F.par, .pointer (some ⟨x, 0, none⟩)] w1 fun e w' => e = .returned (.int .i64 r) ∧ Turn w1 w' (fun _ => False)) :
    Calls Tryf.prog 37 #[.pointer (some ⟨fc, 0, none⟩), .pointer (some ⟨fc, 0, none⟩), .pointer (some ⟨x, 0, none⟩)] w fun e w' => e = .returned (.int .i64 (if Has ss q then 2 else r)) ∧ Turn w w' (fun _ => False) := by
  by_cases hs : Has ss q
  · rw [if_pos hs]
    exact identRef_own β fc x F gbv pv v xs ss q w h hn hx hs
  · rw [if_neg hs]
    exact identRef_up β fc x _ F gbv pv v xs ss q w r h hn hx hs hup

/-- what a context answers when another asks -/
theorem ident_for {β fc ctx x : Nat} {F : FcAt} {gbv pv : Value} {v : Nat → Value} {xs : List Value} {ss : List ByteArray} {q : ByteArray} {w : World} {X : Array Value} (r : Int) (h : Loc w β fc F gbv pv v xs ss) (hn : ss.length ≤ 200) (hx : w.cell? ⟨x, 2, none⟩ = some (.string q)) (hc : w.heap[ctx]? = some (.cells X 61 (0, 0))) (hne : fc ≠ ctx) [Decidable (Has ss q)]
    (hup : ∀ w1, Turn w w1 (fun _ => False) → Calls Tryf.prog 37 #[.pointer (some ⟨ctx, 0, none⟩), .pointer F.par, .pointer (some ⟨x, 0, none⟩)] w1 fun e w' => e = .returned (.int .i64 r) ∧ Turn w1 w' (fun _ => False)) :
    Calls Tryf.prog 37 #[.pointer (some ⟨ctx, 0, none⟩), .pointer (some ⟨fc, 0, none⟩), .pointer (some ⟨x, 0, none⟩)] w fun e w' => e = .returned (.int .i64 (if Has ss q then 1 else r)) ∧ Turn w w' (fun _ => False) := by
  by_cases hs : Has ss q
  · rw [if_pos hs]
    exact identRef_other β fc ctx x F gbv pv v xs ss q w h hn hx hs X hc hne
  · rw [if_neg hs]
    exact identRef_up β fc x _ F gbv pv v xs ss q w r h hn hx hs hup
end Go.Proofs.YtieiaojabkpkfaaFmt
