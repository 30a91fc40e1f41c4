/- The contracts of the instruction word's readers and setters that patchCode and its laws call; of the laws' own small helpers. -/
import Derived.Test.YtieiaojabkpkfaaFmtOps136
import Derived.Test.YtieiaojabkpkfaaFmtCode
import Derived.Test.YtieiaojabkpkfaaFmtInts
import Derived.BigQuiet
namespace Go.Proofs.YtieiaojabkpkfaaFmt
open Go.RowKit
set_option linter.unusedVariables false

def opI (x : Int) : Int := x / 67108864
def aI (x : Int) : Int := x / 262144 % 256
def bI (x : Int) : Int := x % 512
def cI (x : Int) : Int := x / 512 % 512
/-- a word of 32 bits -/
def W32 (x : Int) : Prop := 0 ≤ x ∧ x < 4294967296
theorem opI_bd {x : Int} (h : W32 x) : 0 ≤ opI x ∧ opI x < 64 := by unfold W32 at h; unfold opI; omega
theorem aI_bd (x : Int) : 0 ≤ aI x ∧ aI x < 256 := by unfold aI; omega
theorem bI_bd (x : Int) : 0 ≤ bI x ∧ bI x < 512 := by unfold bI; omega
theorem cI_bd (x : Int) : 0 ≤ cI x ∧ cI x < 512 := by unfold cI; omega

theorem opGetOpCode_any (x : Int) (h : W32 x) (w : World) :
    Calls Tryf.prog 42 #[.int .u32 x] w fun e w' => e = .returned (.int .i64 (opI x)) ∧ w = w' := by
  obtain ⟨h0, h1⟩ := h
  unfold opI
  go_enter Tryf.func42, Tryf.ntmps42
  go_wp2
  go_ret
  exact ⟨rfl, rfl⟩

theorem opGetArgA_any (x : Int) (h : W32 x) (w : World) :
    Calls Tryf.prog 44 #[.int .u32 x] w fun e w' => e = .returned (.int .i64 (aI x)) ∧ w = w' := by
  obtain ⟨h0, h1⟩ := h
  go_enter Tryf.func44, Tryf.ntmps44
  go_wp2
  go_ret
  exact ⟨congrArg (fun t => Ending.returned (.int .i64 t)) (get_a' x h0 h1), rfl⟩

theorem opGetArgB_any (x : Int) (h : W32 x) (w : World) :
    Calls Tryf.prog 46 #[.int .u32 x] w fun e w' => e = .returned (.int .i64 (bI x)) ∧ w = w' := by
  obtain ⟨h0, h1⟩ := h
  go_enter Tryf.func46, Tryf.ntmps46
  go_wp2
  go_ret
  exact ⟨congrArg (fun t => Ending.returned (.int .i64 t)) (get_b x h0 h1), rfl⟩

theorem opGetArgC_any (x : Int) (h : W32 x) (w : World) :
    Calls Tryf.prog 45 #[.int .u32 x] w fun e w' => e = .returned (.int .i64 (cI x)) ∧ w = w' := by
  obtain ⟨h0, h1⟩ := h
  go_enter Tryf.func45, Tryf.ntmps45
  go_wp2
  go_ret
  exact ⟨congrArg (fun t => Ending.returned (.int .i64 t)) (get_c' x h0 h1), rfl⟩

theorem opSetOpCode_any (b o : Nat) (x v : Int) (w : World) (h : W32 x) (hc : w.cell? ⟨b, o, none⟩ = some (.int .u32 x)) (hf : w.frozen? ⟨b, o, none⟩ = false) :
    Calls Tryf.prog 61 #[.pointer (some ⟨b, o, none⟩), .int .i64 v] w fun e w' => e = .returned (.tuple #[]) ∧ w.setCell ⟨b, o, none⟩ (.int .u32 (setOp x v)) = w' := by
  obtain ⟨h0, h1⟩ := h
  go_enter Tryf.func61, Tryf.ntmps61
  go_wp2
  go_end0
  exact ⟨rfl, by rw [shl_op, setOp_eq x v h0 h1]⟩

theorem opSetArgC_any (b o : Nat) (x v : Int) (w : World) (h : W32 x) (hc : w.cell? ⟨b, o, none⟩ = some (.int .u32 x)) (hf : w.frozen? ⟨b, o, none⟩ = false) :
    Calls Tryf.prog 63 #[.pointer (some ⟨b, o, none⟩), .int .i64 v] w fun e w' => e = .returned (.tuple #[]) ∧ w.setCell ⟨b, o, none⟩ (.int .u32 (setC x v)) = w' := by
  obtain ⟨h0, h1⟩ := h
  go_enter Tryf.func63, Tryf.ntmps63
  go_wp2
  go_end0
  exact ⟨rfl, by rw [shl_c, setC_eq x v h0 h1]⟩

theorem intMin_any (a b : Int) (w : World) :
    Calls Tryf.prog 54 #[.int .i64 a, .int .i64 b] w fun e w' => e = .returned (.int .i64 (if a < b then a else b)) ∧ w = w' := by
  by_cases h : a < b
  · rw [if_pos h]
    go_enter Tryf.func54, Tryf.ntmps54
    go_wp2
    go_ret
    exact ⟨rfl, rfl⟩
  · rw [if_neg h]
    go_enter Tryf.func54, Tryf.ntmps54
    go_wp2
    go_ret
    exact ⟨rfl, rfl⟩

/-! ### the code store's setters and its list -/
set_option maxRecDepth 100000 in
theorem setOpCode_any (β c gc cc gl cl : Nat) (is ls : List Int) (k : Nat) (v : Int) (w : World) (h : Code w β c gc cc gl cl is ls) (hk : k < is.length) (hn : is.length ≤ 1048576) (x0 : W32 (is.getD k 0)) :
    Calls Tryf.prog 51 #[.pointer (some ⟨c, 0, none⟩), .int .i64 k, .int .i64 v] w fun e w' => e = .returned (.tuple #[]) ∧ w.setCell ⟨gc, k, none⟩ (.int .u32 (setOp (is.getD k 0) v)) = w' := by
  have hc := h.cell k hk
  have hf := h.codes.frozenAt k
  have c0 := cell_of_blk h.blk 0 (.slice (some ⟨gc, 0, none⟩) is.length cc) rfl
  generalize is.getD k 0 = x at hc x0
  have z1 : (k : Int) < (is.length : Int) := by omega
  go_enter Tryf.func51, Tryf.ntmps51
  go_wp2_with fail
  refine (opSetOpCode_any gc k x v _ x0 hc hf).mono ?_
  rintro e w' ⟨rfl, rfl⟩
  go_wp2
  go_end0
  exact ⟨rfl, rfl⟩

set_option maxRecDepth 100000 in
theorem setArgC_any (β c gc cc gl cl : Nat) (is ls : List Int) (k : Nat) (v : Int) (w : World) (h : Code w β c gc cc gl cl is ls) (hk : k < is.length) (hn : is.length ≤ 1048576) (x0 : W32 (is.getD k 0)) :
    Calls Tryf.prog 53 #[.pointer (some ⟨c, 0, none⟩), .int .i64 k, .int .i64 v] w fun e w' => e = .returned (.tuple #[]) ∧ w.setCell ⟨gc, k, none⟩ (.int .u32 (setC (is.getD k 0) v)) = w' := by
  have hc := h.cell k hk
  have hf := h.codes.frozenAt k
  have c0 := cell_of_blk h.blk 0 (.slice (some ⟨gc, 0, none⟩) is.length cc) rfl
  generalize is.getD k 0 = x at hc x0
  have z1 : (k : Int) < (is.length : Int) := by omega
  go_enter Tryf.func53, Tryf.ntmps53
  go_wp2_with fail
  refine (opSetArgC_any gc k x v _ x0 hc hf).mono ?_
  rintro e w' ⟨rfl, rfl⟩
  go_wp2
  go_end0
  exact ⟨rfl, rfl⟩

set_option maxRecDepth 100000 in
theorem list_any (β c gc cc gl cl : Nat) (is ls : List Int) (w : World) (h : Code w β c gc cc gl cl is ls) (hn : is.length ≤ 1048576) (hcc : is.length ≤ cc) :
    Calls Tryf.prog 35 #[.pointer (some ⟨c, 0, none⟩)] w fun e w' => ∃ q : Nat, e = .returned (.slice (some ⟨gc, 0, none⟩) is.length cc) ∧ w.drewN q = w' := by
  have c0 := cell_of_blk h.blk 0 (.slice (some ⟨gc, 0, none⟩) is.length cc) rfl
  have c2 := cell_of_blk h.blk 2 (.int .i64 is.length) rfl
  have z1 : (is.length : Int) ≤ (cc : Int) := by omega
  go_enter Tryf.func35, Tryf.ntmps35
  go_wp2_with fail
  go_quiet (fail)
  go_wp2
  go_ret
  exact ⟨nq, rfl, rfl⟩
end Go.Proofs.YtieiaojabkpkfaaFmt
