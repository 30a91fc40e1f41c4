/- The plain law of FnStrCountOnlyTouchesHeader: where the first newline of a listing lies, and what stands ahead of it and from it on. No program in sight. -/
import Derived.Test.YtdljljnjijkbjaaFmtHelpC15
import Derived.Lib.ItoaNum
namespace Go.Proofs.YtdljljnjijkbjaaFmt
open Go.RowKit
set_option linter.unusedVariables false

/-- the first line without its newline -/
def hdB (d : List UInt8) (c l : Int) : List UInt8 := d ++ ([59, 32, 102, 117, 110, 99, 116, 105, 111, 110, 32, 91] ++ (Lib.itoa c ++ ([93, 32, 100, 101, 102, 105, 110, 105, 116, 105, 111, 110, 32, 40, 108, 101, 118, 101, 108, 32] ++ (Lib.itoa l ++ [41]))))
theorem hdL_eq (d : List UInt8) (c l : Int) : hdL d c l = hdB d c l ++ [10] := by simp [hdL, hdB]

/-- what stands behind the first line's newline -/
def restOf (d : List UInt8) (nu np nr : Int) (ls us : List ByteArray) : List UInt8 := ([upL d nu np nr] ++ loK d ls ls.length ++ uvK d us us.length ++ [[10]] ++ [enL d]).flatten
theorem listing_flat (d : List UInt8) (c l nu np nr : Int) (ls us : List ByteArray) : (listing d c l nu np nr ls us).flatten = hdB d c l ++ 10 :: restOf d nu np nr ls us := by
  simp [listing, restOf, hdL_eq]

theorem digit_ne (i : Nat) (h : i < 10) : UInt8.ofNat (48 + i) ≠ 10 := by
  rcases (by omega : i = 0 ∨ i = 1 ∨ i = 2 ∨ i = 3 ∨ i = 4 ∨ i = 5 ∨ i = 6 ∨ i = 7 ∨ i = 8 ∨ i = 9) with rfl | rfl | rfl | rfl | rfl | rfl | rfl | rfl | rfl | rfl <;> decide
theorem digits_no10 (u : Nat) : ∀ x ∈ Lib.decDigits u, x ≠ 10 := by
  induction u using Nat.strongRecOn with
  | ind u ih =>
    intro x hx
    rw [Lib.decDigits] at hx
    split at hx
    · rename_i h
      have : x = UInt8.ofNat (48 + u) := by simpa using hx
      rw [this]
      exact digit_ne u h
    · rename_i h
      rcases List.mem_append.1 hx with hx | hx
      · exact ih (u / 10) (by omega) x hx
      · have : x = UInt8.ofNat (48 + u % 10) := by simpa using hx
        rw [this]
        exact digit_ne _ (by omega)
theorem itoa_no10 (n : Int) : ∀ x ∈ Lib.itoa n, x ≠ 10 := by
  intro x hx
  rw [Lib.itoa] at hx
  split at hx
  · rcases List.mem_cons.1 hx with rfl | hx
    · decide
    · exact digits_no10 _ x hx
  · exact digits_no10 _ x hx
theorem hdB_no10 (d : List UInt8) (hd : ∀ x ∈ d, x ≠ 10) (c l : Int) : ∀ x ∈ hdB d c l, x ≠ 10 := by
  intro x hx
  simp only [hdB, List.mem_append] at hx
  rcases hx with hx | hx | hx | hx | hx | hx
  · exact hd x hx
  · revert x; decide
  · exact itoa_no10 c x hx
  · revert x; decide
  · exact itoa_no10 l x hx
  · revert x; decide
theorem hdB_pre (d : List UInt8) (c l : Int) : ∃ r, hdB d c l = (d ++ [59, 32, 102, 117, 110, 99, 116, 105, 111, 110, 32, 91]) ++ r := ⟨_, by rw [hdB, ← List.append_assoc]⟩
theorem blanks_no10 (n : Nat) : ∀ x ∈ Lib.repeatL [32, 32] n, x ≠ 10 := by
  intro x hx
  rw [blanks_eq] at hx
  have := List.eq_of_mem_replicate hx
  subst this
  decide
end Go.Proofs.YtdljljnjijkbjaaFmt
