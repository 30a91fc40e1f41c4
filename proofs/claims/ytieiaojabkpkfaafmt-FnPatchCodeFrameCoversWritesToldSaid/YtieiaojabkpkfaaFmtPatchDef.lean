/- What patchCode computes: the register count and the patched list. Plain Lean, no program. -/
import Derived.Test.YtieiaojabkpkfaaFmtHelpP
namespace Go.Proofs.YtieiaojabkpkfaaFmt
open Go.RowKit
set_option linter.unusedVariables false

/-- the opcodes that ask for no register -/
def Idle (o : Int) : Prop := o = 9 ∨ o = 10 ∨ o = 26 ∨ o = 27 ∨ o = 28 ∨ o = 29 ∨ o = 32 ∨ o = 33 ∨ o = 34 ∨ o = 35 ∨ o = 36 ∨ o = 37 ∨ o = 38
instance (o : Int) : Decidable (Idle o) := by unfold Idle; infer_instance

/-- the highest register that a word asks for -/
def reg (x : Int) : Int :=
  if Idle (opI x) then 0 else if opI x = 31 then aI x + cI x - 2 else if opI x = 40 then aI x + bI x - 1 else if opI x = 14 then aI x + 1 else if opI x = 4 then bI x else aI x

def mx (m : Int) (L : List Int) : Nat → Int
  | 0 => m
  | k + 1 => if mx m L k < reg (L.getD k 0) then reg (L.getD k 0) else mx m L k

def mv (L : List Int) : Nat → Nat
  | 0 => 0
  | k + 1 => if opI (L.getD k 0) = 0 then mv L k + 1 else 0

def fuse (x : Int) (m : Nat) : Int := setC (setOp x 1) (if (m : Int) - 1 < 511 then (m : Int) - 1 else 511)

def pat (L : List Int) : Nat → List Int
  | 0 => L
  | k + 1 => if opI (L.getD k 0) ≠ 0 ∧ 1 < mv L k then (pat L k).set (k - mv L k) (fuse ((pat L k).getD (k - mv L k) 0) (mv L k)) else pat L k

/-- where the count starts -/
def m0 (np : Int) : Int := if 1 < np then np else 1
/-- the register count -/
def regs (L : List Int) (np : Int) : Int := mx (m0 np) L L.length + 1

theorem mv_le (L : List Int) (k : Nat) : mv L k ≤ k := by
  induction k with
  | zero => exact Nat.le_refl _
  | succ k ih => unfold mv; split <;> omega

theorem pat_len (L : List Int) (k : Nat) : (pat L k).length = L.length := by
  induction k with
  | zero => rfl
  | succ k ih => unfold pat; split <;> simp [ih]

theorem fuse_bd (x : Int) (m : Nat) (h : W32 x) : W32 (fuse x m) := by
  have h1 := setOp_bd x 1
  exact setC_bd _ _ h1.1 h1.2

theorem getD_set (L : List Int) (i j : Nat) (y : Int) (h : i < L.length) : (L.set i y).getD j 0 = if i = j then y else L.getD j 0 := by
  by_cases e : i = j
  · subst e
    rw [if_pos rfl]
    simp [List.getD, h]
  · rw [if_neg e]
    simp [List.getD, e]

theorem pat_32 (L : List Int) (h : All32 L) (k : Nat) (hk : k ≤ L.length) : All32 (pat L k) := by
  induction k with
  | zero => exact h
  | succ k ih =>
    have ih := ih (by omega)
    unfold pat
    split
    · rename_i hc
      have hm := mv_le L k
      have hl := pat_len L k
      intro j hj
      rw [getD_set _ _ _ _ (by omega)]
      split
      · exact fuse_bd _ _ (ih _ (by omega))
      · exact ih j (by simpa using hj)
    · exact ih

theorem pat_get (L : List Int) (k : Nat) (hk : k ≤ L.length) : ∀ j, k - mv L k ≤ j → (pat L k).getD j 0 = L.getD j 0 := by
  induction k with
  | zero => intro j _; rfl
  | succ k ih =>
    have ih := ih (by omega)
    have hm := mv_le L k
    have hl := pat_len L k
    intro j hj
    unfold pat
    unfold mv at hj
    by_cases h0 : opI (L.getD k 0) = 0
    · rw [if_pos h0] at hj
      rw [if_neg (by omega)]
      exact ih j (by omega)
    · rw [if_neg h0] at hj
      split
      · rw [getD_set _ _ _ _ (by omega), if_neg (by omega)]
        exact ih j (by omega)
      · exact ih j (by omega)

theorem mv_succ_zero (L : List Int) (k : Nat) (h : opI (L.getD k 0) = 0) : mv L (k + 1) = mv L k + 1 := by
  show (if opI (L.getD k 0) = 0 then mv L k + 1 else 0) = _
  rw [if_pos h]
theorem mv_succ_else (L : List Int) (k : Nat) (h : opI (L.getD k 0) ≠ 0) : mv L (k + 1) = 0 := by
  show (if opI (L.getD k 0) = 0 then mv L k + 1 else 0) = _
  rw [if_neg h]
theorem pat_succ_same (L : List Int) (k : Nat) (h : opI (L.getD k 0) = 0 ∨ mv L k ≤ 1) : pat L (k + 1) = pat L k := by
  show (if opI (L.getD k 0) ≠ 0 ∧ 1 < mv L k then _ else pat L k) = _
  rw [if_neg (by omega)]
theorem pat_succ_set (L : List Int) (k : Nat) (h : opI (L.getD k 0) ≠ 0) (h1 : 1 < mv L k) : pat L (k + 1) = (pat L k).set (k - mv L k) (fuse ((pat L k).getD (k - mv L k) 0) (mv L k)) := by
  show (if opI (L.getD k 0) ≠ 0 ∧ 1 < mv L k then _ else pat L k) = _
  rw [if_pos ⟨h, h1⟩]
theorem mx_succ_up (m : Int) (L : List Int) (k : Nat) (h : mx m L k < reg (L.getD k 0)) : mx m L (k + 1) = reg (L.getD k 0) := by
  show (if mx m L k < reg (L.getD k 0) then _ else _) = _
  rw [if_pos h]
theorem mx_succ_same (m : Int) (L : List Int) (k : Nat) (h : ¬ mx m L k < reg (L.getD k 0)) : mx m L (k + 1) = mx m L k := by
  show (if mx m L k < reg (L.getD k 0) then _ else _) = _
  rw [if_neg h]

theorem reg_le (x : Int) (h : aI x < 100 ∧ bI x < 100 ∧ cI x < 100) : reg x ≤ 198 := by
  unfold reg
  have := aI_bd x
  split
  · omega
  split
  · omega
  split
  · omega
  split
  · omega
  split <;> omega

theorem mx_bd (m : Int) (L : List Int) (hs : Small L) (h1 : 1 ≤ m) (h2 : m ≤ 199) (k : Nat) (hk : k ≤ L.length) : 1 ≤ mx m L k ∧ mx m L k ≤ 199 := by
  induction k with
  | zero => exact ⟨h1, h2⟩
  | succ k ih =>
    have ih := ih (by omega)
    have hr := reg_le _ (hs k (by omega))
    unfold mx
    split <;> omega

theorem m0_bd (np : Int) (h : np ≤ 199) : 1 ≤ m0 np ∧ m0 np ≤ 199 := by unfold m0; split <;> omega

/-! the word's register by its opcode -/
theorem reg_idle (x : Int) (h : Idle (opI x)) : reg x = 0 := by unfold reg; rw [if_pos h]
theorem reg_call (x : Int) (h : opI x = 31) : reg x = aI x + cI x - 2 := by unfold reg; rw [h]; simp [Idle]
theorem reg_vararg (x : Int) (h : opI x = 40) : reg x = aI x + bI x - 1 := by unfold reg; rw [h]; simp [Idle]
theorem reg_self (x : Int) (h : opI x = 14) : reg x = aI x + 1 := by unfold reg; rw [h]; simp [Idle]
theorem reg_nil (x : Int) (h : opI x = 4) : reg x = bI x := by unfold reg; rw [h]; simp [Idle]
theorem reg_else (x : Int) (h0 : ¬ Idle (opI x)) (h1 : opI x ≠ 31) (h2 : opI x ≠ 40) (h3 : opI x ≠ 14) (h4 : opI x ≠ 4) : reg x = aI x := by
  unfold reg
  rw [if_neg h0, if_neg h1, if_neg h2, if_neg h3, if_neg h4]
end Go.Proofs.YtieiaojabkpkfaaFmt
