/- What the patchCode laws ask of the register count and of the patched list. Plain Lean, no program. -/
import Derived.Test.YtieiaojabkpkfaaFmtPatchDef
namespace Go.Proofs.YtieiaojabkpkfaaFmt
open Go.RowKit
set_option linter.unusedVariables false

/-! ### the count -/
theorem mx_succ (m : Int) (L : List Int) (k : Nat) : mx m L (k + 1) = max (mx m L k) (reg (L.getD k 0)) := by
  show (if mx m L k < reg (L.getD k 0) then _ else _) = _
  split <;> omega
theorem mx_ge (m : Int) (L : List Int) (k : Nat) : m ≤ mx m L k := by
  induction k with
  | zero => exact Int.le_refl _
  | succ k ih => unfold mx; split <;> omega
theorem mx_reg (m : Int) (L : List Int) (k j : Nat) (h : j < k) : reg (L.getD j 0) ≤ mx m L k := by
  induction k with
  | zero => omega
  | succ k ih =>
    unfold mx
    rcases Nat.lt_or_eq_of_le (Nat.le_of_lt_succ h) with h | h
    · have := ih h
      split <;> omega
    · subst h
      split <;> omega
theorem mx_congr (m : Int) (A B : List Int) (k : Nat) (h : ∀ j, j < k → A.getD j 0 = B.getD j 0) : mx m A k = mx m B k := by
  induction k with
  | zero => rfl
  | succ k ih =>
    unfold mx
    rw [ih (fun j hj => h j (by omega)), h k (by omega)]
theorem getD_app_l (A B : List Int) (j : Nat) (h : j < A.length) : (A ++ B).getD j 0 = A.getD j 0 := by
  simp [List.getD, List.getElem?_append_left h]
theorem getD_app_r (A B : List Int) (j : Nat) : (A ++ B).getD (A.length + j) 0 = B.getD j 0 := by
  simp [List.getD, List.getElem?_append_right (Nat.le_add_right A.length j)]
theorem mx_app (m : Int) (A B : List Int) (k : Nat) : mx m (A ++ B) (A.length + k) = max (mx m A A.length) (mx m B k) := by
  induction k with
  | zero =>
    have h := mx_ge m A A.length
    rw [Nat.add_zero, mx_congr m (A ++ B) A A.length (fun j hj => getD_app_l A B j hj)]
    show _ = max _ m
    omega
  | succ k ih =>
    show mx m (A ++ B) (A.length + k + 1) = _
    rw [mx_succ, mx_succ, ih, getD_app_r]
    omega
theorem regs_app (A B : List Int) (np : Int) : regs (A ++ B) np = if regs A np < regs B np then regs B np else regs A np := by
  unfold regs
  rw [List.length_append, mx_app]
  split <;> omega
theorem regs_swap (A B : List Int) (np : Int) : regs (B ++ A) np = regs (A ++ B) np := by
  rw [regs_app, regs_app]
  split <;> split <;> omega
theorem regs_bd (L : List Int) (np : Int) (hs : Small L) (h : np ≤ 199) : 2 ≤ regs L np ∧ regs L np ≤ 200 ∧ np + 1 ≤ regs L np := by
  have h1 := mx_bd (m0 np) L hs (m0_bd np h).1 (m0_bd np h).2 L.length (Nat.le_refl _)
  have h2 := mx_ge (m0 np) L L.length
  have h3 : np ≤ m0 np := by unfold m0; split <;> omega
  unfold regs
  omega
theorem regs_reg (L : List Int) (np : Int) (j : Nat) (h : j < L.length) : reg (L.getD j 0) + 1 ≤ regs L np := by
  have := mx_reg (m0 np) L L.length j h
  unfold regs
  omega

/-! ### the patched list -/
theorem pat_stays (L : List Int) (k t : Nat) (ht : t < k - mv L k) (hk : k + 1 ≤ L.length) : (pat L (k + 1)).getD t 0 = (pat L k).getD t 0 ∧ t < k + 1 - mv L (k + 1) := by
  have hm := mv_le L k
  have hl := pat_len L k
  by_cases h0 : opI (L.getD k 0) = 0
  · rw [pat_succ_same L k (.inl h0), mv_succ_zero L k h0]
    exact ⟨rfl, by omega⟩
  · rw [mv_succ_else L k h0]
    refine ⟨?_, by omega⟩
    by_cases h1 : 1 < mv L k
    · rw [pat_succ_set L k h0 h1, getD_set _ _ _ _ (by omega), if_neg (by omega)]
    · rw [pat_succ_same L k (.inr (by omega))]
theorem pat_final (L : List Int) (k t d : Nat) (ht : t < k - mv L k) (hk : k + d ≤ L.length) : (pat L (k + d)).getD t 0 = (pat L k).getD t 0 := by
  have key : t < k + d - mv L (k + d) ∧ (pat L (k + d)).getD t 0 = (pat L k).getD t 0 := by
    induction d with
    | zero => exact ⟨ht, rfl⟩
    | succ d ih =>
      obtain ⟨a, b⟩ := ih (by omega)
      obtain ⟨c, e⟩ := pat_stays L (k + d) t a (by omega)
      exact ⟨e, c.trans b⟩
  exact key.2
/-- no word of the patched list is settled later than the word behind its run -/
theorem pat_at (L : List Int) (k t : Nat) (ht : t < k - mv L k) (hk : k ≤ L.length) : (pat L L.length).getD t 0 = (pat L k).getD t 0 := by
  have := pat_final L k t (L.length - k) ht (by omega)
  rwa [show k + (L.length - k) = L.length by omega] at this

/-- a word that is no MOVE -/
theorem pat_other (L : List Int) (i : Nat) (hi : i < L.length) (h : opI (L.getD i 0) ≠ 0) : (pat L L.length).getD i 0 = L.getD i 0 ∧ mv L (i + 1) = 0 := by
  have hm := mv_succ_else L i h
  have hle := mv_le L i
  have hl := pat_len L i
  refine ⟨?_, hm⟩
  rw [pat_at L (i + 1) i (by omega) (by omega)]
  by_cases h1 : 1 < mv L i
  · rw [pat_succ_set L i h h1, getD_set _ _ _ _ (by omega), if_neg (by omega), pat_get L i (by omega) i (by omega)]
  · rw [pat_succ_same L i (.inr (by omega)), pat_get L i (by omega) i (by omega)]

theorem mv_run (L : List Int) (i j : Nat) (hij : i ≤ j) (h0 : mv L i = 0) (hr : ∀ t, i ≤ t → t < j → opI (L.getD t 0) = 0) : mv L j = j - i := by
  obtain ⟨d, rfl⟩ : ∃ d, j = i + d := ⟨j - i, by omega⟩
  clear hij
  induction d with
  | zero => rw [Nat.add_zero, h0]; omega
  | succ d ih =>
    show mv L (i + d + 1) = _
    rw [mv_succ_zero L (i + d) (hr (i + d) (by omega) (by omega)), ih (fun t a b => hr t a (by omega))]
    omega

/-- what the law wants to find at place t of the run [i, j) -/
def wantAt (L : List Int) (i j t : Nat) : Int := if t = i ∧ 2 ≤ j - i ∧ j < L.length then fuse (L.getD t 0) (j - i) else L.getD t 0

theorem pat_run (L : List Int) (i j t : Nat) (hj : j ≤ L.length) (h0 : mv L i = 0) (hr : ∀ t, i ≤ t → t < j → opI (L.getD t 0) = 0) (he : j < L.length → opI (L.getD j 0) ≠ 0) (h1 : i ≤ t) (h2 : t < j) :
    (pat L L.length).getD t 0 = wantAt L i j t := by
  have hm := mv_run L i j (by omega) h0 hr
  have hl := pat_len L j
  unfold wantAt
  by_cases hjl : j < L.length
  · have hne := he hjl
    have hm1 := mv_succ_else L j hne
    rw [pat_at L (j + 1) t (by omega) (by omega)]
    by_cases hk : 2 ≤ j - i
    · rw [pat_succ_set L j hne (by omega), getD_set _ _ _ _ (by omega), show j - mv L j = i by omega, hm]
      by_cases e : t = i
      · subst e
        rw [if_pos rfl, if_pos ⟨rfl, hk, hjl⟩, pat_get L j (by omega) t (by omega)]
      · rw [if_neg (by omega), if_neg (by omega), pat_get L j (by omega) t (by omega)]
    · rw [pat_succ_same L j (.inr (by omega)), if_neg (by omega), pat_get L j (by omega) t (by omega)]
  · obtain rfl : j = L.length := by omega
    rw [if_neg (by omega), pat_get L L.length (by omega) t (by omega)]

/-- what the opcode table asks of a word (the law's own words) -/
def need (x : Int) : Int :=
  let o := opI x
  if o = 0 ∨ o = 1 ∨ o = 2 ∨ o = 3 ∨ o = 5 ∨ o = 6 ∨ o = 7 ∨ o = 8 ∨ o = 13 ∨ o = 15 ∨ o = 16 ∨ o = 17 ∨ o = 18 ∨ o = 19 ∨ o = 20 ∨ o = 21 ∨ o = 22 ∨ o = 23 ∨ o = 24 ∨ o = 30 then aI x + 1
  else if o = 14 then aI x + 2 else if o = 4 then (if aI x ≤ bI x then bI x + 1 else 0)
  else if o = 31 then (if 2 ≤ cI x then aI x + cI x - 1 else 0) else if o = 40 then (if 1 ≤ bI x then aI x + bI x else 0) else 0
end Go.Proofs.YtieiaojabkpkfaaFmt
