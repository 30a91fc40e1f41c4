/- The walk of FnLuaModuloMatchesIntegerFloorMod. -/
import Derived.Test.YteaopkanlnpiaaaLua134
namespace Go.Proofs.Yteaopkanlnpiaaa
open Go.RowKit
set_option linter.unusedVariables false

/-- the floored remainder, as the law's model reckons it -/
def FM (a b : Int) : Int := if a.tmod b ≠ 0 ∧ (a < 0) ≠ (b < 0) then a.tmod b + b else a.tmod b

theorem tparts (a b : Int) : a.tdiv b * b + a.tmod b = a ∧ (a.tmod b).natAbs = a.natAbs % b.natAbs ∧ (a.tdiv b).natAbs = a.natAbs / b.natAbs ∧ (0 ≤ a → 0 ≤ a.tmod b) ∧ (a < 0 → a.tmod b ≤ 0) := by
  refine ⟨Int.tdiv_mul_add_tmod a b, Int.natAbs_tmod .., Int.natAbs_tdiv .., fun h => Int.tmod_nonneg b h, fun h => ?_⟩
  have := Int.tmod_nonneg b (show 0 ≤ -a by omega)
  rw [Int.neg_tmod] at this
  omega

theorem wrap_small (x : Int) (h : -9223372036854775808 ≤ x) (h' : x ≤ 9223372036854775807) : wrap64 x = x := by unfold wrap64; omega

theorem fm_parts (a b : Int) (ha : -4503599627370496 ≤ a) (ha' : a ≤ 4503599627370496) (hb : -4503599627370496 ≤ b) (hb' : b ≤ 4503599627370496) (h0 : b ≠ 0) :
    wrap64 (a - wrap64 (wrap64 (wrap64 (a.tdiv b) - 1) * b)) = a.tmod b + b ∧ wrap64 (a - wrap64 (wrap64 (a.tdiv b) * b)) = a.tmod b := by
  obtain ⟨h1, h2, h3, _⟩ := tparts a b
  have h4 : a.natAbs / b.natAbs ≤ a.natAbs := Nat.div_le_self _ _
  have h5 : a.natAbs % b.natAbs < b.natAbs := Nat.mod_lt _ (by omega)
  rw [wrap_small (a.tdiv b) (by omega) (by omega), wrap_small (a.tdiv b - 1) (by omega) (by omega), Int.sub_mul, Int.one_mul]
  generalize a.tdiv b * b = p at h1 ⊢
  rw [wrap_small (p - b) (by omega) (by omega), wrap_small p (by omega) (by omega), wrap_small _ (by omega) (by omega), wrap_small _ (by omega) (by omega)]
  omega

theorem floorMod_any (a b : Int) (ha : -4503599627370496 ≤ a) (ha' : a ≤ 4503599627370496) (hb : -4503599627370496 ≤ b) (hb' : b ≤ 4503599627370496) (h0 : b ≠ 0) (w : World) :
    Calls Try.prog 6 #[.int .i64 a, .int .i64 b] w fun e w' => e = .returned (.int .i64 (FM a b)) ∧ w = w' := by
  have hb0 : (b == 0) = false := by simpa using h0
  obtain ⟨e1, e2⟩ := fm_parts a b ha ha' hb hb' h0
  have E1 := Lib.hid e1
  have E2 := Lib.hid e2
  clear e1 e2
  by_cases c : a.tmod b = 0
  · have e : FM a b = a.tmod b := by unfold FM; rw [if_neg (by omega)]
    have E := Lib.hid e
    clear e
    go_enter Try.func6, Try.ntmps6
    go_wp2
    go_ret
    exact ⟨by rw [E.out, E2.out]; rfl, rfl⟩
  · have c0 : (a.tmod b != 0) = true := by simpa using c
    by_cases c2 : (a < 0) ≠ (b < 0)
    · have e : FM a b = a.tmod b + b := by unfold FM; rw [if_pos ⟨c, c2⟩]
      have d : (!decide (a < 0) == decide (b < 0)) = true := by
        by_cases x : a < 0 <;> by_cases y : b < 0 <;> simp [x, y] at c2 ⊢
      have E := Lib.hid e
      clear e c2
      go_enter Try.func6, Try.ntmps6
      go_wp2
      go_ret
      exact ⟨by rw [E.out, E1.out]; rfl, rfl⟩
    · have e : FM a b = a.tmod b := by unfold FM; rw [if_neg (fun h => c2 h.2)]
      have d : (!decide (a < 0) == decide (b < 0)) = false := by
        by_cases x : a < 0 <;> by_cases y : b < 0 <;> simp [x, y] at c2 ⊢
      have E := Lib.hid e
      clear e c2
      go_enter Try.func6, Try.ntmps6
      go_wp2
      go_ret
      exact ⟨by rw [E.out, E2.out]; rfl, rfl⟩

/-- a small integer as a number -/
theorem float_int (n : Int) (K : Nat) (hK : K = 1074) (h : n.natAbs < 9007199254740992) : ∃ r, floatOfInt .f64 n = wd (decide (n < 0)) r ∧ r < 9218868437227405312 ∧ val r = n.natAbs * 2 ^ K := by
  have hp : 0 < 2 ^ K := Nat.two_pow_pos K
  obtain ⟨r, hr, hv⟩ := rep (n.natAbs * 2 ^ K) K (Nat.mul_mod_left _ _) (by rw [Nat.mul_comm]; exact (Nat.mul_lt_mul_left hp).2 h) (by omega)
  refine ⟨r, ?_, hr, hv⟩
  show Ieee.double.nearest (decide (n < 0)) n.natAbs 0 = _
  by_cases z : n = 0
  · subst z
    have : r = 0 := val_inj (by rw [hv, val_zero]; simp)
    subst this
    rfl
  · have e := nearest_units (decide (n < 0)) n.natAbs K (by omega)
    rw [show -1074 + (K : Int) = 0 by omega, ← hv] at e
    rw [e]
    refine write_val _ r hr ?_
    rcases Nat.eq_zero_or_pos r with rfl | x
    · rw [val_zero] at hv
      have := Nat.mul_pos (show 0 < n.natAbs by omega) hp
      omega
    · exact x

/-- the law at two integers -/
theorem agree (a b : Int) (K : Nat) (hb : b ≠ 0) (ra rb rF : Nat) (s' : Bool) (d : Nat) (hra : val ra = a.natAbs * 2 ^ K) (hrb : val rb = b.natAbs * 2 ^ K) (hF : rF < 9218868437227405312) (hrF : val rF = (FM a b).natAbs * 2 ^ K) (h3 : d = 0 ∨ s' = decide (b < 0))
    (h4 : decide (a < 0) = decide (b < 0) → val d = val ra % val rb) (h5 : val ra % val rb = 0 → d = 0) (h6 : decide (a < 0) ≠ decide (b < 0) → val ra % val rb ≠ 0 → ∀ c, c < 9218868437227405312 → val c = val rb - val ra % val rb → d = c) :
    sg s' (val d) = sg (decide (FM a b < 0)) (val rF) := by
  obtain ⟨t1, t2, t3, t4, t5⟩ := tparts a b
  have hp : 0 < 2 ^ K := Nat.two_pow_pos K
  have hM : val ra % val rb = (a.natAbs % b.natAbs) * 2 ^ K := by rw [hra, hrb, Nat.mul_mod_mul_right]
  have hlt : a.natAbs % b.natAbs < b.natAbs := Nat.mod_lt _ (by omega)
  rw [hM] at h4 h5 h6
  by_cases z : a.natAbs % b.natAbs = 0
  · have hd : d = 0 := h5 (by rw [z, Nat.zero_mul])
    have hF0 : FM a b = 0 := by unfold FM; rw [if_neg (by omega)]; omega
    rw [hd, hrF, hF0, val_zero]
    cases s' <;> simp [sg]
  · have hz : (a.natAbs % b.natAbs) * 2 ^ K ≠ 0 := by have := Nat.mul_pos (show 0 < a.natAbs % b.natAbs by omega) hp; omega
    by_cases c : (a < 0) = (b < 0)
    · have hv := h4 (by simp [c])
      have hF1 : FM a b = a.tmod b := by unfold FM; rw [if_neg (fun h => h.2 c)]
      have hs : s' = decide (b < 0) := by
        rcases h3 with h | h
        · rw [h, val_zero] at hv; omega
        · exact h
      have hsF : decide (FM a b < 0) = decide (b < 0) := by
        have c' : decide (a < 0) = decide (b < 0) := by simp [c]
        rw [hF1, ← c']
        by_cases x : a < 0
        · have := t5 x; simp [x]; omega
        · have := t4 (by omega); simp [x]; omega
      rw [hsF, hs, hv, hrF, hF1, t2]
    · have hF1 : FM a b = a.tmod b + b := by unfold FM; rw [if_pos ⟨by omega, c⟩]
      have hFn : (FM a b).natAbs = b.natAbs - a.natAbs % b.natAbs ∧ (decide (FM a b < 0) = decide (b < 0)) := by
        rw [hF1]
        by_cases x : a < 0 <;> by_cases y : b < 0
        · exact absurd (by simp [x, y]) c
        · have := t5 x; refine ⟨by omega, by simp [y]; omega⟩
        · have := t4 (by omega); refine ⟨by omega, by simp [y]; omega⟩
        · exact absurd (by simp [x, y]) c
      have hdF := h6 (by simpa using c) hz rF hF (by rw [hrF, hFn.1, hrb, Nat.sub_mul])
      have hs : s' = decide (b < 0) := by
        rcases h3 with h | h
        · rw [← hdF, h, val_zero, hFn.1] at hrF
          have := Nat.mul_pos (show 0 < b.natAbs - a.natAbs % b.natAbs by omega) hp
          omega
        · exact h
      rw [hs, hFn.2, hdF]

set_option maxRecDepth 100000 in
theorem walk_FnLuaModuloMatchesIntegerFloorMod (a b : Int) (ha : (Lit.int .i64 a).wf = true) (hb : (Lit.int .i64 b).wf = true) (w : World) :
    Calls Try.prog 3 #[.int .i64 a, .int .i64 b] w fun e w' => e = .returned (.bool true) ∧ Below w.heap.size w w' := by
  clear ha hb
  by_cases q1 : a < -4503599627370496
  · go_enter Try.func3, Try.ntmps3
    go_wp2
    go_ret
    exact ⟨rfl, Below.refl _ _⟩
  by_cases q2 : 4503599627370496 < a
  · go_enter Try.func3, Try.ntmps3
    go_wp2
    go_ret
    exact ⟨rfl, Below.refl _ _⟩
  by_cases q3 : b < -4503599627370496
  · go_enter Try.func3, Try.ntmps3
    go_wp2
    go_ret
    exact ⟨rfl, Below.refl _ _⟩
  by_cases q4 : 4503599627370496 < b
  · go_enter Try.func3, Try.ntmps3
    go_wp2
    go_ret
    exact ⟨rfl, Below.refl _ _⟩
  by_cases q5 : b = 0
  · subst q5
    go_enter Try.func3, Try.ntmps3
    go_wp2
    go_ret
    exact ⟨rfl, Below.refl _ _⟩
  have hb0 : (b == 0) = false := by simpa using q5
  obtain ⟨K, hK⟩ : ∃ K, K = 1074 := ⟨_, rfl⟩
  have hp : 0 < 2 ^ K := Nat.two_pow_pos K
  obtain ⟨ra, ea, hra, va⟩ := float_int a K hK (by omega)
  obtain ⟨rb, eb, hrb, vb⟩ := float_int b K hK (by omega)
  have hFb : (FM a b).natAbs < 9007199254740992 := by
    obtain ⟨t1, t2, t3, t4, t5⟩ := tparts a b
    have hlt : a.natAbs % b.natAbs < b.natAbs := Nat.mod_lt _ (by omega)
    unfold FM
    split <;> omega
  obtain ⟨rF, eF, hrF, vF⟩ := float_int (FM a b) K hK hFb
  have hrb0 : 0 < rb := by
    rcases Nat.eq_zero_or_pos rb with rfl | x
    · rw [val_zero] at vb
      have := Nat.mul_pos (show 0 < b.natAbs by omega) hp
      omega
    · exact x
  have fin : ∀ s' d, d < 9218868437227405312 → LuaRes (decide (a < 0)) ra (decide (b < 0)) rb (.returned (.float .f64 (wd s' d))) → (FloatKind.f64.format.order (wd s' d) (wd (decide (FM a b < 0)) rF) == some Ordering.eq) = true := by
    rintro s' d hd ⟨s2, d2, he, hd1, hd2, hd3, h4, h5, h6⟩
    have hw : wd s' d = wd s2 d2 := by simpa using he
    have := agree a b K q5 ra rb rF s2 d2 va vb hrF vF hd3 h4 h5 h6
    rw [hw, ord_eq s2 _ d2 rF hd2 hrF this]
    rfl
  have HE := Lib.hid eF
  have HF := Lib.hid fin
  clear eF fin hFb vF va vb hp hK
  generalize decide (a < 0) = sa at ea HF
  generalize decide (b < 0) = sb at eb HF
  go_enter Try.func3, Try.ntmps3
  go_wp2_with fail
  refine (ZZ_fin sa ra sb rb hra hrb hrb0 _).mono ?_
  rintro e w' ⟨hres, rfl⟩
  obtain ⟨s', d, he, h1, hd, h3⟩ := hres
  subst he
  have hcmp := HF.out s' d hd ⟨s', d, rfl, h1, hd, h3⟩
  have eF := HE.out
  generalize hFM : FM a b = F at eF hcmp
  have HFM := Lib.hid hFM
  clear hFM h1 h3 HE HF
  go_wp2_with fail
  refine (floorMod_any a b (by omega) (by omega) (by omega) (by omega) q5 _).mono ?_
  rintro e w' ⟨he, rfl⟩
  rw [HFM.out] at he
  subst he
  go_wp2
  go_ret
  exact ⟨rfl, Below.refl _ _⟩
end Go.Proofs.Yteaopkanlnpiaaa
