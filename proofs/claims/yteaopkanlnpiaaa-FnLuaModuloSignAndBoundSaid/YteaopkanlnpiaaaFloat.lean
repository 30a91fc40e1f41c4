/- What a float64 stands for, in units of 2^-1074, and what sums, products and orders of such words give. Plain Lean over the standard's format; no program. No condition. -/
import Derived.WalkKit
import Derived.Laws.FloatArith
namespace Go.Proofs.Yteaopkanlnpiaaa
open Ieee
set_option linter.unusedVariables false

theorem sw_eq : double.signWeight = 9223372036854775808 := rfl
theorem bin_eq : double.binade = 4503599627370496 := rfl
theorem inf_eq : double.infRung = 9218868437227405312 := rfl
theorem lp_eq : double.leastPlace = -1074 := by decide
theorem fb_eq : double.fractionBits = 52 := rfl

/-- what a rung stands for, in units of 2^-1074 -/
def val (r : Nat) : Nat := if r < 4503599627370496 then r else (4503599627370496 + r % 4503599627370496) * 2 ^ (r / 4503599627370496 - 1)
/-- a word of a sign and a rung -/
def wd (s : Bool) (r : Nat) : Nat := double.word s r
theorem wd_false (r : Nat) : wd false r = r := rfl
theorem wd_true (r : Nat) : wd true r = 9223372036854775808 + r := rfl
theorem wd_neg (s : Bool) (r : Nat) (h : r < 9223372036854775808) : (wd s r / double.signWeight % 2 == 1) = s := by
  rw [sw_eq]
  cases s
  · rw [wd_false, Nat.div_eq_of_lt h]; rfl
  · rw [wd_true, show (9223372036854775808 + r) / 9223372036854775808 = 1 by omega]; rfl
theorem wd_rung (s : Bool) (r : Nat) (h : r < 9223372036854775808) : wd s r % double.signWeight = r := by
  rw [sw_eq]
  cases s
  · rw [wd_false]; omega
  · rw [wd_true]; omega
theorem wd_of (x : Nat) (h : x < 18446744073709551616) : ∃ s r, r < 9223372036854775808 ∧ x = wd s r := by
  by_cases c : x < 9223372036854775808
  · exact ⟨false, x, c, rfl⟩
  · exact ⟨true, x - 9223372036854775808, by omega, by rw [wd_true]; omega⟩

/-- a rung by its place and its digits -/
theorem val_form (l m : Nat) (h : m < 9007199254740992) (hl : l = 0 ∨ 4503599627370496 ≤ m) : val (l * 4503599627370496 + m) = m * 2 ^ l := by
  unfold val
  by_cases c : m < 4503599627370496
  · have : l = 0 := by omega
    subst this
    rw [if_pos (by omega)]; omega
  · rw [if_neg (by omega)]
    have e1 : (l * 4503599627370496 + m) / 4503599627370496 - 1 = l := by omega
    have e2 : 4503599627370496 + (l * 4503599627370496 + m) % 4503599627370496 = m := by omega
    rw [e1, e2]
theorem form (r : Nat) : ∃ l m, r = l * 4503599627370496 + m ∧ m < 9007199254740992 ∧ (l = 0 ∨ 4503599627370496 ≤ m) ∧ val r = m * 2 ^ l := by
  by_cases c : r < 4503599627370496
  · refine ⟨0, r, by omega, by omega, .inl rfl, ?_⟩
    unfold val
    rw [if_pos c]; omega
  · refine ⟨r / 4503599627370496 - 1, 4503599627370496 + r % 4503599627370496, by omega, by omega, .inr (by omega), ?_⟩
    unfold val
    rw [if_neg c]

theorem val_succ (r : Nat) : val r < val (r + 1) := by
  obtain ⟨l, m, rfl, hm, hl, hv⟩ := form r
  rw [hv]
  have hp : 0 < 2 ^ l := Nat.two_pow_pos _
  by_cases c : m + 1 < 9007199254740992
  · rw [show l * 4503599627370496 + m + 1 = l * 4503599627370496 + (m + 1) by omega, val_form l (m + 1) c (by omega), Nat.succ_mul]
    omega
  · rw [show l * 4503599627370496 + m + 1 = (l + 1) * 4503599627370496 + 4503599627370496 by omega, val_form (l + 1) 4503599627370496 (by omega) (.inr (Nat.le_refl _)), Nat.pow_succ]
    have : m = 9007199254740991 := by omega
    subst this
    omega
theorem val_lt {a b : Nat} (h : a < b) : val a < val b := by
  obtain ⟨d, rfl⟩ : ∃ d, b = a + 1 + d := ⟨b - (a + 1), by omega⟩
  clear h
  induction d with
  | zero => exact val_succ a
  | succ d ih => exact Nat.lt_trans ih (val_succ _)
theorem val_le {a b : Nat} (h : a ≤ b) : val a ≤ val b := by
  rcases Nat.lt_or_eq_of_le h with h | h
  · exact Nat.le_of_lt (val_lt h)
  · rw [h]; exact Nat.le_refl _
theorem lt_of_val {a b : Nat} (h : val a < val b) : a < b := by
  rcases Nat.lt_or_ge a b with c | c
  · exact c
  · have := val_le c; omega
theorem le_of_val {a b : Nat} (h : val a ≤ val b) : a ≤ b := by
  rcases Nat.lt_or_ge b a with c | c
  · have := val_lt c; omega
  · exact c
theorem val_inj {a b : Nat} (h : val a = val b) : a = b := Nat.le_antisymm (le_of_val (Nat.le_of_eq h)) (le_of_val (Nat.le_of_eq h.symm))
theorem val_zero : val 0 = 0 := rfl
theorem val_pos {a : Nat} (h : 0 < a) : 0 < val a := by have := val_lt h; rw [val_zero] at this; exact this

theorem log2_of {n k : Nat} (h1 : 2 ^ k ≤ n) (h2 : n < 2 ^ (k + 1)) : n.log2 = k := by
  have h0 : n ≠ 0 := by have := Nat.two_pow_pos k; omega
  have a := (Nat.le_log2 h0).2 h1
  have b := (Nat.log2_lt h0).2 h2
  omega
theorem log2_scale (n c : Nat) (h : n ≠ 0) : (n * 2 ^ c).log2 = n.log2 + c := by
  have a : 2 ^ n.log2 ≤ n := Nat.log2_self_le h
  have b : n < 2 ^ (n.log2 + 1) := Nat.lt_log2_self
  apply log2_of
  · rw [Nat.pow_add]; exact Nat.mul_le_mul_right _ a
  · rw [show n.log2 + c + 1 = n.log2 + 1 + c by omega, Nat.pow_add]
    exact (Nat.mul_lt_mul_right (Nat.two_pow_pos _)).2 b

/-- a number that has few digits is some rung's -/
theorem rep (n l : Nat) (hd : n % 2 ^ l = 0) (hb : n < 2 ^ l * 9007199254740992) (hl : l ≤ 2045) : ∃ d, d < 9218868437227405312 ∧ val d = n := by
  by_cases h0 : n = 0
  · exact ⟨0, by omega, h0.symm⟩
  by_cases h1 : n < 9007199254740992
  · refine ⟨n, by omega, ?_⟩
    have := val_form 0 n h1 (.inl rfl)
    rw [Nat.pow_zero, Nat.mul_one, Nat.zero_mul, Nat.zero_add] at this
    exact this
  · have a : 2 ^ n.log2 ≤ n := Nat.log2_self_le h0
    have b : n < 2 ^ (n.log2 + 1) := Nat.lt_log2_self
    have hL : 53 ≤ n.log2 := (Nat.le_log2 h0).2 (by omega)
    obtain ⟨k, hk⟩ : ∃ k, n.log2 = 52 + k := ⟨n.log2 - 52, by omega⟩
    have hkl : k ≤ l := by
      have : n < 2 ^ (l + 53) := by rw [Nat.pow_add]; exact hb
      have := (Nat.log2_lt h0).2 this
      omega
    have hdk : n % 2 ^ k = 0 := by
      have h2 : 2 ^ k ∣ 2 ^ l := Nat.pow_dvd_pow 2 hkl
      exact Nat.mod_eq_zero_of_dvd (Nat.dvd_trans h2 (Nat.dvd_of_mod_eq_zero hd))
    have hn : n = n / 2 ^ k * 2 ^ k := by
      have := Nat.div_add_mod n (2 ^ k)
      rw [hdk, Nat.add_zero, Nat.mul_comm] at this
      exact this.symm
    rw [hk] at a b
    generalize n / 2 ^ k = m at hn
    have hp : 0 < 2 ^ k := Nat.two_pow_pos _
    have hm1 : 4503599627370496 ≤ m := by
      have : 4503599627370496 * 2 ^ k ≤ m * 2 ^ k := by rw [← hn]; rw [Nat.pow_add] at a; exact a
      exact Nat.le_of_mul_le_mul_right this hp
    have hm2 : m < 9007199254740992 := by
      have : m * 2 ^ k < 9007199254740992 * 2 ^ k := by
        rw [← hn]; rw [show 52 + k + 1 = 53 + k by omega, Nat.pow_add] at b; exact b
      exact Nat.lt_of_mul_lt_mul_right this
    exact ⟨k * 4503599627370496 + m, by omega, by rw [val_form k m hm2 (.inr hm1), ← hn]⟩

/-- two rungs no more than twofold apart: their difference is a rung's -/
theorem sterbenz (r t : Nat) (ht : t < 9218868437227405312) (h1 : val t ≤ val r) (h2 : val r ≤ 2 * val t) : ∃ d, d < 9218868437227405312 ∧ val r = val t + val d := by
  have hle := le_of_val h1
  obtain ⟨l, m, rfl, hm, hl, hv⟩ := form r
  obtain ⟨l', m', rfl, hm', hl', hv'⟩ := form t
  rw [hv, hv'] at h1 h2
  have hll : l' ≤ l := by omega
  obtain ⟨c, rfl⟩ : ∃ c, l = l' + c := ⟨l - l', by omega⟩
  have e : m * 2 ^ (l' + c) = m * 2 ^ c * 2 ^ l' := by rw [Nat.pow_add, Nat.mul_comm (2 ^ l'), Nat.mul_assoc]
  rw [e] at h1 h2
  have hp : 0 < 2 ^ l' := Nat.two_pow_pos _
  have a1 : m' ≤ m * 2 ^ c := Nat.le_of_mul_le_mul_right h1 hp
  have a2 : m * 2 ^ c ≤ 2 * m' := by
    rw [← Nat.mul_assoc] at h2
    exact Nat.le_of_mul_le_mul_right h2 hp
  obtain ⟨d, hd, hvd⟩ := rep ((m * 2 ^ c - m') * 2 ^ l') l' (Nat.mul_mod_left _ _) (by
    rw [Nat.mul_comm]
    exact (Nat.mul_lt_mul_left hp).2 (by omega)) (by omega)
  refine ⟨d, hd, ?_⟩
  rw [hv, hv', hvd, e, ← Nat.add_mul]
  congr 1
  omega

/-! ### what a word reads as, and how a number is written -/
theorem read_fin (s : Bool) (r : Nat) (h : r < 9218868437227405312) : ∃ m k : Nat, double.read (wd s r) = .number s m (-1074 + (k : Int)) ∧ m * 2 ^ k = val r := by
  unfold Format.read
  rw [wd_neg s r (by omega), wd_rung s r (by omega), bin_eq, inf_eq, lp_eq]
  unfold val
  by_cases c : r < 4503599627370496
  · refine ⟨r, 0, ?_, ?_⟩
    · simp [c]
    · rw [if_pos c]; omega
  · refine ⟨4503599627370496 + r % 4503599627370496, r / 4503599627370496 - 1, ?_, ?_⟩
    · simp [c, h]
    · rw [if_neg c]
theorem read_inf (s : Bool) : double.read (wd s 9218868437227405312) = .infinity s := by
  unfold Format.read
  rw [wd_neg s _ (by omega), wd_rung s _ (by omega), bin_eq, inf_eq]
  simp
theorem read_nan (s : Bool) (r : Nat) (h : 9218868437227405312 < r) (h2 : r < 9223372036854775808) : ∃ f, double.read (wd s r) = .nan s f := by
  unfold Format.read
  rw [wd_neg s r (by omega), wd_rung s r (by omega), bin_eq, inf_eq]
  refine ⟨r - 9218868437227405312, ?_⟩
  have a : ¬ r < 4503599627370496 := by omega
  have b : ¬ r < 9218868437227405312 := by omega
  have c : ¬ r = 9218868437227405312 := by omega
  simp [a, b, c]

theorem cut_even (s : Bool) (n d : Nat) (hd : d ≤ n.log2 + 2) : ∃ b : Bool, Toward.even.cut s n d = n / 2 ^ d + b.toNat ∧ (n % 2 ^ d = 0 → b = false) := by
  refine ⟨decide (2 ^ d < 2 * (n % 2 ^ d)) || (2 ^ d == 2 * (n % 2 ^ d) && n / 2 ^ d % 2 == 1), ?_, ?_⟩
  · unfold Toward.cut
    simp only [Nat.min_eq_left hd, Nat.one_shiftLeft]
  · intro h
    have hp : 0 < 2 ^ d := Nat.two_pow_pos _
    rw [h]
    have : ¬ 2 ^ d = 0 := by omega
    simp
theorem cut_scale (s : Bool) (n D c : Nat) (h : n ≠ 0) : Toward.even.cut s (n * 2 ^ c) (D + c) = Toward.even.cut s n D := by
  unfold Toward.cut
  rw [log2_scale n c h]
  have e : min (D + c) (n.log2 + c + 2) = min D (n.log2 + 2) + c := by omega
  rw [e]
  generalize min D (n.log2 + 2) = g
  simp only [Nat.one_shiftLeft]
  have hc : 0 < 2 ^ c := Nat.two_pow_pos _
  have e1 : n * 2 ^ c / 2 ^ (g + c) = n / 2 ^ g := by rw [Nat.pow_add]; exact Nat.mul_div_mul_right _ _ hc
  have e2 : n * 2 ^ c % 2 ^ (g + c) = n % 2 ^ g * 2 ^ c := by rw [Nat.pow_add]; exact Nat.mul_mod_mul_right _ _ _
  rw [e1, e2]
  have e3 : (2 ^ (g + c) < 2 * (n % 2 ^ g * 2 ^ c)) = (2 ^ g < 2 * (n % 2 ^ g)) := by
    rw [Nat.pow_add, ← Nat.mul_assoc]
    exact propext (Nat.mul_lt_mul_right hc)
  have e4 : (2 ^ (g + c) == 2 * (n % 2 ^ g * 2 ^ c)) = (2 ^ g == 2 * (n % 2 ^ g)) := by
    rw [Nat.pow_add, ← Nat.mul_assoc, Bool.eq_iff_iff, beq_iff_eq, beq_iff_eq]
    exact ⟨fun h => Nat.eq_of_mul_eq_mul_right hc h, fun h => congrArg (· * 2 ^ c) h⟩
  simp only [e3, e4]

theorem nearest_scale (s : Bool) (m c : Nat) (p : Int) (h : m ≠ 0) : double.nearest s (m * 2 ^ c) (p - c) = double.nearest s m p := by
  unfold Format.nearest
  have hc : 0 < 2 ^ c := Nat.two_pow_pos _
  have h' : m * 2 ^ c ≠ 0 := Nat.mul_ne_zero h (by omega)
  rw [if_neg h, if_neg h', log2_scale m c h]
  have e : p - (c : Int) + ((m.log2 + c : Nat) : Int) - (double.fractionBits : Int) = p + (m.log2 : Int) - (double.fractionBits : Int) := by omega
  simp only [e]
  generalize max (p + (m.log2 : Int) - (double.fractionBits : Int)) double.leastPlace = last
  congr 3
  simp only [Nat.shiftLeft_eq]
  by_cases c1 : last ≤ p - c
  · have a1 : (last - (p - (c : Int))).toNat = 0 := by omega
    have a2 : (last - p).toNat = 0 := by omega
    have a3 : (p - last).toNat = c + (p - (c : Int) - last).toNat := by omega
    rw [a1, a2, a3, Nat.pow_add, Nat.mul_assoc]
  by_cases c2 : last ≤ p
  · have a1 : (p - (c : Int) - last).toNat = 0 := by omega
    have a2 : (last - p).toNat = 0 := by omega
    have a3 : c = (p - last).toNat + (last - (p - (c : Int))).toNat := by omega
    rw [a1, a2, Nat.pow_zero, Nat.mul_one]
    generalize (p - last).toNat = x at a3 ⊢
    generalize (last - (p - (c : Int))).toNat = y at a3 ⊢
    rw [a3, Nat.pow_add, ← Nat.mul_assoc]
    have := cut_scale s (m * 2 ^ x) 0 y (Nat.mul_ne_zero h (by have := Nat.two_pow_pos x; omega))
    rw [Nat.zero_add] at this
    exact this
  · have a1 : (p - (c : Int) - last).toNat = 0 := by omega
    have a2 : (p - last).toNat = 0 := by omega
    have a3 : (last - (p - (c : Int))).toNat = (last - p).toNat + c := by omega
    rw [a1, a2, a3, Nat.pow_zero, Nat.mul_one, Nat.mul_one]
    exact cut_scale s m _ c h

/-- how n units are written -/
theorem units_form (s : Bool) (n : Nat) (h : n ≠ 0) : ∃ q, double.nearest s n (-1074) = wd s (min ((n.log2 - 52) * 4503599627370496 + q) 9218868437227405312) ∧ q ≤ n / 2 ^ (n.log2 - 52) + 1 ∧ (n % 2 ^ (n.log2 - 52) = 0 → q = n / 2 ^ (n.log2 - 52)) := by
  obtain ⟨b, hb, hz⟩ := cut_even s n (n.log2 - 52) (by omega)
  refine ⟨n / 2 ^ (n.log2 - 52) + b.toNat, ?_, ?_, ?_⟩
  · unfold Format.nearest
    rw [if_neg h, lp_eq, fb_eq, bin_eq, inf_eq]
    have e : max ((-1074 : Int) + (n.log2 : Int) - ((52 : Nat) : Int)) (-1074) = -1074 + ((n.log2 - 52 : Nat) : Int) := by omega
    simp only [e]
    have a1 : ((-1074 : Int) - (-1074 + ((n.log2 - 52 : Nat) : Int))).toNat = 0 := by omega
    have a2 : ((-1074 : Int) + ((n.log2 - 52 : Nat) : Int) - -1074).toNat = n.log2 - 52 := by omega
    rw [a1, a2, Nat.shiftLeft_zero, hb]
    rfl
  · cases b <;> simp
  · intro e
    rw [hz e]; simp

theorem nearest_units (s : Bool) (m k : Nat) (h : m ≠ 0) : double.nearest s m (-1074 + (k : Int)) = double.nearest s (m * 2 ^ k) (-1074) := by
  have := nearest_scale s m k (-1074 + (k : Int)) h
  rw [show -1074 + (k : Int) - (k : Int) = -1074 by omega] at this
  exact this.symm

/-- a number that is a rung's is written as that rung -/
theorem write_val (s : Bool) (r : Nat) (h : r < 9218868437227405312) (h0 : 0 < r) : double.nearest s (val r) (-1074) = wd s r := by
  have hv := val_pos h0
  obtain ⟨q, hq, _, hex⟩ := units_form s (val r) (by omega)
  rw [hq]
  clear hq
  obtain ⟨l, m, rfl, hm, hl, e⟩ := form r
  rw [e] at hv hex ⊢
  have hp : 0 < 2 ^ l := Nat.two_pow_pos _
  have hm0 : m ≠ 0 := by rintro rfl; omega
  have hlog : (m * 2 ^ l).log2 - 52 = l := by
    rw [log2_scale m l hm0]
    have a : m.log2 < 53 := (Nat.log2_lt hm0).2 (by omega)
    rcases hl with rfl | hl
    · omega
    · have := (Nat.le_log2 hm0 (k := 52)).2 (by omega)
      omega
  rw [hlog] at hex ⊢
  rw [hex (Nat.mul_mod_left _ _), Nat.mul_div_cancel _ hp, Nat.min_eq_left (by omega)]

/-- a number that is no greater than a rung's is written as no greater a rung -/
theorem write_le (s : Bool) (n r : Nat) (h : r < 9218868437227405312) (hn : n ≠ 0) (hle : n ≤ val r) : ∃ d, d ≤ r ∧ double.nearest s n (-1074) = wd s d := by
  obtain ⟨q, hq, hq1, hex⟩ := units_form s n hn
  refine ⟨_, ?_, hq⟩
  refine Nat.le_trans (Nat.min_le_left _ _) ?_
  obtain ⟨l, m, rfl, hm, hl, e⟩ := form r
  rw [e] at hle
  clear hq e
  have b : n < 2 ^ (n.log2 + 1) := Nat.lt_log2_self
  have a : 2 ^ n.log2 ≤ n := Nat.log2_self_le hn
  have hp : 0 < 2 ^ l := Nat.two_pow_pos _
  by_cases c : n.log2 < 53
  · have e0 : n.log2 - 52 = 0 := by omega
    rw [e0] at hex hq1 ⊢
    have hq2 := hex (Nat.mod_one _)
    rw [Nat.pow_zero, Nat.div_one] at hq2
    rw [hq2]
    have hn2 : n < 9007199254740992 := Nat.lt_of_lt_of_le b (Nat.pow_le_pow_right (by omega) (show n.log2 + 1 ≤ 53 by omega))
    rcases Nat.eq_zero_or_pos l with rfl | hl0
    · omega
    · omega
  · obtain ⟨k, hk⟩ : ∃ k, n.log2 = 52 + k := ⟨n.log2 - 52, by omega⟩
    rw [hk] at a b
    rw [hk, show 52 + k - 52 = k by omega] at hq1 hex ⊢
    have hpk : 0 < 2 ^ k := Nat.two_pow_pos _
    have hkl : k ≤ l := by
      have h1 : 2 ^ (52 + k) < 2 ^ (53 + l) := by
        refine Nat.lt_of_le_of_lt (Nat.le_trans a hle) ?_
        rw [Nat.pow_add]
        exact (Nat.mul_lt_mul_right hp).2 (by omega)
      have := (Nat.pow_lt_pow_iff_right (by omega : 1 < 2)).1 h1
      omega
    obtain ⟨c, rfl⟩ : ∃ c, l = k + c := ⟨l - k, by omega⟩
    have e : m * 2 ^ (k + c) = m * 2 ^ c * 2 ^ k := by rw [Nat.pow_add, Nat.mul_comm (2 ^ k), Nat.mul_assoc]
    rw [e] at hle
    have hdm := Nat.div_add_mod n (2 ^ k)
    have hmod := Nat.mod_lt n hpk
    have hq3 : q ≤ m * 2 ^ c := by
      by_cases z : n % 2 ^ k = 0
      · rw [hex z]
        rw [z, Nat.add_zero, Nat.mul_comm] at hdm
        rw [← hdm] at hle
        exact Nat.le_of_mul_le_mul_right hle hpk
      · have : n / 2 ^ k < m * 2 ^ c := by
          rcases Nat.lt_or_ge (n / 2 ^ k) (m * 2 ^ c) with x | x
          · exact x
          · have := Nat.mul_le_mul_right (2 ^ k) x
            rw [Nat.mul_comm (n / 2 ^ k)] at this
            omega
        omega
    have hq4 : q ≤ 9007199254740992 := by
      have : n / 2 ^ k < 9007199254740992 := by
        rw [Nat.div_lt_iff_lt_mul hpk]
        rw [show 52 + k + 1 = 53 + k by omega, Nat.pow_add] at b
        exact b
      omega
    rcases Nat.eq_zero_or_pos c with rfl | hc
    · rw [Nat.pow_zero, Nat.mul_one] at hq3
      omega
    · omega

/-! ### orders, sums, products -/
/-- a number with its sign -/
def sg (s : Bool) (n : Nat) : Int := if s then -(n : Int) else n
theorem sg_mul (s : Bool) (n c : Nat) : sg s (n * c) = sg s n * c := by
  unfold sg
  split
  · rw [Int.neg_mul]; simp
  · simp
theorem signed_eq (s : Bool) (m up : Nat) : signed s m up = sg s (m * 2 ^ up) := by
  unfold signed sg
  simp only [Nat.shiftLeft_eq]
theorem compare_scale (a b : Int) (c : Nat) (h : 0 < c) : compare (a * c) (b * c) = compare a b := by
  have hc : (0 : Int) < c := by omega
  show compareOfLessAndEq _ _ = compareOfLessAndEq _ _
  unfold compareOfLessAndEq
  have e1 : (a * (c : Int) < b * (c : Int)) = (a < b) := propext ⟨fun x => Int.lt_of_mul_lt_mul_right x (Int.le_of_lt hc), fun x => Int.mul_lt_mul_of_pos_right x hc⟩
  have e2 : (a * (c : Int) = b * (c : Int)) = (a = b) := propext ⟨fun x => Int.eq_of_mul_eq_mul_right (by omega) x, fun x => by rw [x]⟩
  simp only [e1, e2]

theorem order_fin (s t : Bool) (r r' : Nat) (h : r < 9218868437227405312) (h' : r' < 9218868437227405312) : double.order (wd s r) (wd t r') = some (compare (sg s (val r)) (sg t (val r'))) := by
  obtain ⟨m, k, e, hv⟩ := read_fin s r h
  obtain ⟨n, j, e', hv'⟩ := read_fin t r' h'
  unfold Format.order
  rw [e, e']
  show some (compare _ _) = _
  congr 1
  rw [signed_eq, signed_eq]
  have hmin : min (-1074 + (k : Int)) (-1074 + (j : Int)) = -1074 + ((min k j : Nat) : Int) := by omega
  rw [hmin]
  have a1 : (-1074 + (k : Int) - (-1074 + ((min k j : Nat) : Int))).toNat = k - min k j := by omega
  have a2 : (-1074 + (j : Int) - (-1074 + ((min k j : Nat) : Int))).toNat = j - min k j := by omega
  rw [a1, a2, ← compare_scale _ _ (2 ^ min k j) (Nat.two_pow_pos _), ← sg_mul, ← sg_mul, Nat.mul_assoc, Nat.mul_assoc, ← Nat.pow_add, ← Nat.pow_add,
    Nat.sub_add_cancel (Nat.min_le_left _ _), Nat.sub_add_cancel (Nat.min_le_right _ _), hv, hv']

/-- the sum of two finite numbers, in units -/
theorem sum_fin (s t : Bool) (r r' : Nat) (h : r < 9218868437227405312) (h' : r' < 9218868437227405312) :
    double.add (wd s r) (wd t r') = some (if sg s (val r) + sg t (val r') = 0 then wd (s && t) 0 else double.nearest (decide (sg s (val r) + sg t (val r') < 0)) (sg s (val r) + sg t (val r')).natAbs (-1074)) := by
  obtain ⟨m, k, e, hv⟩ := read_fin s r h
  obtain ⟨n, j, e', hv'⟩ := read_fin t r' h'
  unfold Format.add
  rw [e, e']
  have hmin : min (-1074 + (k : Int)) (-1074 + (j : Int)) = -1074 + ((min k j : Nat) : Int) := by omega
  have a1 : (-1074 + (k : Int) - (-1074 + ((min k j : Nat) : Int))).toNat = k - min k j := by omega
  have a2 : (-1074 + (j : Int) - (-1074 + ((min k j : Nat) : Int))).toNat = j - min k j := by omega
  have hp : 0 < 2 ^ min k j := Nat.two_pow_pos _
  have hs : sg s (val r) + sg t (val r') = (sg s (m * 2 ^ (k - min k j)) + sg t (n * 2 ^ (j - min k j))) * ((2 ^ min k j : Nat) : Int) := by
    rw [Int.add_mul, ← sg_mul, ← sg_mul, Nat.mul_assoc, Nat.mul_assoc, ← Nat.pow_add, ← Nat.pow_add, Nat.sub_add_cancel (Nat.min_le_left _ _), Nat.sub_add_cancel (Nat.min_le_right _ _), hv, hv']
  rw [hs]
  simp only [Datum.sum, hmin, a1, a2, signed_eq, Option.map_some, Option.some.injEq]
  generalize sg s (m * 2 ^ (k - min k j)) + sg t (n * 2 ^ (j - min k j)) = T
  have hpz : ((2 ^ min k j : Nat) : Int) ≠ 0 := by omega
  by_cases z : T = 0
  · subst z
    rw [Int.zero_mul, if_pos rfl, if_pos rfl]
    rfl
  · have z' : ¬ T * ((2 ^ min k j : Nat) : Int) = 0 := Int.mul_ne_zero z hpz
    rw [if_neg z, if_neg z']
    have e3 : (T * ((2 ^ min k j : Nat) : Int)).natAbs = T.natAbs * 2 ^ min k j := by rw [Int.natAbs_mul]; rfl
    have e4 : decide (T * ((2 ^ min k j : Nat) : Int) < 0) = decide (T < 0) := by
      congr 1
      exact propext ⟨fun x => by
        rcases Int.lt_or_le T 0 with y | y
        · exact y
        · have := Int.mul_nonneg y (Int.natCast_nonneg (2 ^ min k j)); omega, fun x => Int.mul_neg_of_neg_of_pos x (by omega)⟩
    rw [e3, e4]
    show double.nearest _ _ _ = _
    exact nearest_units _ _ _ (by omega)

theorem sub_opp (x : Nat) (s : Bool) (r : Nat) (h : r < 9218868437227405312) : double.sub x (wd s r) = double.add x (wd (!s) r) := by
  obtain ⟨m, k, e, hv⟩ := read_fin s r h
  have e' : double.read (wd (!s) r) = .number (!s) m (-1074 + (k : Int)) := by
    unfold Format.read at e ⊢
    rw [wd_neg s r (by omega), wd_rung s r (by omega)] at e
    rw [wd_neg (!s) r (by omega), wd_rung (!s) r (by omega)]
    dsimp only at e ⊢
    split at e
    · rename_i c; rw [if_pos c]; rw [Datum.number.injEq] at e ⊢; exact ⟨rfl, e.2⟩
    · rename_i c
      rw [if_neg c]
      split at e
      · rename_i c2; rw [if_pos c2]; rw [Datum.number.injEq] at e ⊢; exact ⟨rfl, e.2⟩
      · split at e <;> cases e
  unfold Format.sub Format.add
  rw [e, e']
  rfl

/-- a difference that is a rung's -/
theorem sub_exact (r t d : Nat) (hr : r < 9218868437227405312) (ht : t < 9218868437227405312) (hd : d < 9218868437227405312) (h : val r = val t + val d) : double.sub (wd false r) (wd false t) = some (wd false d) := by
  rw [sub_opp _ _ _ ht]
  show double.add (wd false r) (wd true t) = _
  rw [sum_fin false true r t hr ht]
  have e : sg false (val r) + sg true (val t) = (val d : Int) := by simp [sg]; omega
  simp only [e]
  rcases Nat.eq_zero_or_pos d with rfl | hd0
  · rw [val_zero]; rfl
  · have hv := val_pos hd0
    rw [if_neg (by omega)]
    have e1 : decide ((val d : Int) < 0) = false := by simp
    rw [e1, Int.natAbs_natCast, write_val false d hd hd0]

/-- a sum of two numbers of opposite signs, the second the greater -/
theorem add_opp (s : Bool) (r r' : Nat) (h : r < 9218868437227405312) (h' : r' < 9218868437227405312) (hlt : val r < val r') :
    ∃ d, d ≤ r' ∧ double.add (wd s r) (wd (!s) r') = some (wd (!s) d) ∧ ∀ e, e < 9218868437227405312 → val e = val r' - val r → d = e := by
  have hn : val r' - val r ≠ 0 := by omega
  obtain ⟨d, hd, hw⟩ := write_le (!s) (val r' - val r) r' h' hn (by omega)
  refine ⟨d, hd, ?_, ?_⟩
  · rw [sum_fin s (!s) r r' h h']
    have e0 : sg s (val r) + sg (!s) (val r') ≠ 0 := by cases s <;> simp [sg] <;> omega
    have e1 : decide (sg s (val r) + sg (!s) (val r') < 0) = !s := by cases s <;> simp [sg] <;> omega
    have e2 : (sg s (val r) + sg (!s) (val r')).natAbs = val r' - val r := by cases s <;> simp [sg] <;> omega
    rw [if_neg e0, e1, e2, hw]
  · intro e he hv
    have he0 : 0 < e := by
      rcases Nat.eq_zero_or_pos e with rfl | x
      · rw [val_zero] at hv; omega
      · exact x
    rw [← hv, write_val (!s) e he he0] at hw
    have : e < 9223372036854775808 := by omega
    cases s <;> simp [wd_true, wd_false] at hw <;> omega

/-- a product with a power of two: where the exact result is a rung's -/
theorem mul_exact (s : Bool) (r d m k j : Nat) (x : Nat) (n : Nat) (p : Int) (hr : double.read (wd s r) = .number s m (-1074 + (k : Int))) (hx : double.read x = .number false n p) (hd : d < 9218868437227405312) (hd0 : 0 < d)
    (hv : (m * n) * 2 ^ k = val d * 2 ^ j) (hp : p = -(j : Int)) : double.mul x (wd s r) = some (wd s d) ∧ double.mul (wd s r) x = some (wd s d) := by
  have hvd := val_pos hd0
  have hpj : 0 < 2 ^ j := Nat.two_pow_pos _
  have hmn : m * n ≠ 0 := by
    intro e
    rw [e, Nat.zero_mul] at hv
    have := Nat.mul_pos hvd hpj
    omega
  have key : double.nearest s (m * n) (-1074 + (k : Int) - (j : Int)) = wd s d := by
    have a := nearest_scale s (m * n) k (-1074 + (k : Int) - (j : Int)) hmn
    rw [hv] at a
    have b := nearest_scale s (val d) j (-1074) (by omega)
    rw [← a, show -1074 + (k : Int) - (j : Int) - (k : Int) = -1074 - (j : Int) by omega, b]
    exact write_val s d hd hd0
  subst hp
  unfold Format.mul
  rw [hr, hx]
  constructor
  · show some (double.nearest (false ^^ s) (n * m) (-(j : Int) + (-1074 + (k : Int)))) = _
    rw [Nat.mul_comm n m, show -(j : Int) + (-1074 + (k : Int)) = -1074 + (k : Int) - (j : Int) by omega, Bool.false_xor, key]
  · show some (double.nearest (s ^^ false) (m * n) (-1074 + (k : Int) + -(j : Int))) = _
    rw [show -1074 + (k : Int) + -(j : Int) = -1074 + (k : Int) - (j : Int) by omega, Bool.xor_false, key]
end Go.Proofs.Yteaopkanlnpiaaa
