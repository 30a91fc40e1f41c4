/- The contracts of math.Abs, IsInf, IsNaN, NaN, normalize, Frexp, Ldexp at finite numbers. -/
import Derived.Test.YteaopkanlnpiaaaRows
import Derived.Test.YteaopkanlnpiaaaBits
import Derived.Test.YteaopkanlnpiaaaFloat
import Derived.WalkLawsBesides
import Derived.WalkSpells
import Derived.Lib.Hide
import Derived.Deep.QuietTactic
import Derived.BigQuiet
namespace Go.Proofs.Yteaopkanlnpiaaa
open Go.RowKit
set_option linter.unusedVariables false

theorem fmt_eq : FloatKind.f64.format = Ieee.double := rfl

/-! ### bits -/
theorem wd_lt (s : Bool) (r : Nat) (h : r < 9223372036854775808) : wd s r < 18446744073709551616 := by
  cases s
  · rw [wd_false]; omega
  · rw [wd_true]; omega
theorem nat_mask63 (x : Nat) : x &&& 9223372036854775807 = x % 9223372036854775808 := Nat.and_two_pow_sub_one_eq_mod x 63
theorem nat_mask52 (x : Nat) : x &&& 4503599627370495 = x % 4503599627370496 := Nat.and_two_pow_sub_one_eq_mod x 52
theorem nat_mask11' (x : Nat) : x &&& 2047 = x % 2048 := Nat.and_two_pow_sub_one_eq_mod x 11
theorem abs_bits (s : Bool) (r : Nat) (h : r < 9223372036854775808) : bits .andNot .u64 ((wd s r : Nat) : Int) 9223372036854775808 = (r : Int) := by
  have e := u64_andNot_nat (wd s r) 9223372036854775808 (wd_lt s r h) (by omega)
  have e' : ((9223372036854775808 : Nat) : Int) = 9223372036854775808 := rfl
  rw [e'] at e
  rw [e, show 18446744073709551615 - 9223372036854775808 = 9223372036854775807 from rfl, nat_mask63]
  cases s
  · rw [wd_false, Nat.mod_eq_of_lt h]
  · rw [wd_true]; omega
theorem frac_bits (x : Nat) (h : x < 9223372036854775808) : bits .andNot .u64 (x : Int) 9218868437227405312 = ((x % 4503599627370496 : Nat) : Int) := by
  have e := u64_andNot_nat x 9218868437227405312 (by omega) (by omega)
  have e' : ((9218868437227405312 : Nat) : Int) = 9218868437227405312 := rfl
  rw [e'] at e
  rw [e, show 18446744073709551615 - 9218868437227405312 = 9223372036854775808 ||| 4503599627370495 by decide, Nat.and_or_distrib_left, nat_mask52]
  have b := nat_bit 63 x
  rw [show (2 : Nat) ^ 63 = 9223372036854775808 from rfl] at b
  rw [b, show x / 9223372036854775808 = 0 by omega]
  simp
theorem put_bits (q e : Nat) (h : q < 4503599627370496) (he : e < 2048) : bits .or .u64 (q : Int) ((e * 4503599627370496 : Nat) : Int) = ((e * 4503599627370496 + q : Nat) : Int) := by
  rw [u64_or_nat q (e * 4503599627370496) (by omega) (by omega), Nat.or_comm, nat_join 52 (e * 4503599627370496) q (Nat.mul_mod_left _ _) h]
theorem exp_bits (x : Nat) (h : x < 9223372036854775808) : bits .and .u64 ((x / 4503599627370496 : Nat) : Int) 2047 = ((x / 4503599627370496 : Nat) : Int) := by
  have e := u64_and_nat (x / 4503599627370496) 2047 (by omega) (by omega)
  have e' : ((2047 : Nat) : Int) = 2047 := rfl
  rw [e'] at e
  rw [e, nat_mask11']
  omega
theorem exp_bits' (x : Nat) (h : x < 9223372036854775808) : bits .and .i64 ((x / 4503599627370496 : Nat) : Int) 2047 = ((x / 4503599627370496 : Nat) : Int) := by
  rw [and_i64_bv]
  have e : ((2047 : Int) % 18446744073709551616).toNat = 2047 := by decide
  have e2 : (((x / 4503599627370496 : Nat) : Int) % 18446744073709551616).toNat = x / 4503599627370496 := by omega
  rw [e, e2, nat_mask11', wrap_i64_small] <;> omega

/-! ### the functions -/
theorem run_bits (x : Nat) (w : World) : (callFunc 19 #[.float .f64 x]).run Try.prog w = .ok (.value (.int .u64 x)) w := by kernel_rfl
theorem run_frombits (n : Int) (w : World) : (callFunc 18 #[.int .u64 n]).run Try.prog w = .ok (.value (.float .f64 n.toNat)) w := by kernel_rfl

theorem abs_any (s : Bool) (r : Nat) (h : r < 9223372036854775808) (w : World) :
    Calls Try.prog 15 #[.float .f64 (wd s r)] w fun e w' => e = .returned (.float .f64 r) ∧ w = w' := by
  have hb := abs_bits s r h
  have r1 := run_bits (wd s r)
  have r2 := run_frombits (r : Int)
  rw [Int.toNat_natCast] at r2
  go_enter Try.func15, Try.ntmps15
  go_wp2
  go_ret
  exact ⟨rfl, rfl⟩
theorem cmp_lt {a b : Int} (h : a < b) : compare a b = .lt := by
  show compareOfLessAndEq a b = _
  unfold compareOfLessAndEq; rw [if_pos h]
theorem cmp_eq {a b : Int} (h : a = b) : compare a b = .eq := by
  show compareOfLessAndEq a b = _
  unfold compareOfLessAndEq; rw [if_neg (by omega), if_pos h]
theorem cmp_gt {a b : Int} (h : b < a) : compare a b = .gt := by
  show compareOfLessAndEq a b = _
  unfold compareOfLessAndEq; rw [if_neg (by omega), if_neg (by omega)]
theorem ord_lt (s t : Bool) (r r' : Nat) (h : r < 9218868437227405312) (h' : r' < 9218868437227405312) (hc : sg s (val r) < sg t (val r')) : FloatKind.f64.format.order (wd s r) (wd t r') = some .lt := by
  rw [fmt_eq, order_fin s t r r' h h', cmp_lt hc]
theorem ord_eq (s t : Bool) (r r' : Nat) (h : r < 9218868437227405312) (h' : r' < 9218868437227405312) (hc : sg s (val r) = sg t (val r')) : FloatKind.f64.format.order (wd s r) (wd t r') = some .eq := by
  rw [fmt_eq, order_fin s t r r' h h', cmp_eq hc]
theorem ord_gt (s t : Bool) (r r' : Nat) (h : r < 9218868437227405312) (h' : r' < 9218868437227405312) (hc : sg t (val r') < sg s (val r)) : FloatKind.f64.format.order (wd s r) (wd t r') = some .gt := by
  rw [fmt_eq, order_fin s t r r' h h', cmp_gt hc]
/-! two numbers without a sign -/
theorem pos_lt (r r' : Nat) (h' : r' < 9218868437227405312) (hc : r < r') : FloatKind.f64.format.order r r' = some .lt := by
  have := val_lt hc
  exact ord_lt false false r r' (by omega) h' (by simp [sg]; exact this)
theorem pos_eq (r : Nat) (h : r < 9218868437227405312) : FloatKind.f64.format.order r r = some .eq := ord_eq false false r r h h rfl
theorem pos_gt (r r' : Nat) (h : r < 9218868437227405312) (hc : r' < r) : FloatKind.f64.format.order r r' = some .gt := by
  have := val_lt hc
  exact ord_gt false false r r' h (by omega) (by simp [sg]; exact this)
theorem bl {o : Option Ordering} {a b : Ordering} {c : Bool} (h : o = some a) (hab : (a == b) = c) : (o == some b) = c := by
  subst h; rw [← hab]; rfl

theorem isInf_fin (s : Bool) (r : Nat) (h : r < 9218868437227405312) (w : World) :
    Calls Try.prog 12 #[.float .f64 (wd s r), .int .i64 0] w fun e w' => e = .returned (.bool false) ∧ w = w' := by
  have ho : (FloatKind.f64.format.order r 9218868437227405311 == some Ordering.gt) = false := by
    rcases Nat.lt_or_eq_of_le (show r ≤ 9218868437227405311 by omega) with e | e
    · exact bl (pos_lt r _ (by omega) e) rfl
    · subst e; exact bl (pos_eq _ (by omega)) rfl
  go_enter Try.func12, Try.ntmps12
  go_wp2_with fail
  refine (abs_any s r (by omega) _).mono ?_
  rintro e w' ⟨rfl, rfl⟩
  go_wp2
  go_ret
  exact ⟨rfl, rfl⟩
theorem isNaN_fin (s : Bool) (r : Nat) (h : r < 9218868437227405312) (w : World) :
    Calls Try.prog 13 #[.float .f64 (wd s r)] w fun e w' => e = .returned (.bool false) ∧ w = w' := by
  have ho : (FloatKind.f64.format.order (wd s r) (wd s r) != some Ordering.eq) = false := by
    rw [ord_eq s s r r h h rfl]; rfl
  go_enter Try.func13, Try.ntmps13
  go_wp2
  go_ret
  exact ⟨rfl, rfl⟩

/-- a number made normal -/
def Norm (r : Nat) (e : Ending) : Prop := ∃ n L : Nat, e = .returned (.tuple #[.float .f64 n, .int .i64 ((L : Int) - 1073 - ((n / 4503599627370496 : Nat) : Int) + 1022)]) ∧ n < 9218868437227405312 ∧ 4503599627370496 ≤ n ∧ (4503599627370496 + n % 4503599627370496) * 2 ^ L = val r * 4503599627370496 ∧ L ≤ 2097

theorem norm_small (r : Nat) (h : r < 4503599627370496) (h0 : 0 < r) : ∃ n L : Nat, n < 9218868437227405312 ∧ 4503599627370496 ≤ n ∧ n / 4503599627370496 = L + 1 ∧ val n = r * 4503599627370496 ∧ (4503599627370496 + n % 4503599627370496) * 2 ^ L = r * 4503599627370496 ∧ L ≤ 52 := by
  obtain ⟨n, hn, hv⟩ := rep (r * 4503599627370496) 52 (by rw [show (2 : Nat) ^ 52 = 4503599627370496 from rfl]; exact Nat.mul_mod_left _ _) (by rw [show (2 : Nat) ^ 52 = 4503599627370496 from rfl]; omega) (by omega)
  have hB : val 4503599627370496 = 4503599627370496 := by decide +kernel
  have hge : 4503599627370496 ≤ n := by
    apply le_of_val
    rw [hB, hv]; omega
  have hv2 := hv
  unfold val at hv2
  rw [if_neg (by omega)] at hv2
  refine ⟨n, n / 4503599627370496 - 1, hn, hge, by omega, hv, hv2, ?_⟩
  rcases Nat.lt_or_ge 52 (n / 4503599627370496 - 1) with c | c
  · have h1 : 2 ^ 53 ≤ 2 ^ (n / 4503599627370496 - 1) := Nat.pow_le_pow_right (by omega) c
    rw [show (2 : Nat) ^ 53 = 9007199254740992 from rfl] at h1
    have h2 := Nat.mul_le_mul (show 4503599627370496 ≤ 4503599627370496 + n % 4503599627370496 by omega) h1
    omega
  · exact c

set_option maxRecDepth 100000 in
theorem normalize_any (r : Nat) (h : r < 9218868437227405312) (h0 : 0 < r) (w : World) :
    Calls Try.prog 24 #[.float .f64 r] w fun e w' => Norm r e ∧ w = w' := by
  have habs := fun wx => abs_any false r (by omega) wx
  by_cases c : r < 4503599627370496
  · have ho : (FloatKind.f64.format.order r 4503599627370496 == some Ordering.lt) = true := bl (pos_lt r _ (by omega) c) rfl
    obtain ⟨n, L, hn, hge, hL, hv, hm, hL2⟩ := norm_small r c h0
    have hmul : (binOp BinOp.mul 22 (.float .f64 r) (.float .f64 4841369599423283200)).run Try.prog w = .ok (.float .f64 n) w := by
      refine run_float_arith w .mul _ .f64 _ _ _ ?_
      obtain ⟨m, k, e1, e2⟩ := read_fin false r (by omega)
      have e3 : Ieee.double.read 4841369599423283200 = .number false 4503599627370496 0 := by decide +kernel
      have hvr : val r = r := by unfold val; rw [if_pos c]
      have hn0 : 0 < n := by omega
      exact (mul_exact false r n m k 0 4841369599423283200 4503599627370496 0 e1 e3 hn hn0 (by rw [hv, Nat.pow_zero, Nat.mul_one, Nat.mul_right_comm, e2, hvr]) (by omega)).2
    go_enter Try.func24, Try.ntmps24
    go_wp2_with fail
    refine (habs _).mono ?_
    rintro e w' ⟨rfl, rfl⟩
    go_wp2
    refine bodyPost_ret (v := .tuple #[.float .f64 n, .int .i64 (-52)]) (by simp [results, Try.results24, go_sem]) rfl ⟨⟨n, L, ?_, hn, hge, ?_, by omega⟩, rfl⟩
    · rw [hL, show (L : Int) - 1073 - ((L + 1 : Nat) : Int) + 1022 = -52 by omega]
    · rw [hm]; unfold val; rw [if_pos c]
  · have ho : (FloatKind.f64.format.order r 4503599627370496 == some Ordering.lt) = false := by
      rcases Nat.lt_or_eq_of_le (show 4503599627370496 ≤ r by omega) with e | e
      · exact bl (pos_gt r _ h e) rfl
      · rw [← e]; exact bl (pos_eq _ (by omega)) rfl
    go_enter Try.func24, Try.ntmps24
    go_wp2_with fail
    refine (habs _).mono ?_
    rintro e w' ⟨rfl, rfl⟩
    go_wp2
    have hf : val r = (4503599627370496 + r % 4503599627370496) * 2 ^ (r / 4503599627370496 - 1) := by unfold val; rw [if_neg c]
    refine bodyPost_ret (v := .tuple #[.float .f64 r, .int .i64 0]) (by simp [results, Try.results24, go_sem]) rfl ⟨⟨r, r / 4503599627370496 - 1 + 52, ?_, h, by omega, ?_, by omega⟩, rfl⟩
    · rw [show ((r / 4503599627370496 - 1 + 52 : Nat) : Int) - 1073 - ((r / 4503599627370496 : Nat) : Int) + 1022 = 0 by omega]
    · rw [hf, Nat.pow_add, ← Nat.mul_assoc]

/-- fraction and exponent -/
def Frac (r : Nat) (e : Ending) : Prop := ∃ q L : Nat, e = .returned (.tuple #[.float .f64 ((4602678819172646912 + q : Nat)), .int .i64 ((L : Int) - 1073)]) ∧ q < 4503599627370496 ∧ (4503599627370496 + q) * 2 ^ L = val r * 4503599627370496 ∧ L ≤ 2097

set_option maxRecDepth 100000 in
theorem frexp_any (r : Nat) (h : r < 9218868437227405312) (h0 : 0 < r) (w : World) :
    Calls Try.prog 21 #[.float .f64 r] w fun e w' => Frac r e ∧ w = w' := by
  have hinf := fun wx => isInf_fin false r h wx
  have hnan := fun wx => isNaN_fin false r h wx
  have ho : (FloatKind.f64.format.order r 0 == some Ordering.eq) = false := bl (pos_gt r 0 h h0) rfl
  go_enter Try.func21, Try.ntmps21
  go_wp2_with fail
  refine (hinf _).mono ?_
  rintro e w' ⟨rfl, rfl⟩
  go_wp2_with fail
  refine (hnan _).mono ?_
  rintro e w' ⟨rfl, rfl⟩
  go_wp2_with fail
  refine (normalize_any r h h0 _).mono ?_
  rintro e w' ⟨⟨n, L, rfl, hn, hge, hm, hL⟩, rfl⟩
  have r1 := run_bits n
  have b1 : bits .and .u64 ((n : Int) / 4503599627370496) 2047 = (n : Int) / 4503599627370496 := by simpa using exp_bits n (by omega)
  have b2 : bits .andNot .u64 (n : Int) 9218868437227405312 = (n : Int) % 4503599627370496 := by simpa using frac_bits n (by omega)
  have b3 : bits .or .u64 ((n : Int) % 4503599627370496) 4602678819172646912 = 4602678819172646912 + (n : Int) % 4503599627370496 := by
    simpa using put_bits (n % 4503599627370496) 1022 (by omega) (by omega)
  have r2 := run_frombits (4602678819172646912 + (n : Int) % 4503599627370496)
  have e2 : (4602678819172646912 + (n : Int) % 4503599627370496).toNat = 4602678819172646912 + n % 4503599627370496 := by omega
  rw [e2] at r2
  have z1 : (L : Int) ≤ 2097 := by omega
  have z2 : 1 ≤ (n : Int) / 4503599627370496 := by omega
  have z3 : (n : Int) / 4503599627370496 ≤ 2046 := by omega
  clear hinf hnan ho e2
  go_wp2
  refine bodyPost_ret (v := .tuple #[.float .f64 (4602678819172646912 + n % 4503599627370496), .int .i64 ((L : Int) - 1073)]) ?_ rfl ⟨⟨n % 4503599627370496, L, rfl, by omega, hm, hL⟩, rfl⟩
  have e3 : (L : Int) - 1073 - (n : Int) / 4503599627370496 + 1022 + ((n : Int) / 4503599627370496 - 1023 + 1) = (L : Int) - 1073 := by omega
  simp [results, Try.results21, go_sem, e3]

set_option maxRecDepth 100000 in
theorem Frexp_any (r : Nat) (h : r < 9218868437227405312) (h0 : 0 < r) (w : World) :
    Calls Try.prog 16 #[.float .f64 r] w fun e w' => Frac r e ∧ w = w' := by
  go_enter Try.func16, Try.ntmps16
  go_wp2_with fail
  refine (frexp_any r h h0 _).mono ?_
  rintro e w' ⟨⟨q, L, rfl, hq⟩, rfl⟩
  go_wp2
  refine bodyPost_ret (v := .tuple #[.float .f64 (4602678819172646912 + q : Nat), .int .i64 ((L : Int) - 1073)]) (by simp [results, Try.results16, go_sem]) rfl ⟨⟨q, L, rfl, hq⟩, rfl⟩
theorem val_bound (r N : Nat) (hN : N = 2045) (h : r < 9218868437227405312) : val r < 2 ^ (53 + N) := by
  obtain ⟨l, m, rfl, hm, hl, hv⟩ := form r
  rw [hv, Nat.pow_add]
  refine Nat.lt_of_lt_of_le ((Nat.mul_lt_mul_right (Nat.two_pow_pos l)).2 hm) ?_
  exact Nat.mul_le_mul_left _ (Nat.pow_le_pow_right (by omega) (by omega))

def Scaled (y k : Nat) (e : Ending) : Prop := ∃ t : Nat, e = .returned (.float .f64 t) ∧ t < 9218868437227405312 ∧ val t = val y * 2 ^ k

set_option maxRecDepth 100000 in
theorem ldexp_any (y k rb : Nat) (h : y < 9218868437227405312) (h0 : 0 < y) (hr : rb < 9218868437227405312) (hle : val y * 2 ^ k ≤ val rb) (w : World) :
    Calls Try.prog 23 #[.float .f64 y, .int .i64 k] w fun e w' => Scaled y k e ∧ w = w' := by
  have hinf := fun wx => isInf_fin false y h wx
  have hnan := fun wx => isNaN_fin false y h wx
  have ho : (FloatKind.f64.format.order y 0 == some Ordering.eq) = false := bl (pos_gt y 0 h h0) rfl
  obtain ⟨N, hN⟩ : ∃ N, N = 2045 := ⟨_, rfl⟩
  have hvb := val_bound rb N hN hr
  have hk2 : k ≤ 2098 := by
    rcases Nat.lt_or_ge 2098 k with c | c
    · have h1 : 2 ^ (53 + N) ≤ 2 ^ k := Nat.pow_le_pow_right (by omega) (by omega)
      have h2 := Nat.mul_le_mul (val_pos h0) h1
      omega
    · exact c
  go_enter Try.func23, Try.ntmps23
  go_wp2_with fail
  refine (hinf _).mono ?_
  rintro e w' ⟨rfl, rfl⟩
  go_wp2_with fail
  refine (hnan _).mono ?_
  rintro e w' ⟨rfl, rfl⟩
  go_wp2_with fail
  refine (normalize_any y h h0 _).mono ?_
  rintro e w' ⟨⟨n, L, rfl, hn, hge, hm, hL⟩, rfl⟩
  have hLk : L + k < 2098 := by
    have e1 : (4503599627370496 + n % 4503599627370496) * 2 ^ (L + k) = val y * 2 ^ k * 4503599627370496 := by
      rw [Nat.pow_add, ← Nat.mul_assoc, hm, Nat.mul_right_comm]
    have e2 := Nat.mul_le_mul_right 4503599627370496 hle
    rw [← e1] at e2
    have e3 : 2 ^ (L + k) * 4503599627370496 ≤ val rb * 4503599627370496 := by
      refine Nat.le_trans ?_ e2
      rw [Nat.mul_comm]
      exact Nat.mul_le_mul_right _ (by omega)
    have e4 := Nat.lt_of_le_of_lt (Nat.le_of_mul_le_mul_right e3 (by omega)) hvb
    have e6 := (Nat.pow_lt_pow_iff_right (by omega : 1 < 2)).1 e4
    omega
  have r1 := run_bits n
  have b1 : bits .and .i64 ((n : Int) / 4503599627370496) 2047 = (n : Int) / 4503599627370496 := by simpa using exp_bits' n (by omega)
  have b2 : bits .andNot .u64 (n : Int) 9218868437227405312 = (n : Int) % 4503599627370496 := by simpa using frac_bits n (by omega)
  have z1 : (L : Int) + (k : Int) < 2098 := by omega
  have z2 : 1 ≤ (n : Int) / 4503599627370496 := by omega
  have z3 : (n : Int) / 4503599627370496 ≤ 2046 := by omega
  have z4 : (L : Int) ≤ 2097 := by omega
  have z5 : (k : Int) ≤ 2098 := by omega
  have e5 : (k : Int) + ((L : Int) - 1073 - (n : Int) / 4503599627370496 + 1022) + ((n : Int) / 4503599627370496 - 1023) = (k : Int) + (L : Int) - 1074 := by omega
  clear hinf hnan ho hvb hle hN
  by_cases c : L + k < 52
  · have z6 : (k : Int) + (L : Int) < 52 := by omega
    have b3 : bits .or .u64 ((n : Int) % 4503599627370496) (((k : Int) + (L : Int) - 1074 + 53 + 1023) * 4503599627370496) = (((k + L + 2) * 4503599627370496 + n % 4503599627370496 : Nat) : Int) := by
      have := put_bits (n % 4503599627370496) (k + L + 2) (by omega) (by omega)
      rw [← this, show (k : Int) + (L : Int) - 1074 + 53 + 1023 = (k : Int) + (L : Int) + 2 by omega]
      simp
    have r2 := run_frombits (((k + L + 2) * 4503599627370496 + n % 4503599627370496 : Nat) : Int)
    rw [Int.toNat_natCast] at r2
    have hq : n % 4503599627370496 < 4503599627370496 := Nat.mod_lt _ (by omega)
    generalize n % 4503599627370496 = q at hm b2 b3 r2 hq
    have hzl : (k + L + 2) * 4503599627370496 + q < 9218868437227405312 := by omega
    have hvz : val ((k + L + 2) * 4503599627370496 + q) = (4503599627370496 + q) * 2 ^ (k + L + 1) := by
      rw [show (k + L + 2) * 4503599627370496 + q = (k + L + 1) * 4503599627370496 + (4503599627370496 + q) by omega]
      exact val_form _ _ (by omega) (.inr (by omega))
    have e1 : (4503599627370496 + q) * 2 ^ (k + L) = val y * 2 ^ k * 4503599627370496 := by
      rw [Nat.add_comm k L, Nat.pow_add, ← Nat.mul_assoc, hm, Nat.mul_right_comm]
    have ht : val y * 2 ^ k < 4503599627370496 := by
      have h1 : 2 ^ (k + L) ≤ 2 ^ 51 := Nat.pow_le_pow_right (by omega) (by omega)
      rw [show (2 : Nat) ^ 51 = 2251799813685248 from rfl] at h1
      have h2 := Nat.mul_le_mul (show 4503599627370496 + q ≤ 9007199254740991 by omega) h1
      rw [e1] at h2
      omega
    generalize htt : val y * 2 ^ k = t at e1 ht
    have hvt : val t = t := by unfold val; rw [if_pos ht]
    have ht0 : 0 < t := by rw [← htt]; exact Nat.mul_pos (val_pos h0) (Nat.two_pow_pos k)
    generalize hz : (k + L + 2) * 4503599627370496 + q = z at hzl hvz b3 r2
    have hmul : (binOp BinOp.mul 22 (.float .f64 4368491638549381120) (.float .f64 z)).run Try.prog w = .ok (.float .f64 t) w := by
      refine run_float_arith w .mul _ .f64 _ _ _ ?_
      obtain ⟨m, j, e3, e4⟩ := read_fin false z hzl
      have e5 : Ieee.double.read 4368491638549381120 = .number false 4503599627370496 (-105) := by decide +kernel
      refine (mul_exact false z t m j 105 4368491638549381120 4503599627370496 (-105) e3 e5 (by omega) ht0 ?_ (by omega)).1
      have e6 : t * 2 ^ 105 = t * 4503599627370496 * 2 * 4503599627370496 := by
        rw [show (2 : Nat) ^ 105 = 4503599627370496 * 2 * 4503599627370496 from rfl, Nat.mul_assoc, Nat.mul_assoc, Nat.mul_assoc]
      rw [hvt, e6, Nat.mul_right_comm, e4, hvz, show k + L + 1 = (k + L) + 1 from rfl, Nat.pow_succ, ← Nat.mul_assoc, e1]
    have H1 := Lib.hid hvz
    have H2 := Lib.hid e1
    have H3 := Lib.hid htt
    have H4 := Lib.hid hz
    have H5 := Lib.hid hvt
    clear hvz e1 htt hz hvt hm
    go_wp2
    go_ret
    exact ⟨⟨t, rfl, by omega, by rw [H5.out, H3.out]⟩, rfl⟩
  · have z6 : 52 ≤ (k : Int) + (L : Int) := by omega
    obtain ⟨g, hg⟩ : ∃ g, k + L = 52 + g := ⟨k + L - 52, by omega⟩
    have b3 : bits .or .u64 ((n : Int) % 4503599627370496) (((k : Int) + (L : Int) - 1074 + 1023) * 4503599627370496) = (((g + 1) * 4503599627370496 + n % 4503599627370496 : Nat) : Int) := by
      have := put_bits (n % 4503599627370496) (g + 1) (by omega) (by omega)
      rw [← this, show (k : Int) + (L : Int) - 1074 + 1023 = (g : Int) + 1 by omega]
      simp
    have r2 := run_frombits (((g + 1) * 4503599627370496 + n % 4503599627370496 : Nat) : Int)
    rw [Int.toNat_natCast] at r2
    have hq : n % 4503599627370496 < 4503599627370496 := Nat.mod_lt _ (by omega)
    generalize n % 4503599627370496 = q at hm b2 b3 r2 hq
    have hzl : (g + 1) * 4503599627370496 + q < 9218868437227405312 := by omega
    have hvz : val ((g + 1) * 4503599627370496 + q) = (4503599627370496 + q) * 2 ^ g := by
      rw [show (g + 1) * 4503599627370496 + q = g * 4503599627370496 + (4503599627370496 + q) by omega]
      exact val_form _ _ (by omega) (.inr (by omega))
    have e1 : (4503599627370496 + q) * 2 ^ g = val y * 2 ^ k := by
      have h1 : (4503599627370496 + q) * 2 ^ (k + L) = val y * 2 ^ k * 4503599627370496 := by
        rw [Nat.add_comm k L, Nat.pow_add, ← Nat.mul_assoc, hm, Nat.mul_right_comm]
      rw [hg, Nat.pow_add, Nat.mul_comm (2 ^ 52), ← Nat.mul_assoc, show (2 : Nat) ^ 52 = 4503599627370496 from rfl] at h1
      exact Nat.eq_of_mul_eq_mul_right (by omega) h1
    rw [e1] at hvz
    generalize hz : (g + 1) * 4503599627370496 + q = z at hzl hvz b3 r2
    have hz0 : 0 < z := by omega
    have hmul : (binOp BinOp.mul 22 (.float .f64 4607182418800017408) (.float .f64 z)).run Try.prog w = .ok (.float .f64 z) w := by
      refine run_float_arith w .mul _ .f64 _ _ _ ?_
      obtain ⟨m, j, e3, e4⟩ := read_fin false z hzl
      have e5 : Ieee.double.read 4607182418800017408 = .number false 4503599627370496 (-52) := by decide +kernel
      refine (mul_exact false z z m j 52 4607182418800017408 4503599627370496 (-52) e3 e5 hzl hz0 ?_ (by omega)).1
      rw [Nat.mul_right_comm, e4, show (2 : Nat) ^ 52 = 4503599627370496 from rfl]
    have H1 := Lib.hid hvz
    have H2 := Lib.hid e1
    have H3 := Lib.hid hg
    have H4 := Lib.hid hz
    clear hvz e1 hg hz hm
    go_wp2
    go_ret
    exact ⟨⟨z, rfl, hzl, H1.out⟩, rfl⟩

set_option maxRecDepth 100000 in
theorem Ldexp_any (y k rb : Nat) (h : y < 9218868437227405312) (h0 : 0 < y) (hr : rb < 9218868437227405312) (hle : val y * 2 ^ k ≤ val rb) (w : World) :
    Calls Try.prog 17 #[.float .f64 y, .int .i64 k] w fun e w' => Scaled y k e ∧ w = w' := by
  go_enter Try.func17, Try.ntmps17
  go_wp2_with fail
  refine (ldexp_any y k rb h h0 hr hle _).mono ?_
  rintro e w' ⟨⟨t, rfl, ht⟩, rfl⟩
  go_wp2
  go_ret
  exact ⟨⟨t, rfl, ht⟩, rfl⟩

/-! ### infinities and NaNs -/
theorem isInf_inf (s : Bool) (w : World) :
    Calls Try.prog 12 #[.float .f64 (wd s 9218868437227405312), .int .i64 0] w fun e w' => e = .returned (.bool true) ∧ w = w' := by
  have ho : (FloatKind.f64.format.order 9218868437227405312 9218868437227405311 == some Ordering.gt) = true := by decide +kernel
  go_enter Try.func12, Try.ntmps12
  go_wp2_with fail
  refine (abs_any s 9218868437227405312 (by omega) _).mono ?_
  rintro e w' ⟨rfl, rfl⟩
  go_wp2
  go_ret
  exact ⟨rfl, rfl⟩
theorem isInf_nan (s : Bool) (r : Nat) (h : 9218868437227405312 < r) (h2 : r < 9223372036854775808) (w : World) :
    Calls Try.prog 12 #[.float .f64 (wd s r), .int .i64 0] w fun e w' => e = .returned (.bool false) ∧ w = w' := by
  have ho : (FloatKind.f64.format.order r 9218868437227405311 == some Ordering.gt) = false := by
    obtain ⟨f, e⟩ := read_nan false r h h2
    rw [fmt_eq]
    unfold Ieee.Format.order
    rw [wd_false] at e
    rw [e]; rfl
  go_enter Try.func12, Try.ntmps12
  go_wp2_with fail
  refine (abs_any s r (by omega) _).mono ?_
  rintro e w' ⟨rfl, rfl⟩
  go_wp2
  go_ret
  exact ⟨rfl, rfl⟩
theorem isNaN_nan (s : Bool) (r : Nat) (h : 9218868437227405312 < r) (h2 : r < 9223372036854775808) (w : World) :
    Calls Try.prog 13 #[.float .f64 (wd s r)] w fun e w' => e = .returned (.bool true) ∧ w = w' := by
  have ho : (FloatKind.f64.format.order (wd s r) (wd s r) != some Ordering.eq) = true := by
    obtain ⟨f, e⟩ := read_nan s r h h2
    rw [fmt_eq]
    unfold Ieee.Format.order
    rw [e]; rfl
  go_enter Try.func13, Try.ntmps13
  go_wp2
  go_ret
  exact ⟨rfl, rfl⟩
theorem isNaN_inf (s : Bool) (w : World) :
    Calls Try.prog 13 #[.float .f64 (wd s 9218868437227405312)] w fun e w' => e = .returned (.bool false) ∧ w = w' := by
  have ho : (FloatKind.f64.format.order (wd s 9218868437227405312) (wd s 9218868437227405312) != some Ordering.eq) = false := by
    cases s <;> decide +kernel
  go_enter Try.func13, Try.ntmps13
  go_wp2
  go_ret
  exact ⟨rfl, rfl⟩
theorem NaN_any (w : World) : Calls Try.prog 14 #[] w fun e w' => e = .returned (.float .f64 9221120237041090561) ∧ w = w' := by
  have r2 := run_frombits 9221120237041090561
  rw [show (9221120237041090561 : Int).toNat = 9221120237041090561 from rfl] at r2
  go_enter Try.func14, Try.ntmps14
  go_wp2
  go_ret
  exact ⟨rfl, rfl⟩
set_option maxRecDepth 100000 in
theorem frexp_inf (w : World) :
    Calls Try.prog 21 #[.float .f64 9218868437227405312] w fun e w' => e = .returned (.tuple #[.float .f64 9218868437227405312, .int .i64 0]) ∧ w = w' := by
  have ho : (FloatKind.f64.format.order 9218868437227405312 0 == some Ordering.eq) = false := by decide +kernel
  have hinf := fun wx => isInf_inf false wx
  go_enter Try.func21, Try.ntmps21
  go_wp2_with fail
  refine (hinf _).mono ?_
  rintro e w' ⟨rfl, rfl⟩
  go_wp2
  refine bodyPost_ret (v := .tuple #[.float .f64 9218868437227405312, .int .i64 0]) (by simp [results, Try.results21, go_sem]) rfl ⟨rfl, rfl⟩
theorem Frexp_inf (w : World) :
    Calls Try.prog 16 #[.float .f64 9218868437227405312] w fun e w' => e = .returned (.tuple #[.float .f64 9218868437227405312, .int .i64 0]) ∧ w = w' := by
  go_enter Try.func16, Try.ntmps16
  go_wp2_with fail
  refine (frexp_inf _).mono ?_
  rintro e w' ⟨rfl, rfl⟩
  go_wp2
  refine bodyPost_ret (v := .tuple #[.float .f64 9218868437227405312, .int .i64 0]) (by simp [results, Try.results16, go_sem]) rfl ⟨rfl, rfl⟩
end Go.Proofs.Yteaopkanlnpiaaa
