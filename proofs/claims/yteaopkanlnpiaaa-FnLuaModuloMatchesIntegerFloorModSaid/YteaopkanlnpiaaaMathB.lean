/- math.Mod's contract: at finite numbers the exact remainder, with x's sign. -/
import Derived.Test.YteaopkanlnpiaaaMathA
namespace Go.Proofs.Yteaopkanlnpiaaa
open Go.RowKit
set_option linter.unusedVariables false

def Modded (s : Bool) (a b : Nat) (e : Ending) : Prop := ∃ d : Nat, e = .returned (.float .f64 (wd s d)) ∧ d < 9218868437227405312 ∧ val d = val a % val b

/-- one step of the division: the multiple that is taken off -/
theorem step (r y qr Lr qy Ly : Nat) (hq : qr < 4503599627370496) (hr : (4503599627370496 + qr) * 2 ^ Lr = val r * 4503599627370496) (hqy : qy < 4503599627370496) (hy : (4503599627370496 + qy) * 2 ^ Ly = val y * 4503599627370496) (hle : val y ≤ val r) :
    ∃ k : Nat, (if qr < qy then (Lr : Int) - 1 else Lr) = Ly + k ∧ val y * 2 ^ k ≤ val r ∧ val r ≤ 2 * (val y * 2 ^ k) := by
  have hp : ∀ n, 0 < 2 ^ n := Nat.two_pow_pos
  by_cases c : qr < qy
  · have h1 : Ly < Lr := by
      rcases Nat.lt_or_ge Ly Lr with x | x
      · exact x
      · have := Nat.mul_le_mul (show 4503599627370496 + qr + 1 ≤ 4503599627370496 + qy by omega) (Nat.pow_le_pow_right (by omega : 0 < 2) x)
        rw [hy, Nat.succ_mul, hr] at this
        have := hp Lr
        omega
    obtain ⟨k, rfl⟩ : ∃ k, Lr = Ly + k + 1 := ⟨Lr - Ly - 1, by omega⟩
    refine ⟨k, by rw [if_pos c]; omega, ?_, ?_⟩
    · apply Nat.le_of_mul_le_mul_right (c := 4503599627370496) _ (by omega)
      rw [Nat.mul_right_comm, ← hy, ← hr, Nat.mul_assoc, ← Nat.pow_add, Nat.pow_succ, Nat.mul_comm (2 ^ (Ly + k)) 2, ← Nat.mul_assoc]
      exact Nat.mul_le_mul_right _ (by omega)
    · apply Nat.le_of_mul_le_mul_right (c := 4503599627370496) _ (by omega)
      rw [Nat.mul_assoc, Nat.mul_right_comm (val y), ← hy, ← hr, Nat.mul_assoc _ (2 ^ Ly), ← Nat.pow_add, Nat.pow_succ, Nat.mul_comm (2 ^ (Ly + k)) 2, ← Nat.mul_assoc, ← Nat.mul_assoc, Nat.mul_comm _ 2]
      exact Nat.mul_le_mul_right _ (by omega)
  · have h1 : Ly ≤ Lr := by
      rcases Nat.lt_or_ge Lr Ly with x | x
      · have h2 := Nat.pow_le_pow_right (by omega : 0 < 2) x
        rw [Nat.pow_succ] at h2
        have h3 := Nat.mul_le_mul (show 4503599627370496 ≤ 4503599627370496 + qy by omega) h2
        rw [hy] at h3
        have h4 : (4503599627370496 + qr) * 2 ^ Lr < 9007199254740992 * 2 ^ Lr := (Nat.mul_lt_mul_right (hp Lr)).2 (by omega)
        rw [hr] at h4
        have := Nat.mul_le_mul_right 4503599627370496 hle
        omega
      · exact x
    obtain ⟨k, rfl⟩ : ∃ k, Lr = Ly + k := ⟨Lr - Ly, by omega⟩
    refine ⟨k, by rw [if_neg c]; omega, ?_, ?_⟩
    · apply Nat.le_of_mul_le_mul_right (c := 4503599627370496) _ (by omega)
      rw [Nat.mul_right_comm, ← hy, ← hr, Nat.mul_assoc, ← Nat.pow_add]
      exact Nat.mul_le_mul_right _ (by omega)
    · apply Nat.le_of_mul_le_mul_right (c := 4503599627370496) _ (by omega)
      rw [Nat.mul_assoc, Nat.mul_right_comm (val y), ← hy, ← hr, Nat.mul_assoc _ (2 ^ Ly), ← Nat.pow_add, ← Nat.mul_assoc]
      exact Nat.mul_le_mul_right _ (by omega)

theorem order_zero_neg (r : Nat) (h : r < 9218868437227405312) (h0 : 0 < r) : FloatKind.f64.format.order (wd true r) 0 = some .lt := by
  have := val_pos h0
  exact ord_lt true false r 0 h (by omega) (by simp [sg, val_zero]; omega)
theorem order_zero_pos (r : Nat) (h : r < 9218868437227405312) (h0 : 0 < r) : FloatKind.f64.format.order (wd false r) 0 = some .gt := by
  have := val_pos h0
  exact ord_gt false false r 0 h (by omega) (by simp [sg, val_zero]; omega)
theorem order_zero_zero (s : Bool) : FloatKind.f64.format.order (wd s 0) 0 = some .eq := ord_eq s false 0 0 (by omega) (by omega) (by cases s <;> rfl)
theorem neg_wd (s : Bool) (r : Nat) (h : r < 9223372036854775808) : Op.negFloat .f64 (wd s r) = wd (!s) r := by
  unfold Op.negFloat
  have e : (2 : Nat) ^ (FloatKind.f64.format.exponentBits + FloatKind.f64.format.fractionBits) = 9223372036854775808 := rfl
  rw [e]
  have hx : r ^^^ 9223372036854775808 = 9223372036854775808 + r := by
    have a : r &&& 9223372036854775808 = 0 := by
      have b := nat_bit 63 r
      rw [show (2 : Nat) ^ 63 = 9223372036854775808 from rfl] at b
      rw [b, show r / 9223372036854775808 = 0 by omega]
    have b := nat_join 63 9223372036854775808 r (by decide) h
    rw [← b, Nat.or_comm]
    apply Nat.eq_of_testBit_eq
    intro i
    have c := congrArg (fun x => x.testBit i) a
    simp only [Nat.testBit_and, Nat.zero_testBit] at c
    rw [Nat.testBit_xor, Nat.testBit_or]
    revert c
    cases r.testBit i <;> cases (9223372036854775808 : Nat).testBit i <;> simp
  cases s
  · rw [wd_false, hx]; rfl
  · rw [Bool.not_true, wd_false, wd_true, ← hx, Nat.xor_assoc, Nat.xor_self, Nat.xor_zero]

theorem neg_un (s : Bool) (r : Nat) (h : r < 9223372036854775808) : Op.unary .neg (.float .f64 (wd s r)) = pure (.float .f64 (wd (!s) r)) := by
  rw [← neg_wd s r h]; rfl

def fbits : Value → Nat
  | .float _ b => b
  | _ => 0

theorem taken (r y k t : Nat) (hr : r < 9218868437227405312) (ht : t < 9218868437227405312) (hy0 : 0 < val y) (hvt : val t = val y * 2 ^ k) (h1 : val y * 2 ^ k ≤ val r) (h2 : val r ≤ 2 * (val y * 2 ^ k)) :
    ∃ d, d < 9218868437227405312 ∧ Ieee.double.sub (wd false r) (wd false t) = some (wd false d) ∧ val d % val y = val r % val y ∧ d < r := by
  rw [← hvt] at h1 h2
  obtain ⟨d, hd, e⟩ := sterbenz r t ht h1 h2
  have ht0 : 0 < val t := by rw [hvt]; exact Nat.mul_pos hy0 (Nat.two_pow_pos k)
  refine ⟨d, hd, sub_exact r t d hr ht hd e, ?_, lt_of_val (by omega)⟩
  rw [e, hvt, Nat.add_comm, Nat.add_mul_mod_self_left]

set_option maxRecDepth 100000 in
theorem mod_pos (rx : Nat) (sy : Bool) (ry : Nat) (hx : rx < 9218868437227405312) (hy : ry < 9218868437227405312) (hy0 : 0 < ry) (w : World) :
    Calls Try.prog 11 #[.float .f64 (wd false rx), .float .f64 (wd sy ry)] w fun e w' => Modded false rx ry e ∧ w = w' := by
  have ho : (FloatKind.f64.format.order (wd sy ry) 0 == some Ordering.eq) = false := by
    cases sy
    · exact bl (order_zero_pos ry hy hy0) rfl
    · exact bl (order_zero_neg ry hy hy0) rfl
  have ho2 : (FloatKind.f64.format.order (wd false rx) 0 == some Ordering.lt) = false := by
    rcases Nat.eq_zero_or_pos rx with rfl | x
    · exact bl (order_zero_zero false) rfl
    · exact bl (order_zero_pos rx hx x) rfl
  go_enter Try.func11, Try.ntmps11
  go_wp2_with fail
  refine (isInf_fin false rx hx _).mono ?_
  rintro e w' ⟨rfl, rfl⟩
  go_wp2_with fail
  refine (isNaN_fin false rx hx _).mono ?_
  rintro e w' ⟨rfl, rfl⟩
  go_wp2_with fail
  refine (isNaN_fin sy ry hy _).mono ?_
  rintro e w' ⟨rfl, rfl⟩
  go_wp2_with fail
  refine (abs_any sy ry (by omega) _).mono ?_
  rintro e w' ⟨rfl, rfl⟩
  go_wp2_with fail
  refine (Frexp_any ry hy hy0 _).mono ?_
  rintro e w' ⟨⟨qy, Ly, rfl, hqy, hmy, hLy⟩, rfl⟩
  go_wp2
  clear ho
  go_loop [7] (fun v => ∃ r : Nat, v = .float .f64 (wd false r) ∧ r < 9218868437227405312 ∧ val r % val ry = val rx % val ry) (fun v => fbits v)
  case atStart => exact ⟨rx, rfl, hx, rfl⟩
  case round =>
    obtain ⟨r, rfl, hr, hmd⟩ := hrel
    have HM := Lib.hid hmd
    clear hmd
    by_cases c : r < ry
    · have h1 : (FloatKind.f64.format.order (wd false r) ry == some Ordering.gt) = false := bl (pos_lt r ry hy c) rfl
      have h2 : (FloatKind.f64.format.order (wd false r) ry == some Ordering.eq) = false := bl (pos_lt r ry hy c) rfl
      have hlt := val_lt c
      go_wp2
      go_ret
      exact ⟨⟨r, rfl, hr, by rw [← HM.out, Nat.mod_eq_of_lt hlt]⟩, rfl⟩
    · have hle := val_le (show ry ≤ r by omega)
      have h1 : (FloatKind.f64.format.order (wd false r) ry == some Ordering.gt || FloatKind.f64.format.order (wd false r) ry == some Ordering.eq) = true := by
        rcases Nat.lt_or_eq_of_le (show ry ≤ r by omega) with e | e
        · rw [wd_false, pos_gt r ry hr e]; rfl
        · rw [wd_false, ← e, pos_eq ry hy]; rfl
      go_wp2_with fail
      refine (Frexp_any r hr (by omega) _).mono ?_
      rintro e w' ⟨⟨qr, Lr, rfl, hqr, hmr, hLr⟩, rfl⟩
      obtain ⟨k, hk, hk1, hk2⟩ := step r ry qr Lr qy Ly hqr hmr hqy hmy hle
      have hyp := val_pos hy0
      by_cases c2 : qr < qy
      · have h3 : (FloatKind.f64.format.order (4602678819172646912 + qr) (4602678819172646912 + qy) == some Ordering.lt) = true := bl (pos_lt _ _ (by omega) (by omega)) rfl
        rw [if_pos c2] at hk
        have e1 : (Lr : Int) - 1073 - 1 - ((Ly : Int) - 1073) = (k : Int) := by omega
        have z1 : (Lr : Int) ≤ 2097 := by omega
        have z2 : (Ly : Int) ≤ 2097 := by omega
        clear hk c2
        go_wp2_with fail
        refine (Ldexp_any ry k r hy hy0 hr hk1 _).mono ?_
        rintro e w' ⟨⟨t, rfl, ht, hvt⟩, rfl⟩
        obtain ⟨d, hd, hsub, hmd, hdr⟩ := taken r ry k t hr ht hyp hvt hk1 hk2
        have hop := run_float_arith (P := Try.prog) w .sub 22 .f64 (wd false r) t (wd false d) hsub
        have HD := Lib.hid hmd
        clear hmd hvt hk1 hk2 e1 hsub
        go_wp2
        go_round
        case rel => exact ⟨d, rfl, hd, by rw [HD.out, HM.out]⟩
        case measure => simpa [fbits, wd_false] using hdr
      · have c2' : ¬ qr < qy := c2
        have h3 : (FloatKind.f64.format.order (4602678819172646912 + qr) (4602678819172646912 + qy) == some Ordering.lt) = false := by
          rcases Nat.lt_or_eq_of_le (show qy ≤ qr by omega) with e | e
          · exact bl (pos_gt (4602678819172646912 + qr) (4602678819172646912 + qy) (by omega) (by omega)) rfl
          · rw [e]; exact bl (pos_eq _ (by omega)) rfl
        rw [if_neg c2] at hk
        have e1 : (Lr : Int) - 1073 - ((Ly : Int) - 1073) = (k : Int) := by omega
        have z1 : (Lr : Int) ≤ 2097 := by omega
        have z2 : (Ly : Int) ≤ 2097 := by omega
        clear hk c2 c2'
        go_wp2_with fail
        refine (Ldexp_any ry k r hy hy0 hr hk1 _).mono ?_
        rintro e w' ⟨⟨t, rfl, ht, hvt⟩, rfl⟩
        obtain ⟨d, hd, hsub, hmd, hdr⟩ := taken r ry k t hr ht hyp hvt hk1 hk2
        have hop := run_float_arith (P := Try.prog) w .sub 22 .f64 (wd false r) t (wd false d) hsub
        have HD := Lib.hid hmd
        clear hmd hvt hk1 hk2 e1 hsub
        go_wp2
        go_round
        case rel => exact ⟨d, rfl, hd, by rw [HD.out, HM.out]⟩
        case measure => simpa [fbits, wd_false] using hdr

set_option maxRecDepth 100000 in
theorem mod_neg (rx : Nat) (sy : Bool) (ry : Nat) (hx : rx < 9218868437227405312) (hy : ry < 9218868437227405312) (hy0 : 0 < ry) (hx0 : 0 < rx) (w : World) :
    Calls Try.prog 11 #[.float .f64 (wd true rx), .float .f64 (wd sy ry)] w fun e w' => Modded true rx ry e ∧ w = w' := by
  have ho : (FloatKind.f64.format.order (wd sy ry) 0 == some Ordering.eq) = false := by
    cases sy
    · exact bl (order_zero_pos ry hy hy0) rfl
    · exact bl (order_zero_neg ry hy hy0) rfl
  have ho2 : (FloatKind.f64.format.order (wd true rx) 0 == some Ordering.lt) = true := bl (order_zero_neg rx hx hx0) rfl
  have n1 := neg_un true rx (by omega)
  rw [Bool.not_true] at n1
  go_enter Try.func11, Try.ntmps11
  go_wp2_with fail
  refine (isInf_fin true rx hx _).mono ?_
  rintro e w' ⟨rfl, rfl⟩
  go_wp2_with fail
  refine (isNaN_fin true rx hx _).mono ?_
  rintro e w' ⟨rfl, rfl⟩
  go_wp2_with fail
  refine (isNaN_fin sy ry hy _).mono ?_
  rintro e w' ⟨rfl, rfl⟩
  go_wp2_with fail
  refine (abs_any sy ry (by omega) _).mono ?_
  rintro e w' ⟨rfl, rfl⟩
  go_wp2_with fail
  refine (Frexp_any ry hy hy0 _).mono ?_
  rintro e w' ⟨⟨qy, Ly, rfl, hqy, hmy, hLy⟩, rfl⟩
  go_wp2
  clear ho
  go_loop [7] (fun v => ∃ r : Nat, v = .float .f64 (wd false r) ∧ r < 9218868437227405312 ∧ val r % val ry = val rx % val ry) (fun v => fbits v)
  case atStart => exact ⟨rx, rfl, hx, rfl⟩
  case round =>
    obtain ⟨r, rfl, hr, hmd⟩ := hrel
    have HM := Lib.hid hmd
    clear hmd
    by_cases c : r < ry
    · have h1 : (FloatKind.f64.format.order (wd false r) ry == some Ordering.gt) = false := bl (pos_lt r ry hy c) rfl
      have h2 : (FloatKind.f64.format.order (wd false r) ry == some Ordering.eq) = false := bl (pos_lt r ry hy c) rfl
      have hlt := val_lt c
      have n2 := neg_un false r (by omega)
      rw [Bool.not_false] at n2
      go_wp2
      go_ret
      exact ⟨⟨r, rfl, hr, by rw [← HM.out, Nat.mod_eq_of_lt hlt]⟩, rfl⟩
    · have hle := val_le (show ry ≤ r by omega)
      have h1 : (FloatKind.f64.format.order (wd false r) ry == some Ordering.gt || FloatKind.f64.format.order (wd false r) ry == some Ordering.eq) = true := by
        rcases Nat.lt_or_eq_of_le (show ry ≤ r by omega) with e | e
        · rw [wd_false, pos_gt r ry hr e]; rfl
        · rw [wd_false, ← e, pos_eq ry hy]; rfl
      go_wp2_with fail
      refine (Frexp_any r hr (by omega) _).mono ?_
      rintro e w' ⟨⟨qr, Lr, rfl, hqr, hmr, hLr⟩, rfl⟩
      obtain ⟨k, hk, hk1, hk2⟩ := step r ry qr Lr qy Ly hqr hmr hqy hmy hle
      have hyp := val_pos hy0
      by_cases c2 : qr < qy
      · have h3 : (FloatKind.f64.format.order (4602678819172646912 + qr) (4602678819172646912 + qy) == some Ordering.lt) = true := bl (pos_lt _ _ (by omega) (by omega)) rfl
        rw [if_pos c2] at hk
        have e1 : (Lr : Int) - 1073 - 1 - ((Ly : Int) - 1073) = (k : Int) := by omega
        have z1 : (Lr : Int) ≤ 2097 := by omega
        have z2 : (Ly : Int) ≤ 2097 := by omega
        clear hk c2
        go_wp2_with fail
        refine (Ldexp_any ry k r hy hy0 hr hk1 _).mono ?_
        rintro e w' ⟨⟨t, rfl, ht, hvt⟩, rfl⟩
        obtain ⟨d, hd, hsub, hmd, hdr⟩ := taken r ry k t hr ht hyp hvt hk1 hk2
        have hop := run_float_arith (P := Try.prog) w .sub 22 .f64 (wd false r) t (wd false d) hsub
        have HD := Lib.hid hmd
        clear hmd hvt hk1 hk2 e1 hsub
        go_wp2
        go_round
        case rel => exact ⟨d, rfl, hd, by rw [HD.out, HM.out]⟩
        case measure => simpa [fbits, wd_false] using hdr
      · have c2' : ¬ qr < qy := c2
        have h3 : (FloatKind.f64.format.order (4602678819172646912 + qr) (4602678819172646912 + qy) == some Ordering.lt) = false := by
          rcases Nat.lt_or_eq_of_le (show qy ≤ qr by omega) with e | e
          · exact bl (pos_gt (4602678819172646912 + qr) (4602678819172646912 + qy) (by omega) (by omega)) rfl
          · rw [e]; exact bl (pos_eq _ (by omega)) rfl
        rw [if_neg c2] at hk
        have e1 : (Lr : Int) - 1073 - ((Ly : Int) - 1073) = (k : Int) := by omega
        have z1 : (Lr : Int) ≤ 2097 := by omega
        have z2 : (Ly : Int) ≤ 2097 := by omega
        clear hk c2 c2'
        go_wp2_with fail
        refine (Ldexp_any ry k r hy hy0 hr hk1 _).mono ?_
        rintro e w' ⟨⟨t, rfl, ht, hvt⟩, rfl⟩
        obtain ⟨d, hd, hsub, hmd, hdr⟩ := taken r ry k t hr ht hyp hvt hk1 hk2
        have hop := run_float_arith (P := Try.prog) w .sub 22 .f64 (wd false r) t (wd false d) hsub
        have HD := Lib.hid hmd
        clear hmd hvt hk1 hk2 e1 hsub
        go_wp2
        go_round
        case rel => exact ⟨d, rfl, hd, by rw [HD.out, HM.out]⟩
        case measure => simpa [fbits, wd_false] using hdr

set_option maxRecDepth 100000 in
theorem mod_negzero (sy : Bool) (ry : Nat) (hy : ry < 9218868437227405312) (hy0 : 0 < ry) (w : World) :
    Calls Try.prog 11 #[.float .f64 (wd true 0), .float .f64 (wd sy ry)] w fun e w' => Modded true 0 ry e ∧ w = w' := by
  have ho : (FloatKind.f64.format.order (wd sy ry) 0 == some Ordering.eq) = false := by
    cases sy
    · exact bl (order_zero_pos ry hy hy0) rfl
    · exact bl (order_zero_neg ry hy hy0) rfl
  have ho2 : (FloatKind.f64.format.order (wd true 0) 0 == some Ordering.lt) = false := bl (order_zero_zero true) rfl
  have hl : FloatKind.f64.format.order (wd true 0) (wd false ry) = some .lt := by
    have := val_pos hy0
    exact ord_lt true false 0 ry (by omega) hy (by simp [sg, val_zero]; omega)
  have h1 : (FloatKind.f64.format.order (wd true 0) ry == some Ordering.gt) = false := bl hl rfl
  have h2 : (FloatKind.f64.format.order (wd true 0) ry == some Ordering.eq) = false := bl hl rfl
  clear hl
  go_enter Try.func11, Try.ntmps11
  go_wp2_with fail
  refine (isInf_fin true 0 (by omega) _).mono ?_
  rintro e w' ⟨rfl, rfl⟩
  go_wp2_with fail
  refine (isNaN_fin true 0 (by omega) _).mono ?_
  rintro e w' ⟨rfl, rfl⟩
  go_wp2_with fail
  refine (isNaN_fin sy ry hy _).mono ?_
  rintro e w' ⟨rfl, rfl⟩
  go_wp2_with fail
  refine (abs_any sy ry (by omega) _).mono ?_
  rintro e w' ⟨rfl, rfl⟩
  go_wp2_with fail
  refine (Frexp_any ry hy hy0 _).mono ?_
  rintro e w' ⟨⟨qy, Ly, rfl, hqy, hmy, hLy⟩, rfl⟩
  go_wp2
  clear ho
  refine wp_loop_rounds 1 ?_
  rw [rounds_succ]
  go_wp2
  go_ret
  exact ⟨⟨0, rfl, by omega, by rw [val_zero, Nat.zero_mod]⟩, rfl⟩

theorem order_inf (r : Nat) (h : r < 9218868437227405312) (s : Bool) : FloatKind.f64.format.order (wd s r) 9218868437227405312 = some .lt := by
  obtain ⟨m, k, e, _⟩ := read_fin s r h
  have e2 : Ieee.double.read 9218868437227405312 = .infinity false := read_inf false
  rw [fmt_eq]
  unfold Ieee.Format.order
  rw [e, e2]; rfl

set_option maxRecDepth 100000 in
/-- x finite, y an infinity: x itself -/
theorem mod_inf (s : Bool) (rx : Nat) (sy : Bool) (hx : rx < 9218868437227405312) (w : World) :
    Calls Try.prog 11 #[.float .f64 (wd s rx), .float .f64 (wd sy 9218868437227405312)] w fun e w' => e = .returned (.float .f64 (wd s rx)) ∧ w = w' := by
  have ho : (FloatKind.f64.format.order (wd sy 9218868437227405312) 0 == some Ordering.eq) = false := by cases sy <;> decide +kernel
  have l1 := order_inf rx hx
  by_cases c : s = true ∧ 0 < rx
  · obtain ⟨rfl, c⟩ := c
    have ho2 : (FloatKind.f64.format.order (wd true rx) 0 == some Ordering.lt) = true := bl (order_zero_neg rx hx c) rfl
    have n1 := neg_un true rx (by omega)
    have n2 := neg_un false rx (by omega)
    rw [Bool.not_true] at n1
    rw [Bool.not_false] at n2
    have h1 : (FloatKind.f64.format.order (wd false rx) 9218868437227405312 == some Ordering.gt) = false := bl (l1 false) rfl
    have h2 : (FloatKind.f64.format.order (wd false rx) 9218868437227405312 == some Ordering.eq) = false := bl (l1 false) rfl
    clear l1
    go_enter Try.func11, Try.ntmps11
    go_wp2_with fail
    refine (isInf_fin true rx hx _).mono ?_
    rintro e w' ⟨rfl, rfl⟩
    go_wp2_with fail
    refine (isNaN_fin true rx hx _).mono ?_
    rintro e w' ⟨rfl, rfl⟩
    go_wp2_with fail
    refine (isNaN_inf sy _).mono ?_
    rintro e w' ⟨rfl, rfl⟩
    go_wp2_with fail
    refine (abs_any sy 9218868437227405312 (by omega) _).mono ?_
    rintro e w' ⟨rfl, rfl⟩
    go_wp2_with fail
    refine (Frexp_inf _).mono ?_
    rintro e w' ⟨rfl, rfl⟩
    go_wp2
    refine wp_loop_rounds 1 ?_
    rw [rounds_succ]
    go_wp2
    go_ret
    exact ⟨rfl, rfl⟩
  · have ho2 : (FloatKind.f64.format.order (wd s rx) 0 == some Ordering.lt) = false := by
      rcases Nat.eq_zero_or_pos rx with rfl | x
      · exact bl (order_zero_zero s) rfl
      · cases s
        · exact bl (order_zero_pos rx hx x) rfl
        · exact absurd ⟨rfl, x⟩ c
    have h1 : (FloatKind.f64.format.order (wd s rx) 9218868437227405312 == some Ordering.gt) = false := bl (l1 s) rfl
    have h2 : (FloatKind.f64.format.order (wd s rx) 9218868437227405312 == some Ordering.eq) = false := bl (l1 s) rfl
    clear l1 c
    go_enter Try.func11, Try.ntmps11
    go_wp2_with fail
    refine (isInf_fin s rx hx _).mono ?_
    rintro e w' ⟨rfl, rfl⟩
    go_wp2_with fail
    refine (isNaN_fin s rx hx _).mono ?_
    rintro e w' ⟨rfl, rfl⟩
    go_wp2_with fail
    refine (isNaN_inf sy _).mono ?_
    rintro e w' ⟨rfl, rfl⟩
    go_wp2_with fail
    refine (abs_any sy 9218868437227405312 (by omega) _).mono ?_
    rintro e w' ⟨rfl, rfl⟩
    go_wp2_with fail
    refine (Frexp_inf _).mono ?_
    rintro e w' ⟨rfl, rfl⟩
    go_wp2
    refine wp_loop_rounds 1 ?_
    rw [rounds_succ]
    go_wp2
    go_ret
    exact ⟨rfl, rfl⟩

/-! ### what is no number -/
def GotNaN (w : World) (e : Ending) (w' : World) : Prop := e = .returned (.float .f64 9221120237041090561) ∧ w = w'
theorem mod_y0 (x : Nat) (sy : Bool) (w : World) : Calls Try.prog 11 #[.float .f64 x, .float .f64 (wd sy 0)] w (GotNaN w) := by
  have ho : (FloatKind.f64.format.order (wd sy 0) 0 == some Ordering.eq) = true := bl (order_zero_zero sy) rfl
  go_enter Try.func11, Try.ntmps11
  go_wp2_with fail
  refine (NaN_any _).mono ?_
  rintro e w' ⟨rfl, rfl⟩
  go_wp2
  go_ret
  exact ⟨rfl, rfl⟩
theorem mod_xinf (s : Bool) (y : Nat) (w : World) (ho : (FloatKind.f64.format.order y 0 == some Ordering.eq) = false) : Calls Try.prog 11 #[.float .f64 (wd s 9218868437227405312), .float .f64 y] w (GotNaN w) := by
  go_enter Try.func11, Try.ntmps11
  go_wp2_with fail
  refine (isInf_inf s _).mono ?_
  rintro e w' ⟨rfl, rfl⟩
  go_wp2_with fail
  refine (NaN_any _).mono ?_
  rintro e w' ⟨rfl, rfl⟩
  go_wp2
  go_ret
  exact ⟨rfl, rfl⟩
theorem mod_xnan (s : Bool) (r y : Nat) (h : 9218868437227405312 < r) (h2 : r < 9223372036854775808) (w : World) (ho : (FloatKind.f64.format.order y 0 == some Ordering.eq) = false) : Calls Try.prog 11 #[.float .f64 (wd s r), .float .f64 y] w (GotNaN w) := by
  go_enter Try.func11, Try.ntmps11
  go_wp2_with fail
  refine (isInf_nan s r h h2 _).mono ?_
  rintro e w' ⟨rfl, rfl⟩
  go_wp2_with fail
  refine (isNaN_nan s r h h2 _).mono ?_
  rintro e w' ⟨rfl, rfl⟩
  go_wp2_with fail
  refine (NaN_any _).mono ?_
  rintro e w' ⟨rfl, rfl⟩
  go_wp2
  go_ret
  exact ⟨rfl, rfl⟩
theorem order_nan (s : Bool) (r y : Nat) (h : 9218868437227405312 < r) (h2 : r < 9223372036854775808) : FloatKind.f64.format.order (wd s r) y = none := by
  obtain ⟨f, e⟩ := read_nan s r h h2
  rw [fmt_eq]
  unfold Ieee.Format.order
  rw [e]; rfl
theorem mod_ynan (s : Bool) (rx : Nat) (sy : Bool) (r : Nat) (hx : rx < 9218868437227405312) (h : 9218868437227405312 < r) (h2 : r < 9223372036854775808) (w : World) : Calls Try.prog 11 #[.float .f64 (wd s rx), .float .f64 (wd sy r)] w (GotNaN w) := by
  have ho : (FloatKind.f64.format.order (wd sy r) 0 == some Ordering.eq) = false := by rw [order_nan sy r 0 h h2]; rfl
  go_enter Try.func11, Try.ntmps11
  go_wp2_with fail
  refine (isInf_fin s rx hx _).mono ?_
  rintro e w' ⟨rfl, rfl⟩
  go_wp2_with fail
  refine (isNaN_fin s rx hx _).mono ?_
  rintro e w' ⟨rfl, rfl⟩
  go_wp2_with fail
  refine (isNaN_nan sy r h h2 _).mono ?_
  rintro e w' ⟨rfl, rfl⟩
  go_wp2_with fail
  refine (NaN_any _).mono ?_
  rintro e w' ⟨rfl, rfl⟩
  go_wp2
  go_ret
  exact ⟨rfl, rfl⟩

/-! ### math.Mod -/
theorem Mod_of {x y : Nat} {w : World} {Q : Ending → Prop} (h : Calls Try.prog 11 #[.float .f64 x, .float .f64 y] w fun e w' => (∃ v : Nat, e = .returned (.float .f64 v) ∧ Q e) ∧ w = w') :
    Calls Try.prog 9 #[.float .f64 x, .float .f64 y] w fun e w' => (∃ v : Nat, e = .returned (.float .f64 v) ∧ Q e) ∧ w = w' := by
  go_enter Try.func9, Try.ntmps9
  go_wp2_with fail
  refine h.mono ?_
  rintro e w' ⟨⟨v, rfl, hq⟩, rfl⟩
  go_wp2
  go_ret
  exact ⟨⟨v, rfl, hq⟩, rfl⟩
theorem Mod_fin (s : Bool) (rx : Nat) (sy : Bool) (ry : Nat) (hx : rx < 9218868437227405312) (hy : ry < 9218868437227405312) (hy0 : 0 < ry) (w : World) :
    Calls Try.prog 9 #[.float .f64 (wd s rx), .float .f64 (wd sy ry)] w fun e w' => Modded s rx ry e ∧ w = w' := by
  have key : Calls Try.prog 11 #[.float .f64 (wd s rx), .float .f64 (wd sy ry)] w fun e w' => Modded s rx ry e ∧ w = w' := by
    cases s
    · exact mod_pos rx sy ry hx hy hy0 w
    · rcases Nat.eq_zero_or_pos rx with rfl | c
      · exact mod_negzero sy ry hy hy0 w
      · exact mod_neg rx sy ry hx hy hy0 c w
  refine (Mod_of (Q := Modded s rx ry) (key.mono ?_)).mono ?_
  · rintro e w' ⟨⟨d, rfl, hd⟩, rfl⟩
    exact ⟨⟨_, rfl, d, rfl, hd⟩, rfl⟩
  · rintro e w' ⟨⟨v, _, hq⟩, rfl⟩
    exact ⟨hq, rfl⟩
theorem Mod_inf (s : Bool) (rx : Nat) (sy : Bool) (hx : rx < 9218868437227405312) (w : World) :
    Calls Try.prog 9 #[.float .f64 (wd s rx), .float .f64 (wd sy 9218868437227405312)] w fun e w' => e = .returned (.float .f64 (wd s rx)) ∧ w = w' := by
  refine (Mod_of (Q := fun e => e = .returned (.float .f64 (wd s rx))) ((mod_inf s rx sy hx w).mono ?_)).mono ?_
  · rintro e w' ⟨rfl, rfl⟩
    exact ⟨⟨_, rfl, rfl⟩, rfl⟩
  · rintro e w' ⟨⟨v, _, hq⟩, rfl⟩
    exact ⟨hq, rfl⟩
theorem Mod_nan {x y : Nat} {w : World} (h : Calls Try.prog 11 #[.float .f64 x, .float .f64 y] w (GotNaN w)) : Calls Try.prog 9 #[.float .f64 x, .float .f64 y] w (GotNaN w) := by
  refine (Mod_of (Q := fun e => e = .returned (.float .f64 9221120237041090561)) (h.mono ?_)).mono ?_
  · rintro e w' ⟨rfl, rfl⟩
    exact ⟨⟨_, rfl, rfl⟩, rfl⟩
  · rintro e w' ⟨⟨v, _, hq⟩, rfl⟩
    exact ⟨hq, rfl⟩
end Go.Proofs.Yteaopkanlnpiaaa
