/- luaModulo's contract, and the two laws' walks. -/
import Derived.Test.YteaopkanlnpiaaaMathB
namespace Go.Proofs.Yteaopkanlnpiaaa
open Go.RowKit
set_option linter.unusedVariables false

/-- what luaModulo gives at finite numbers -/
def LuaRes (s : Bool) (ra : Nat) (sb : Bool) (rb : Nat) (e : Ending) : Prop :=
  ∃ s' d, e = .returned (.float .f64 (wd s' d)) ∧ d ≤ rb ∧ d < 9218868437227405312 ∧ (d = 0 ∨ s' = sb) ∧
    (s = sb → val d = val ra % val rb) ∧ (val ra % val rb = 0 → d = 0) ∧ (s ≠ sb → val ra % val rb ≠ 0 → ∀ c, c < 9218868437227405312 → val c = val rb - val ra % val rb → d = c)

theorem conv_lf (x : Nat) (w : World) : (convert 28 22 (.float .f64 x)).run Try.prog w = .ok (.float .f64 x) w := by kernel_rfl
theorem conv_fl (x : Nat) (w : World) : (convert 22 28 (.float .f64 x)).run Try.prog w = .ok (.float .f64 x) w := by kernel_rfl

set_option maxRecDepth 100000 in
theorem luaMod_fin (s : Bool) (ra : Nat) (sb : Bool) (rb : Nat) (ha : ra < 9218868437227405312) (hb : rb < 9218868437227405312) (hb0 : 0 < rb) (w : World) :
    Calls Try.prog 8 #[.float .f64 (wd s ra), .float .f64 (wd sb rb)] w fun e w' => LuaRes s ra sb rb e ∧ w = w' := by
  have c1 := conv_lf
  have c2 := conv_fl
  have hvb := val_pos hb0
  go_enter Try.func8, Try.ntmps8
  go_wp2_with fail
  refine (Mod_fin s ra sb rb ha hb hb0 _).mono ?_
  rintro e w' ⟨⟨d, rfl, hd, hvd⟩, rfl⟩
  have hlt : val d < val rb := by rw [hvd]; exact Nat.mod_lt _ hvb
  have hdb := lt_of_val hlt
  have HV := Lib.hid hvd
  clear hvd
  rcases Nat.eq_zero_or_pos d with rfl | hd0
  · have z := HV.out
    rw [val_zero] at z
    have h3 : (FloatKind.f64.format.order (wd s 0) 0 == some Ordering.lt) = false := bl (order_zero_zero s) rfl
    have h4 : (FloatKind.f64.format.order (wd s 0) 0 == some Ordering.gt) = false := bl (order_zero_zero s) rfl
    have Z := Lib.hid z
    clear z
    cases sb
    · have h1 : (FloatKind.f64.format.order (wd false rb) 0 == some Ordering.gt) = true := bl (order_zero_pos rb hb hb0) rfl
      have h2 : (FloatKind.f64.format.order (wd false rb) 0 == some Ordering.lt) = false := bl (order_zero_pos rb hb hb0) rfl
      go_wp2
      go_ret
      exact ⟨⟨s, 0, rfl, by omega, by omega, .inl rfl, fun _ => by rw [val_zero, ← Z.out], fun _ => rfl, fun _ h => absurd Z.out.symm h⟩, rfl⟩
    · have h1 : (FloatKind.f64.format.order (wd true rb) 0 == some Ordering.gt) = false := bl (order_zero_neg rb hb hb0) rfl
      have h2 : (FloatKind.f64.format.order (wd true rb) 0 == some Ordering.lt) = true := bl (order_zero_neg rb hb hb0) rfl
      go_wp2
      go_ret
      exact ⟨⟨s, 0, rfl, by omega, by omega, .inl rfl, fun _ => by rw [val_zero, ← Z.out], fun _ => rfl, fun _ h => absurd Z.out.symm h⟩, rfl⟩
  · have nz : val ra % val rb ≠ 0 := by rw [← HV.out]; have := val_pos hd0; omega
    obtain ⟨c, hc1, hadd, hc2⟩ := add_opp s d rb hd hb hlt
    have hop := run_float_arith (P := Try.prog) w .add 22 .f64 (wd s d) (wd (!s) rb) (wd (!s) c) hadd
    rw [HV.out] at hc2
    have NZ := Lib.hid nz
    have HC := Lib.hid hc2
    clear hadd hc2 nz
    cases s <;> cases sb
    · have h1 : (FloatKind.f64.format.order (wd false rb) 0 == some Ordering.gt) = true := bl (order_zero_pos rb hb hb0) rfl
      have h2 : (FloatKind.f64.format.order (wd false rb) 0 == some Ordering.lt) = false := bl (order_zero_pos rb hb hb0) rfl
      have h3 : (FloatKind.f64.format.order (wd false d) 0 == some Ordering.lt) = false := bl (order_zero_pos d hd hd0) rfl
      clear hop
      go_wp2
      go_ret
      exact ⟨⟨false, d, rfl, by omega, hd, .inr rfl, fun _ => HV.out, fun h => absurd h NZ.out, fun h => absurd rfl h⟩, rfl⟩
    · have h1 : (FloatKind.f64.format.order (wd true rb) 0 == some Ordering.gt) = false := bl (order_zero_neg rb hb hb0) rfl
      have h2 : (FloatKind.f64.format.order (wd true rb) 0 == some Ordering.lt) = true := bl (order_zero_neg rb hb hb0) rfl
      have h3 : (FloatKind.f64.format.order (wd false d) 0 == some Ordering.gt) = true := bl (order_zero_pos d hd hd0) rfl
      rw [Bool.not_false] at hop
      go_wp2
      go_ret
      exact ⟨⟨true, c, rfl, hc1, by omega, .inr rfl, (fun h => by cases h), fun h => absurd h NZ.out, fun _ _ => HC.out⟩, rfl⟩
    · have h1 : (FloatKind.f64.format.order (wd false rb) 0 == some Ordering.gt) = true := bl (order_zero_pos rb hb hb0) rfl
      have h2 : (FloatKind.f64.format.order (wd false rb) 0 == some Ordering.lt) = false := bl (order_zero_pos rb hb hb0) rfl
      have h3 : (FloatKind.f64.format.order (wd true d) 0 == some Ordering.lt) = true := bl (order_zero_neg d hd hd0) rfl
      rw [Bool.not_true] at hop
      go_wp2
      go_ret
      exact ⟨⟨false, c, rfl, hc1, by omega, .inr rfl, (fun h => by cases h), fun h => absurd h NZ.out, fun _ _ => HC.out⟩, rfl⟩
    · have h1 : (FloatKind.f64.format.order (wd true rb) 0 == some Ordering.gt) = false := bl (order_zero_neg rb hb hb0) rfl
      have h2 : (FloatKind.f64.format.order (wd true rb) 0 == some Ordering.lt) = true := bl (order_zero_neg rb hb hb0) rfl
      have h3 : (FloatKind.f64.format.order (wd true d) 0 == some Ordering.gt) = false := bl (order_zero_neg d hd hd0) rfl
      clear hop
      go_wp2
      go_ret
      exact ⟨⟨true, d, rfl, by omega, hd, .inr rfl, fun _ => HV.out, fun h => absurd h NZ.out, fun h => absurd rfl h⟩, rfl⟩

/-- some number comes back -/
def SomeFloat (w : World) (e : Ending) (w' : World) : Prop := (∃ v : Nat, e = .returned (.float .f64 v)) ∧ w = w'

theorem nan_cmp (y : Nat) : FloatKind.f64.format.order 9221120237041090561 y = none := order_nan false 9221120237041090561 y (by omega) (by omega)

theorem luaMod_nan {x y : Nat} {w : World} (h : Calls Try.prog 11 #[.float .f64 x, .float .f64 y] w (GotNaN w)) :
    Calls Try.prog 8 #[.float .f64 x, .float .f64 y] w (GotNaN w) := by
  have c1 := conv_lf
  have c2 := conv_fl
  have h1 : (FloatKind.f64.format.order 9221120237041090561 0 == some Ordering.lt) = false := by rw [nan_cmp]; rfl
  have h2 : (FloatKind.f64.format.order 9221120237041090561 0 == some Ordering.gt) = false := by rw [nan_cmp]; rfl
  by_cases b1 : (FloatKind.f64.format.order y 0 == some Ordering.gt) = true
  · have b2 : (FloatKind.f64.format.order y 0 == some Ordering.lt) = false := by
      have : FloatKind.f64.format.order y 0 = some .gt := by simpa using b1
      rw [this]; rfl
    go_enter Try.func8, Try.ntmps8
    go_wp2_with fail
    refine (Mod_nan h).mono ?_
    rintro e w' ⟨rfl, rfl⟩
    go_wp2
    go_ret
    exact ⟨rfl, rfl⟩
  · have b1 : (FloatKind.f64.format.order y 0 == some Ordering.gt) = false := by simpa using b1
    by_cases b2 : (FloatKind.f64.format.order y 0 == some Ordering.lt) = true
    · go_enter Try.func8, Try.ntmps8
      go_wp2_with fail
      refine (Mod_nan h).mono ?_
      rintro e w' ⟨rfl, rfl⟩
      go_wp2
      go_ret
      exact ⟨rfl, rfl⟩
    · have b2 : (FloatKind.f64.format.order y 0 == some Ordering.lt) = false := by simpa using b2
      go_enter Try.func8, Try.ntmps8
      go_wp2_with fail
      refine (Mod_nan h).mono ?_
      rintro e w' ⟨rfl, rfl⟩
      go_wp2
      go_ret
      exact ⟨rfl, rfl⟩

theorem add_inf (s : Bool) (r : Nat) (sb : Bool) (h : r < 9218868437227405312) : Ieee.double.add (wd s r) (wd sb 9218868437227405312) = some (Ieee.double.write (.infinity sb)) := by
  obtain ⟨m, k, e, _⟩ := read_fin s r h
  have e2 := read_inf sb
  unfold Ieee.Format.add
  rw [e, e2]; rfl
theorem luaMod_inf (s : Bool) (ra : Nat) (sb : Bool) (ha : ra < 9218868437227405312) (w : World) :
    Calls Try.prog 8 #[.float .f64 (wd s ra), .float .f64 (wd sb 9218868437227405312)] w (SomeFloat w) := by
  have c1 := conv_lf
  have c2 := conv_fl
  have hop := run_float_arith (P := Try.prog) w .add 22 .f64 (wd s ra) (wd sb 9218868437227405312) _ (add_inf s ra sb ha)
  generalize Ieee.double.write (.infinity sb) = x at hop
  have h1 : (FloatKind.f64.format.order (wd sb 9218868437227405312) 0 == some Ordering.gt) = !sb := by cases sb <;> decide +kernel
  have h2 : (FloatKind.f64.format.order (wd sb 9218868437227405312) 0 == some Ordering.lt) = sb := by cases sb <;> decide +kernel
  cases sb
  · rw [Bool.not_false] at h1
    go_enter Try.func8, Try.ntmps8
    go_wp2_with fail
    refine (Mod_inf s ra false ha _).mono ?_
    rintro e w' ⟨rfl, rfl⟩
    go_wp2
    all_goals (go_ret; exact ⟨⟨_, rfl⟩, rfl⟩)
  · rw [Bool.not_true] at h1
    go_enter Try.func8, Try.ntmps8
    go_wp2_with fail
    refine (Mod_inf s ra true ha _).mono ?_
    rintro e w' ⟨rfl, rfl⟩
    go_wp2
    all_goals (go_ret; exact ⟨⟨_, rfl⟩, rfl⟩)

/-- x - x where x is no finite number: a NaN of the tape's choice -/
theorem run_sub_nan (w : World) (t : TypeId) (s : Bool) (r : Nat) (h : 9218868437227405312 ≤ r) (h2 : r < 9223372036854775808) :
    ∃ n, (binOp .sub t (.float .f64 (wd s r)) (.float .f64 (wd s r))).run Try.prog w = .ok (.float .f64 n) w.drew ∧ (FloatKind.f64.format.order n 0 == some Ordering.eq) = false := by
  have hs : FloatKind.f64.format.sub (wd s r) (wd s r) = none := by
    rw [fmt_eq]
    unfold Ieee.Format.sub
    rcases Nat.lt_or_eq_of_le h with c | c
    · obtain ⟨f, e⟩ := read_nan s r c h2
      rw [e]; rfl
    · subst c
      rw [read_inf s]
      cases s <;> rfl
  refine ⟨Question.cut (.nanBits .f64 (wd s r) (wd s r)) (w.tape w.drawn (.nanBits .f64 (wd s r) (wd s r))), ?_, ?_⟩
  · simp [binOp, Op.floatArith, hs, Question.forced]
  · generalize w.tape w.drawn (.nanBits .f64 (wd s r) (wd s r)) = T
    have e : Question.cut (.nanBits .f64 (wd s r) (wd s r)) T = T % 2 * 9223372036854775808 + 9218868437227405312 + 1 + T / 2 % 4503599627370495 := rfl
    rw [e]
    have h3 := Nat.mod_lt (T / 2) (show 0 < 4503599627370495 by omega)
    rcases Nat.mod_two_eq_zero_or_one T with z | z
    · rw [z, show 0 * 9223372036854775808 + 9218868437227405312 + 1 + T / 2 % 4503599627370495 = wd false (9218868437227405312 + 1 + T / 2 % 4503599627370495) by (rw [wd_false]; try omega), order_nan false _ 0 (by omega) (by omega)]
      rfl
    · rw [z, show 1 * 9223372036854775808 + 9218868437227405312 + 1 + T / 2 % 4503599627370495 = wd true (9218868437227405312 + 1 + T / 2 % 4503599627370495) by (rw [wd_true]; try omega), order_nan true _ 0 (by omega) (by omega)]
      rfl

theorem ZZ_of {x y : Nat} {w : World} {Q : Nat → Prop} (h : Calls Try.prog 8 #[.float .f64 x, .float .f64 y] w fun e w' => (∃ v : Nat, e = .returned (.float .f64 v) ∧ Q v) ∧ w = w') :
    Calls Try.prog 5 #[.float .f64 x, .float .f64 y] w fun e w' => (∃ v : Nat, e = .returned (.float .f64 v) ∧ Q v) ∧ w = w' := by
  have c1 := conv_lf
  have c2 := conv_fl
  go_enter Try.func5, Try.ntmps5
  go_wp2_with fail
  refine h.mono ?_
  rintro e w' ⟨⟨v, rfl, hq⟩, rfl⟩
  go_wp2
  go_ret
  exact ⟨⟨v, rfl, hq⟩, rfl⟩
theorem ZZ_nan {x y : Nat} {w : World} (h : Calls Try.prog 11 #[.float .f64 x, .float .f64 y] w (GotNaN w)) : Calls Try.prog 5 #[.float .f64 x, .float .f64 y] w (GotNaN w) := by
  refine (ZZ_of (Q := fun v => v = 9221120237041090561) ((luaMod_nan h).mono ?_)).mono ?_
  · rintro e w' ⟨rfl, rfl⟩
    exact ⟨⟨_, rfl, rfl⟩, rfl⟩
  · rintro e w' ⟨⟨v, rfl, rfl⟩, rfl⟩
    exact ⟨rfl, rfl⟩
theorem SomeFloat.of {w : World} {e : Ending} {w' : World} (h : GotNaN w e w') : SomeFloat w e w' := ⟨⟨_, h.1⟩, h.2⟩
/-- whatever the operands, a number comes back -/
theorem ZZ_any (s : Bool) (ra : Nat) (sb : Bool) (rb : Nat) (ha : ra < 9223372036854775808) (hb : rb < 9223372036854775808) (hb0 : 0 < rb) (hn : 9218868437227405312 ≤ ra ∨ 9218868437227405312 ≤ rb) (w : World) :
    Calls Try.prog 5 #[.float .f64 (wd s ra), .float .f64 (wd sb rb)] w (SomeFloat w) := by
  have key : Calls Try.prog 8 #[.float .f64 (wd s ra), .float .f64 (wd sb rb)] w (SomeFloat w) := by
    have ho : (FloatKind.f64.format.order (wd sb rb) 0 == some Ordering.eq) = false := by
      rcases Nat.lt_or_ge rb 9218868437227405312 with c | c
      · cases sb
        · exact bl (order_zero_pos rb c hb0) rfl
        · exact bl (order_zero_neg rb c hb0) rfl
      · rcases Nat.lt_or_eq_of_le c with d | d
        · rw [order_nan sb rb 0 d hb]; rfl
        · subst d; cases sb <;> decide +kernel
    rcases Nat.lt_or_ge ra 9218868437227405312 with c | c
    · have c2 : 9218868437227405312 ≤ rb := by omega
      rcases Nat.lt_or_eq_of_le c2 with d | d
      · exact (luaMod_nan (mod_ynan s ra sb rb c d hb w)).mono fun _ _ h => SomeFloat.of h
      · subst d; exact luaMod_inf s ra sb c w
    · rcases Nat.lt_or_eq_of_le c with d | d
      · exact (luaMod_nan (mod_xnan s ra _ d ha w ho)).mono fun _ _ h => SomeFloat.of h
      · subst d; exact (luaMod_nan (mod_xinf s _ w ho)).mono fun _ _ h => SomeFloat.of h
  refine (ZZ_of (Q := fun _ => True) (key.mono ?_)).mono ?_
  · rintro e w' ⟨⟨v, rfl⟩, rfl⟩
    exact ⟨⟨_, rfl, trivial⟩, rfl⟩
  · rintro e w' ⟨⟨v, rfl, _⟩, rfl⟩
    exact ⟨⟨v, rfl⟩, rfl⟩
theorem ZZ_fin (s : Bool) (ra : Nat) (sb : Bool) (rb : Nat) (ha : ra < 9218868437227405312) (hb : rb < 9218868437227405312) (hb0 : 0 < rb) (w : World) :
    Calls Try.prog 5 #[.float .f64 (wd s ra), .float .f64 (wd sb rb)] w fun e w' => LuaRes s ra sb rb e ∧ w = w' := by
  refine (ZZ_of (Q := fun v => LuaRes s ra sb rb (.returned (.float .f64 v))) ((luaMod_fin s ra sb rb ha hb hb0 w).mono ?_)).mono ?_
  · rintro e w' ⟨⟨s', d, rfl, h⟩, rfl⟩
    exact ⟨⟨_, rfl, s', d, rfl, h⟩, rfl⟩
  · rintro e w' ⟨⟨v, rfl, h⟩, rfl⟩
    exact ⟨h, rfl⟩

theorem zzAbs_any (s : Bool) (r : Nat) (h : r < 9218868437227405312) (w : World) :
    Calls Try.prog 7 #[.float .f64 (wd s r)] w fun e w' => (∃ s', e = .returned (.float .f64 (wd s' r)) ∧ (s' = false ∨ r = 0)) ∧ w = w' := by
  by_cases c : s = true ∧ 0 < r
  · obtain ⟨rfl, c⟩ := c
    have h1 : (FloatKind.f64.format.order (wd true r) 0 == some Ordering.lt) = true := bl (order_zero_neg r h c) rfl
    have n1 := neg_un true r (by omega)
    rw [Bool.not_true] at n1
    go_enter Try.func7, Try.ntmps7
    go_wp2
    go_ret
    exact ⟨⟨false, rfl, .inl rfl⟩, rfl⟩
  · have h1 : (FloatKind.f64.format.order (wd s r) 0 == some Ordering.lt) = false := by
      rcases Nat.eq_zero_or_pos r with rfl | x
      · exact bl (order_zero_zero s) rfl
      · cases s
        · exact bl (order_zero_pos r h x) rfl
        · exact absurd ⟨rfl, x⟩ c
    have hs : s = false ∨ r = 0 := by
      cases s
      · exact .inl rfl
      · rcases Nat.eq_zero_or_pos r with e | x
        · exact .inr e
        · exact absurd ⟨rfl, x⟩ c
    have HS := Lib.hid hs
    clear hs c
    go_enter Try.func7, Try.ntmps7
    go_wp2
    go_ret
    exact ⟨⟨s, rfl, HS.out⟩, rfl⟩

set_option maxRecDepth 100000 in
theorem walk_FnLuaModuloSignAndBound (a b : Nat) (ha : (Lit.float .f64 a).wf = true) (hb : (Lit.float .f64 b).wf = true) (w : World) :
    Calls Try.prog 4 #[.float .f64 a, .float .f64 b] w fun e w' => e = .returned (.bool true) ∧ Below w.heap.size w w' := by
  have ha' : a < 18446744073709551616 := by simpa [Lit.wf] using ha
  have hb' : b < 18446744073709551616 := by simpa [Lit.wf] using hb
  obtain ⟨s, ra, hra, rfl⟩ := wd_of a ha'
  obtain ⟨sb, rb, hrb, rfl⟩ := wd_of b hb'
  clear ha hb ha' hb'
  rcases Nat.eq_zero_or_pos rb with rfl | hb0
  · have h1 : (FloatKind.f64.format.order (wd sb 0) 0 == some Ordering.eq) = true := bl (order_zero_zero sb) rfl
    have h2 : (FloatKind.f64.format.order 9221120237041090561 9221120237041090561 != some Ordering.eq) = true := by rw [nan_cmp]; rfl
    go_enter Try.func4, Try.ntmps4
    go_wp2_with fail
    refine (ZZ_nan (mod_y0 (wd s ra) sb _)).mono ?_
    rintro e w' ⟨rfl, rfl⟩
    go_wp2
    go_ret
    exact ⟨rfl, Below.refl _ _⟩
  have ho : (FloatKind.f64.format.order (wd sb rb) 0 == some Ordering.eq) = false := by
    rcases Nat.lt_or_ge rb 9218868437227405312 with c | c
    · cases sb
      · exact bl (order_zero_pos rb c hb0) rfl
      · exact bl (order_zero_neg rb c hb0) rfl
    · rcases Nat.lt_or_eq_of_le c with d | d
      · rw [order_nan sb rb 0 d hrb]; rfl
      · subst d; cases sb <;> decide +kernel
  have z0 : (FloatKind.f64.format.order 0 0 == some Ordering.eq) = true := by decide +kernel
  rcases Nat.lt_or_ge ra 9218868437227405312 with ca | ca
  · have hsa : Ieee.double.sub (wd s ra) (wd s ra) = some 0 := by
      rw [sub_opp _ _ _ ca, sum_fin s (!s) ra ra ca ca]
      have : sg s (val ra) + sg (!s) (val ra) = 0 := by cases s <;> simp [sg] <;> omega
      rw [if_pos this]
      cases s <;> rfl
    have op1 := fun wx => run_float_arith (P := Try.prog) wx .sub 22 .f64 (wd s ra) (wd s ra) 0 hsa
    rcases Nat.lt_or_ge rb 9218868437227405312 with cb | cb
    · have hsb : Ieee.double.sub (wd sb rb) (wd sb rb) = some 0 := by
        rw [sub_opp _ _ _ cb, sum_fin sb (!sb) rb rb cb cb]
        have : sg sb (val rb) + sg (!sb) (val rb) = 0 := by cases sb <;> simp [sg] <;> omega
        rw [if_pos this]
        cases sb <;> rfl
      have op2 := fun wx => run_float_arith (P := Try.prog) wx .sub 22 .f64 (wd sb rb) (wd sb rb) 0 hsb
      go_enter Try.func4, Try.ntmps4
      go_wp2_with fail
      refine (ZZ_fin s ra sb rb ca cb hb0 _).mono ?_
      rintro e w' ⟨⟨s', d, rfl, hd1, hd2, hd3, _⟩, rfl⟩
      have hrr : (FloatKind.f64.format.order (wd s' d) (wd s' d) != some Ordering.eq) = false := by
        rw [ord_eq s' s' d d hd2 hd2 rfl]; rfl
      have fin : ∀ s1 s2 : Bool, (s1 = false ∨ d = 0) → (s2 = false ∨ rb = 0) → (FloatKind.f64.format.order (wd s1 d) (wd s2 rb) == some Ordering.lt || FloatKind.f64.format.order (wd s1 d) (wd s2 rb) == some Ordering.eq) = true := by
        intro s1 s2 h1 h2
        obtain rfl : s2 = false := by
          rcases h2 with h2 | h2
          · exact h2
          · omega
        have hle := val_le hd1
        have hpos := val_pos hb0
        have hsg : sg s1 (val d) ≤ sg false (val rb) := by
          rcases h1 with rfl | rfl
          · simp [sg]; omega
          · cases s1 <;> simp [sg, val_zero]
        rcases Int.lt_or_eq_of_le hsg with x | x
        · rw [ord_lt s1 false d rb hd2 cb x]; rfl
        · rw [ord_eq s1 false d rb hd2 cb x]; rfl
      have FIN := Lib.hid fin
      clear fin
      rename_i hrest
      clear hrest
      have hz0 : d = 0 → (FloatKind.f64.format.order (wd s' d) 0 != some Ordering.eq) = false := by
        rintro rfl
        rw [order_zero_zero s']; rfl
      by_cases hdz : d = 0
      · have h3 := hz0 hdz
        have HDZ := Lib.hid hdz
        clear hd3 hdz hz0
        go_wp2_with fail
        refine (zzAbs_any s' d hd2 _).mono ?_
        rintro e w' ⟨⟨s1, rfl, g1⟩, rfl⟩
        go_wp2_with fail
        refine (zzAbs_any sb rb cb _).mono ?_
        rintro e w' ⟨⟨s2, rfl, g2⟩, rfl⟩
        have hf := FIN.out s1 s2 g1 g2
        clear g1 g2
        go_wp2
        go_ret
        exact ⟨rfl, Below.refl _ _⟩
      · obtain rfl : s' = sb := by
          rcases hd3 with h | h
          · exact absurd h hdz
          · exact h
        have hd0 : 0 < d := by omega
        have h3 : (FloatKind.f64.format.order (wd s' d) 0 != some Ordering.eq) = true := by
          cases s'
          · rw [order_zero_pos d hd2 hd0]; rfl
          · rw [order_zero_neg d hd2 hd0]; rfl
        have h4 : (FloatKind.f64.format.order (wd s' d) 0 == some Ordering.lt) = s' := by
          cases s'
          · exact bl (order_zero_pos d hd2 hd0) rfl
          · exact bl (order_zero_neg d hd2 hd0) rfl
        have h5 : (FloatKind.f64.format.order (wd s' rb) 0 == some Ordering.lt) = s' := by
          cases s'
          · exact bl (order_zero_pos rb cb hb0) rfl
          · exact bl (order_zero_neg rb cb hb0) rfl
        have h6 : (s' != s') = false := by simp
        clear hd3 hdz hz0
        go_wp2_with fail
        refine (zzAbs_any s' d hd2 _).mono ?_
        rintro e w' ⟨⟨s1, rfl, g1⟩, rfl⟩
        go_wp2_with fail
        refine (zzAbs_any s' rb cb _).mono ?_
        rintro e w' ⟨⟨s2, rfl, g2⟩, rfl⟩
        have hf := FIN.out s1 s2 g1 g2
        clear g1 g2
        go_wp2
        go_ret
        exact ⟨rfl, Below.refl _ _⟩
    · obtain ⟨n, op2, hn⟩ := run_sub_nan w 22 sb rb cb hrb
      go_enter Try.func4, Try.ntmps4
      go_wp2_with fail
      refine (ZZ_any s ra sb rb hra hrb hb0 (.inr cb) _).mono ?_
      rintro e w' ⟨⟨v, rfl⟩, rfl⟩
      go_wp2
      go_ret
      exact ⟨rfl, (Below.refl _ _).drew⟩
  · obtain ⟨n, op1, hn⟩ := run_sub_nan w 22 s ra ca hra
    go_enter Try.func4, Try.ntmps4
    go_wp2_with fail
    refine (ZZ_any s ra sb rb hra hrb hb0 (.inl ca) _).mono ?_
    rintro e w' ⟨⟨v, rfl⟩, rfl⟩
    go_wp2
    go_ret
    exact ⟨rfl, (Below.refl _ _).drew⟩
end Go.Proofs.Yteaopkanlnpiaaa
