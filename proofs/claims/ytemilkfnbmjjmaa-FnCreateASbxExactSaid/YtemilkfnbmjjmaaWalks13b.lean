/- The walks of the laws on the instruction word (folder n005_13): each call returns true, whatever the integers. -/
import Derived.Test.YtemilkfnbmjjmaaWalks13a
namespace Go.Proofs.Ytemilkfnbmjjmaa
open Go.RowKit
set_option linter.unusedVariables false

theorem walk_FnIsKExact (a0 : Int) (w0 : (Lit.int .i64 a0).wf = true) (w : World) :
    Calls Try.prog 3 #[.int .i64 a0] w fun e w' => e = .returned (.bool true) ∧ Below w.heap.size w w' := by
  have b0 := bd_i64 w0
  have hd : (isK a0 == decide (256 ≤ a0 % 512)) = true := by simp [isK]
  go_enter Try.func3, Try.ntmps3
  go_wp2_with fail
  refine (emod_any a0 512 b0.1 b0.2 (by omega) (by omega) _).mono ?_
  rintro e w' ⟨rfl, rfl⟩
  go_wp2_with fail
  refine (ZZopIsK_any a0 _).mono ?_
  rintro e w' ⟨rfl, rfl⟩
  go_wp2
  go_ret
  exact ⟨rfl, Below.refl _ _⟩

theorem walk_FnCreateABCExact (a0 a1 a2 a3 : Int) (w0 : (Lit.int .i64 a0).wf = true) (w1 : (Lit.int .i64 a1).wf = true) (w2 : (Lit.int .i64 a2).wf = true) (w3 : (Lit.int .i64 a3).wf = true) (w : World) :
    Calls Try.prog 4 #[.int .i64 a0, .int .i64 a1, .int .i64 a2, .int .i64 a3] w fun e w' => e = .returned (.bool true) ∧ Below w.heap.size w w' := by
  have b0 := bd_i64 w0
  have b1 := bd_i64 w1
  have b2 := bd_i64 w2
  have b3 := bd_i64 w3
  have m0 := emod_bd a0 64 (by omega)
  have m1 := emod_bd a1 256 (by omega)
  have m2 := emod_bd a2 512 (by omega)
  have m3 := emod_bd a3 512 (by omega)
  go_enter Try.func4, Try.ntmps4
  go_wp2_with fail
  refine (emod_any a0 64 b0.1 b0.2 (by omega) (by omega) _).mono ?_
  rintro e w' ⟨rfl, rfl⟩
  go_wp2_with fail
  refine (emod_any a1 256 b1.1 b1.2 (by omega) (by omega) _).mono ?_
  rintro e w' ⟨rfl, rfl⟩
  go_wp2_with fail
  refine (emod_any a3 512 b3.1 b3.2 (by omega) (by omega) _).mono ?_
  rintro e w' ⟨rfl, rfl⟩
  go_wp2_with fail
  refine (emod_any a2 512 b2.1 b2.2 (by omega) (by omega) _).mono ?_
  rintro e w' ⟨rfl, rfl⟩
  go_wp2_with fail
  refine (ZZopCreateABC_any a0 a1 a2 a3 _).mono ?_
  rintro e w' ⟨rfl, rfl⟩
  go_wp2
  go_ret
  exact ⟨ret_bool (by have := mkABC_bd a0 a1 a2 a3; rw [u64_of_u32 _ this.1 this.2, beq_iff_eq]; unfold mkABC; omega), by go_grown⟩

theorem walk_FnCreateABxExact (a0 a1 a2 : Int) (w0 : (Lit.int .i64 a0).wf = true) (w1 : (Lit.int .i64 a1).wf = true) (w2 : (Lit.int .i64 a2).wf = true) (w : World) :
    Calls Try.prog 5 #[.int .i64 a0, .int .i64 a1, .int .i64 a2] w fun e w' => e = .returned (.bool true) ∧ Below w.heap.size w w' := by
  have b0 := bd_i64 w0
  have b1 := bd_i64 w1
  have b2 := bd_i64 w2
  have m0 := emod_bd a0 64 (by omega)
  have m1 := emod_bd a1 256 (by omega)
  have m2 := emod_bd a2 262144 (by omega)
  go_enter Try.func5, Try.ntmps5
  go_wp2_with fail
  refine (emod_any a0 64 b0.1 b0.2 (by omega) (by omega) _).mono ?_
  rintro e w' ⟨rfl, rfl⟩
  go_wp2_with fail
  refine (emod_any a1 256 b1.1 b1.2 (by omega) (by omega) _).mono ?_
  rintro e w' ⟨rfl, rfl⟩
  go_wp2_with fail
  refine (emod_any a2 262144 b2.1 b2.2 (by omega) (by omega) _).mono ?_
  rintro e w' ⟨rfl, rfl⟩
  go_wp2_with fail
  refine (ZZopCreateABx_any a0 a1 a2 _).mono ?_
  rintro e w' ⟨rfl, rfl⟩
  go_wp2
  go_ret
  exact ⟨ret_bool (by have := mkABx_bd a0 a1 a2; rw [u64_of_u32 _ this.1 this.2, beq_iff_eq]; unfold mkABx; omega), by go_grown⟩

theorem walk_FnCreateASbxExact (a0 a1 a2 : Int) (w0 : (Lit.int .i64 a0).wf = true) (w1 : (Lit.int .i64 a1).wf = true) (w2 : (Lit.int .i64 a2).wf = true) (w : World) :
    Calls Try.prog 6 #[.int .i64 a0, .int .i64 a1, .int .i64 a2] w fun e w' => e = .returned (.bool true) ∧ Below w.heap.size w w' := by
  have b0 := bd_i64 w0
  have b1 := bd_i64 w1
  have b2 := bd_i64 w2
  have m0 := emod_bd a0 64 (by omega)
  have m1 := emod_bd a1 256 (by omega)
  have m2 := emod_bd a2 262144 (by omega)
  have m3 := emod_bd (a2 % 262144 + 131071) 262144 (by omega)
  go_enter Try.func6, Try.ntmps6
  go_wp2_with fail
  refine (emod_any a2 262144 b2.1 b2.2 (by omega) (by omega) _).mono ?_
  rintro e w' ⟨rfl, rfl⟩
  go_wp2_with fail
  refine (emod_any _ 262144 (by omega) (by omega) (by omega) (by omega) _).mono ?_
  rintro e w' ⟨rfl, rfl⟩
  go_wp2_with fail
  refine (emod_any a0 64 b0.1 b0.2 (by omega) (by omega) _).mono ?_
  rintro e w' ⟨rfl, rfl⟩
  go_wp2_with fail
  refine (emod_any a1 256 b1.1 b1.2 (by omega) (by omega) _).mono ?_
  rintro e w' ⟨rfl, rfl⟩
  go_wp2_with fail
  refine (ZZopCreateASbx_any a0 a1 a2 _).mono ?_
  rintro e w' ⟨rfl, rfl⟩
  go_wp2
  go_ret
  exact ⟨ret_bool (by have := mkABx_bd a0 a1 (a2 + 131071); rw [u64_of_u32 _ this.1 this.2, beq_iff_eq]; unfold mkABx; omega), by go_grown⟩

theorem ZZopGetOpCode_is (x v : Int) (h0 : 0 ≤ x) (h1 : x < 4294967296) (hv : x / 67108864 = v) (w : World) :
    Calls Try.prog 16 #[.int .u32 x] w fun e w' => e = .returned (.int .i64 v) ∧ w = w' := by
  rw [← hv]; exact ZZopGetOpCode_any x h0 h1 w

theorem ZZopGetArgA_is (x v : Int) (h0 : 0 ≤ x) (h1 : x < 4294967296) (hv : x / 262144 % 256 = v) (w : World) :
    Calls Try.prog 17 #[.int .u32 x] w fun e w' => e = .returned (.int .i64 v) ∧ w = w' := by
  rw [← hv]; exact ZZopGetArgA_any x h0 h1 w

theorem ZZopGetArgB_is (x v : Int) (h0 : 0 ≤ x) (h1 : x < 4294967296) (hv : x % 512 = v) (w : World) :
    Calls Try.prog 20 #[.int .u32 x] w fun e w' => e = .returned (.int .i64 v) ∧ w = w' := by
  rw [← hv]; exact ZZopGetArgB_any x h0 h1 w

theorem ZZopGetArgC_is (x v : Int) (h0 : 0 ≤ x) (h1 : x < 4294967296) (hv : x / 512 % 512 = v) (w : World) :
    Calls Try.prog 21 #[.int .u32 x] w fun e w' => e = .returned (.int .i64 v) ∧ w = w' := by
  rw [← hv]; exact ZZopGetArgC_any x h0 h1 w

theorem ZZopGetArgBx_is (x v : Int) (h0 : 0 ≤ x) (h1 : x < 4294967296) (hv : x % 262144 = v) (w : World) :
    Calls Try.prog 18 #[.int .u32 x] w fun e w' => e = .returned (.int .i64 v) ∧ w = w' := by
  rw [← hv]; exact ZZopGetArgBx_any x h0 h1 w

theorem ZZopGetArgSbx_is (x v : Int) (h0 : 0 ≤ x) (h1 : x < 4294967296) (hv : x % 262144 - 131071 = v) (w : World) :
    Calls Try.prog 19 #[.int .u32 x] w fun e w' => e = .returned (.int .i64 v) ∧ w = w' := by
  rw [← hv]; exact ZZopGetArgSbx_any x h0 h1 w

theorem walk_FnCreateABxFieldsRoundTrip (a0 a1 a2 : Int) (w0 : (Lit.int .i64 a0).wf = true) (w1 : (Lit.int .i64 a1).wf = true) (w2 : (Lit.int .i64 a2).wf = true) (w : World) :
    Calls Try.prog 7 #[.int .i64 a0, .int .i64 a1, .int .i64 a2] w fun e w' => e = .returned (.bool true) ∧ Below w.heap.size w w' := by
  have b0 := bd_i64 w0
  have b1 := bd_i64 w1
  have b2 := bd_i64 w2
  by_cases c0l : a0 < 0
  · go_enter Try.func7, Try.ntmps7
    go_wp2
    go_ret
    exact ⟨rfl, Below.refl _ _⟩
  by_cases c0h : 63 < a0
  · go_enter Try.func7, Try.ntmps7
    go_wp2
    go_ret
    exact ⟨rfl, Below.refl _ _⟩
  by_cases c1l : a1 < 0
  · go_enter Try.func7, Try.ntmps7
    go_wp2
    go_ret
    exact ⟨rfl, Below.refl _ _⟩
  by_cases c1h : 255 < a1
  · go_enter Try.func7, Try.ntmps7
    go_wp2
    go_ret
    exact ⟨rfl, Below.refl _ _⟩
  by_cases c2l : a2 < 0
  · go_enter Try.func7, Try.ntmps7
    go_wp2
    go_ret
    exact ⟨rfl, Below.refl _ _⟩
  by_cases c2h : 262143 < a2
  · go_enter Try.func7, Try.ntmps7
    go_wp2
    go_ret
    exact ⟨rfl, Below.refl _ _⟩
  have hb := mkABx_bd a0 a1 a2
  go_enter Try.func7, Try.ntmps7
  go_wp2_with fail
  refine (ZZopCreateABx_any a0 a1 a2 _).mono ?_
  rintro e w' ⟨rfl, rfl⟩
  go_wp2_with fail
  refine (ZZopGetOpCode_is _ a0 hb.1 hb.2 (by unfold mkABx; omega) _).mono ?_
  rintro e w' ⟨rfl, rfl⟩
  go_wp2_with fail
  refine (ZZopGetArgA_is _ a1 hb.1 hb.2 (by unfold mkABx; omega) _).mono ?_
  rintro e w' ⟨rfl, rfl⟩
  go_wp2_with fail
  refine (ZZopGetArgBx_is _ a2 hb.1 hb.2 (by unfold mkABx; omega) _).mono ?_
  rintro e w' ⟨rfl, rfl⟩
  go_wp2
  go_ret
  exact ⟨rfl, by go_grown⟩

theorem walk_FnCreateASbxFieldsRoundTrip (a0 a1 a2 : Int) (w0 : (Lit.int .i64 a0).wf = true) (w1 : (Lit.int .i64 a1).wf = true) (w2 : (Lit.int .i64 a2).wf = true) (w : World) :
    Calls Try.prog 8 #[.int .i64 a0, .int .i64 a1, .int .i64 a2] w fun e w' => e = .returned (.bool true) ∧ Below w.heap.size w w' := by
  have b0 := bd_i64 w0
  have b1 := bd_i64 w1
  have b2 := bd_i64 w2
  by_cases c0l : a0 < 0
  · go_enter Try.func8, Try.ntmps8
    go_wp2
    go_ret
    exact ⟨rfl, Below.refl _ _⟩
  by_cases c0h : 63 < a0
  · go_enter Try.func8, Try.ntmps8
    go_wp2
    go_ret
    exact ⟨rfl, Below.refl _ _⟩
  by_cases c1l : a1 < 0
  · go_enter Try.func8, Try.ntmps8
    go_wp2
    go_ret
    exact ⟨rfl, Below.refl _ _⟩
  by_cases c1h : 255 < a1
  · go_enter Try.func8, Try.ntmps8
    go_wp2
    go_ret
    exact ⟨rfl, Below.refl _ _⟩
  by_cases c2l : a2 < -131071
  · go_enter Try.func8, Try.ntmps8
    go_wp2
    go_ret
    exact ⟨rfl, Below.refl _ _⟩
  by_cases c2h : 131072 < a2
  · go_enter Try.func8, Try.ntmps8
    go_wp2
    go_ret
    exact ⟨rfl, Below.refl _ _⟩
  have hb := mkABx_bd a0 a1 (a2 + 131071)
  go_enter Try.func8, Try.ntmps8
  go_wp2_with fail
  refine (ZZopCreateASbx_any a0 a1 a2 _).mono ?_
  rintro e w' ⟨rfl, rfl⟩
  go_wp2_with fail
  refine (ZZopGetOpCode_is _ a0 hb.1 hb.2 (by unfold mkABx; omega) _).mono ?_
  rintro e w' ⟨rfl, rfl⟩
  go_wp2_with fail
  refine (ZZopGetArgA_is _ a1 hb.1 hb.2 (by unfold mkABx; omega) _).mono ?_
  rintro e w' ⟨rfl, rfl⟩
  go_wp2_with fail
  refine (ZZopGetArgSbx_is _ a2 hb.1 hb.2 (by unfold mkABx; omega) _).mono ?_
  rintro e w' ⟨rfl, rfl⟩
  go_wp2
  go_ret
  exact ⟨rfl, by go_grown⟩

theorem walk_FnCreateABCFieldsRoundTrip (a0 a1 a2 a3 : Int) (w0 : (Lit.int .i64 a0).wf = true) (w1 : (Lit.int .i64 a1).wf = true) (w2 : (Lit.int .i64 a2).wf = true) (w3 : (Lit.int .i64 a3).wf = true) (w : World) :
    Calls Try.prog 9 #[.int .i64 a0, .int .i64 a1, .int .i64 a2, .int .i64 a3] w fun e w' => e = .returned (.bool true) ∧ Below w.heap.size w w' := by
  have b0 := bd_i64 w0
  have b1 := bd_i64 w1
  have b2 := bd_i64 w2
  have b3 := bd_i64 w3
  by_cases c0l : a0 < 0
  · go_enter Try.func9, Try.ntmps9
    go_wp2
    go_ret
    exact ⟨rfl, Below.refl _ _⟩
  by_cases c0h : 63 < a0
  · go_enter Try.func9, Try.ntmps9
    go_wp2
    go_ret
    exact ⟨rfl, Below.refl _ _⟩
  by_cases c1l : a1 < 0
  · go_enter Try.func9, Try.ntmps9
    go_wp2
    go_ret
    exact ⟨rfl, Below.refl _ _⟩
  by_cases c1h : 255 < a1
  · go_enter Try.func9, Try.ntmps9
    go_wp2
    go_ret
    exact ⟨rfl, Below.refl _ _⟩
  by_cases c2l : a2 < 0
  · go_enter Try.func9, Try.ntmps9
    go_wp2
    go_ret
    exact ⟨rfl, Below.refl _ _⟩
  by_cases c2h : 511 < a2
  · go_enter Try.func9, Try.ntmps9
    go_wp2
    go_ret
    exact ⟨rfl, Below.refl _ _⟩
  by_cases c3l : a3 < 0
  · go_enter Try.func9, Try.ntmps9
    go_wp2
    go_ret
    exact ⟨rfl, Below.refl _ _⟩
  by_cases c3h : 511 < a3
  · go_enter Try.func9, Try.ntmps9
    go_wp2
    go_ret
    exact ⟨rfl, Below.refl _ _⟩
  have hb := mkABC_bd a0 a1 a2 a3
  go_enter Try.func9, Try.ntmps9
  go_wp2_with fail
  refine (ZZopCreateABC_any a0 a1 a2 a3 _).mono ?_
  rintro e w' ⟨rfl, rfl⟩
  go_wp2_with fail
  refine (ZZopGetOpCode_is _ a0 hb.1 hb.2 (by unfold mkABC; omega) _).mono ?_
  rintro e w' ⟨rfl, rfl⟩
  go_wp2_with fail
  refine (ZZopGetArgA_is _ a1 hb.1 hb.2 (by unfold mkABC; omega) _).mono ?_
  rintro e w' ⟨rfl, rfl⟩
  go_wp2_with fail
  refine (ZZopGetArgB_is _ a2 hb.1 hb.2 (by unfold mkABC; omega) _).mono ?_
  rintro e w' ⟨rfl, rfl⟩
  go_wp2_with fail
  refine (ZZopGetArgC_is _ a3 hb.1 hb.2 (by unfold mkABC; omega) _).mono ?_
  rintro e w' ⟨rfl, rfl⟩
  go_wp2
  go_ret
  exact ⟨rfl, by go_grown⟩

theorem ZZopIsK_is (v : Int) (b : Bool) (hb : isK v = b) (w : World) :
    Calls Try.prog 12 #[.int .i64 v] w fun e w' => e = .returned (.bool b) ∧ w = w' := by
  rw [← hb]; exact ZZopIsK_any v w
theorem ZZopIndexK_is (x v : Int) (h0 : -9223372036854775808 ≤ x) (h1 : x ≤ 9223372036854775807) (hv : indexK x = v) (w : World) :
    Calls Try.prog 23 #[.int .i64 x] w fun e w' => e = .returned (.int .i64 v) ∧ w = w' := by
  rw [← hv]; exact ZZopIndexK_any x h0 h1 w

theorem walk_FnIsKRkEncoding (a0 : Int) (w0 : (Lit.int .i64 a0).wf = true) (w : World) :
    Calls Try.prog 10 #[.int .i64 a0] w fun e w' => e = .returned (.bool true) ∧ Below w.heap.size w w' := by
  have b0 := bd_i64 w0
  have k1 : isK (rkAsk a0) = true := by unfold isK rkAsk; exact decide_eq_true (by omega)
  have k2 : isK (indexK a0) = false := by unfold isK indexK; exact decide_eq_false (by omega)
  have K1 := Lib.hid k1
  have K2 := Lib.hid k2
  clear k1 k2
  by_cases cl : a0 < 0
  · go_enter Try.func10, Try.ntmps10
    go_wp2_with fail
    refine (ZZopRkAsk_any a0 b0.1 b0.2 _).mono ?_
    rintro e w' ⟨rfl, rfl⟩
    go_wp2_with fail
    refine (ZZopIsK_is _ true K1.out _).mono ?_
    rintro e w' ⟨rfl, rfl⟩
    go_wp2_with fail
    refine (ZZopIndexK_any a0 b0.1 b0.2 _).mono ?_
    rintro e w' ⟨rfl, rfl⟩
    go_wp2_with fail
    refine (ZZopIsK_is _ false K2.out _).mono ?_
    rintro e w' ⟨rfl, rfl⟩
    go_wp2
    go_ret
    exact ⟨rfl, Below.refl _ _⟩
  by_cases ch : 255 < a0
  · go_enter Try.func10, Try.ntmps10
    go_wp2_with fail
    refine (ZZopRkAsk_any a0 b0.1 b0.2 _).mono ?_
    rintro e w' ⟨rfl, rfl⟩
    go_wp2_with fail
    refine (ZZopIsK_is _ true K1.out _).mono ?_
    rintro e w' ⟨rfl, rfl⟩
    go_wp2_with fail
    refine (ZZopIndexK_any a0 b0.1 b0.2 _).mono ?_
    rintro e w' ⟨rfl, rfl⟩
    go_wp2_with fail
    refine (ZZopIsK_is _ false K2.out _).mono ?_
    rintro e w' ⟨rfl, rfl⟩
    go_wp2
    go_ret
    exact ⟨rfl, Below.refl _ _⟩
  have k3 : isK a0 = false := by unfold isK; exact decide_eq_false (by omega)
  have k4 : indexK (rkAsk a0) = a0 := by unfold indexK rkAsk; omega
  have k5 : -9223372036854775808 ≤ rkAsk a0 ∧ rkAsk a0 ≤ 9223372036854775807 := by unfold rkAsk; omega
  have K3 := Lib.hid k3
  have K4 := Lib.hid k4
  clear k3 k4
  go_enter Try.func10, Try.ntmps10
  go_wp2_with fail
  refine (ZZopRkAsk_any a0 b0.1 b0.2 _).mono ?_
  rintro e w' ⟨rfl, rfl⟩
  go_wp2_with fail
  refine (ZZopIsK_is _ true K1.out _).mono ?_
  rintro e w' ⟨rfl, rfl⟩
  go_wp2_with fail
  refine (ZZopIndexK_any a0 b0.1 b0.2 _).mono ?_
  rintro e w' ⟨rfl, rfl⟩
  go_wp2_with fail
  refine (ZZopIsK_is _ false K2.out _).mono ?_
  rintro e w' ⟨rfl, rfl⟩
  go_wp2_with fail
  refine (ZZopIsK_is a0 false K3.out _).mono ?_
  rintro e w' ⟨rfl, rfl⟩
  go_wp2_with fail
  refine (ZZopRkAsk_any a0 b0.1 b0.2 _).mono ?_
  rintro e w' ⟨rfl, rfl⟩
  go_wp2_with fail
  refine (ZZopIndexK_is _ a0 k5.1 k5.2 K4.out _).mono ?_
  rintro e w' ⟨rfl, rfl⟩
  go_wp2
  go_ret
  exact ⟨rfl, Below.refl _ _⟩

end Go.Proofs.Ytemilkfnbmjjmaa
