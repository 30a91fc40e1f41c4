/- The walks of the laws on opGetOpCode, opSetOpCode, opGetArgA, opSetArgA (folder n005_126): each call returns true, whatever the integers. -/
import Derived.Test.YtiadbmilhjfjhaaOps126
namespace Go.Proofs.Ytiadbmilhjfjhaa
open Go.RowKit
set_option linter.unusedVariables false

theorem setOp_is (b o : Nat) (x v r : Int) (w : World) (h0 : 0 ≤ x) (h1 : x < 4294967296) (hr : setOp x v = r) (hc : w.cell? ⟨b, o, none⟩ = some (.int .u32 x)) (hf : w.frozen? ⟨b, o, none⟩ = false) :
    Calls Try.prog 7 #[.pointer (some ⟨b, o, none⟩), .int .i64 v] w fun e w' => e = .returned (.tuple #[]) ∧ w.setCell ⟨b, o, none⟩ (.int .u32 r) = w' := by
  go_enter Try.func7, Try.ntmps7
  go_wp2_with fail
  refine (opSetOpCode_any b o x v _ h0 h1 hc hf).mono ?_
  rintro e w' ⟨rfl, rfl⟩
  go_wp2
  go_end0
  exact ⟨rfl, rfl⟩

theorem setA_is (b o : Nat) (x v r : Int) (w : World) (h0 : 0 ≤ x) (h1 : x < 4294967296) (hr : setA x v = r) (hc : w.cell? ⟨b, o, none⟩ = some (.int .u32 x)) (hf : w.frozen? ⟨b, o, none⟩ = false) :
    Calls Try.prog 9 #[.pointer (some ⟨b, o, none⟩), .int .i64 v] w fun e w' => e = .returned (.tuple #[]) ∧ w.setCell ⟨b, o, none⟩ (.int .u32 r) = w' := by
  go_enter Try.func9, Try.ntmps9
  go_wp2_with fail
  refine (opSetArgA_any b o x v _ h0 h1 hc hf).mono ?_
  rintro e w' ⟨rfl, rfl⟩
  go_wp2
  go_end0
  exact ⟨rfl, rfl⟩

theorem getOp_is (x r : Int) (h0 : 0 ≤ x) (h1 : x < 4294967296) (hr : x / 67108864 = r) (w : World) :
    Calls Try.prog 6 #[.int .u32 x] w fun e w' => e = .returned (.int .i64 r) ∧ w = w' := by
  rw [← hr]; exact ZZopGetOpCode_any x h0 h1 w
theorem getA_is (x r : Int) (h0 : 0 ≤ x) (h1 : x < 4294967296) (hr : x / 262144 % 256 = r) (w : World) :
    Calls Try.prog 8 #[.int .u32 x] w fun e w' => e = .returned (.int .i64 r) ∧ w = w' := by
  rw [← hr]; exact ZZopGetArgA_any x h0 h1 w

theorem walk_FnGetOpCodeMonotone (a0 a1 : Int) (w0 : (Lit.int .u32 a0).wf = true) (w1 : (Lit.int .u32 a1).wf = true) (w : World) :
    Calls Try.prog 3 #[.int .u32 a0, .int .u32 a1] w fun e w' => e = .returned (.bool true) ∧ Below w.heap.size w w' := by
  have b0 := bd_u32 w0
  have b1 := bd_u32 w1
  by_cases h : a1 < a0
  · go_enter Try.func3, Try.ntmps3
    go_wp2_with fail
    refine (ZZopGetOpCode_any a1 b1.1 b1.2 _).mono ?_
    rintro e w' ⟨rfl, rfl⟩
    go_wp2_with fail
    refine (ZZopGetOpCode_any a0 b0.1 b0.2 _).mono ?_
    rintro e w' ⟨rfl, rfl⟩
    go_wp2
    go_ret
    exact ⟨ret_bool (decide_eq_true (by omega)), Below.refl _ _⟩
  · go_enter Try.func3, Try.ntmps3
    go_wp2_with fail
    refine (ZZopGetOpCode_any a0 b0.1 b0.2 _).mono ?_
    rintro e w' ⟨rfl, rfl⟩
    go_wp2_with fail
    refine (ZZopGetOpCode_any a1 b1.1 b1.2 _).mono ?_
    rintro e w' ⟨rfl, rfl⟩
    go_wp2
    go_ret
    exact ⟨ret_bool (decide_eq_true (by omega)), Below.refl _ _⟩

theorem walk_FnSetOpCodeRoundTripKeepsRestLastWins (a0 a1 a2 : Int) (w0 : (Lit.int .u32 a0).wf = true) (w1 : (Lit.int .i64 a1).wf = true) (w2 : (Lit.int .i64 a2).wf = true) (w : World) :
    Calls Try.prog 4 #[.int .u32 a0, .int .i64 a1, .int .i64 a2] w fun e w' => e = .returned (.bool true) ∧ Below w.heap.size w w' := by
  have b0 := bd_u32 w0
  by_cases cl : a1 < 0
  · go_enter Try.func4, Try.ntmps4
    go_wp2
    go_ret
    exact ⟨rfl, by go_grown⟩
  by_cases ch : 63 < a1
  · go_enter Try.func4, Try.ntmps4
    go_wp2
    go_ret
    exact ⟨rfl, by go_grown⟩
  obtain ⟨X, hX⟩ : ∃ X, setOp a0 a1 = X := ⟨_, rfl⟩
  obtain ⟨Z, hZ⟩ : ∃ Z, setOp a0 a2 = Z := ⟨_, rfl⟩
  obtain ⟨A, hA⟩ : ∃ A, a0 / 262144 % 256 = A := ⟨_, rfl⟩
  have bX := setOp_bd a0 a1
  rw [hX] at bX
  have hXo : X / 67108864 = a1 := by rw [← hX]; unfold setOp; omega
  have hXA : X / 262144 % 256 = A := by rw [← hX, ← hA]; unfold setOp; omega
  have hXl : (X % 67108864 != a0 % 67108864) = false := by rw [bne_eq_false_iff_eq, ← hX]; unfold setOp; omega
  have hXX : setOp X a1 = X := by rw [← hX]; unfold setOp; omega
  have hXZ : setOp X a2 = Z := by rw [← hX, ← hZ]; unfold setOp; omega
  have h00 : setOp a0 (a0 / 67108864) = a0 := by unfold setOp; omega
  have HX := Lib.hid hX
  have HZ := Lib.hid hZ
  have HA := Lib.hid hA
  have HXo := Lib.hid hXo
  have HXA := Lib.hid hXA
  have HXX := Lib.hid hXX
  have HXZ := Lib.hid hXZ
  have H00 := Lib.hid h00
  clear hX hZ hA hXo hXA hXX hXZ h00
  go_enter Try.func4, Try.ntmps4
  go_wp2_with fail
  go_call (setOp_is _ _ a0 a1 X _ b0.1 b0.2 HX.out) as e w' ⟨rfl, rfl⟩
  go_wp2_with fail
  refine (getOp_is X a1 bX.1 bX.2 HXo.out _).mono ?_
  rintro e w' ⟨rfl, rfl⟩
  go_wp2_with fail
  refine (getA_is X A bX.1 bX.2 HXA.out _).mono ?_
  rintro e w' ⟨rfl, rfl⟩
  go_wp2_with fail
  refine (getA_is a0 A b0.1 b0.2 HA.out _).mono ?_
  rintro e w' ⟨rfl, rfl⟩
  go_wp2_with fail
  go_call (setOp_is _ _ X a1 X _ bX.1 bX.2 HXX.out) as e w' ⟨rfl, rfl⟩
  go_wp2_with fail
  refine (getOp_is a0 _ b0.1 b0.2 rfl _).mono ?_
  rintro e w' ⟨rfl, rfl⟩
  go_wp2_with fail
  go_call (setOp_is _ _ a0 (a0 / 67108864) a0 _ b0.1 b0.2 H00.out) as e w' ⟨rfl, rfl⟩
  go_wp2_with fail
  go_call (setOp_is _ _ X a2 Z _ bX.1 bX.2 HXZ.out) as e w' ⟨rfl, rfl⟩
  go_wp2_with fail
  go_call (setOp_is _ _ a0 a2 Z _ b0.1 b0.2 HZ.out) as e w' ⟨rfl, rfl⟩
  go_wp2
  go_ret
  exact ⟨rfl, by go_grown⟩

theorem walk_FnSetArgARoundTripKeepsRestCommutes (a0 a1 a2 a3 : Int) (w0 : (Lit.int .u32 a0).wf = true) (w1 : (Lit.int .i64 a1).wf = true) (w2 : (Lit.int .i64 a2).wf = true) (w3 : (Lit.int .i64 a3).wf = true) (w : World) :
    Calls Try.prog 5 #[.int .u32 a0, .int .i64 a1, .int .i64 a2, .int .i64 a3] w fun e w' => e = .returned (.bool true) ∧ Below w.heap.size w w' := by
  have b0 := bd_u32 w0
  by_cases cl : a1 < 0
  · go_enter Try.func5, Try.ntmps5
    go_wp2
    go_ret
    exact ⟨rfl, by go_grown⟩
  by_cases ch : 255 < a1
  · go_enter Try.func5, Try.ntmps5
    go_wp2
    go_ret
    exact ⟨rfl, by go_grown⟩
  obtain ⟨X, hX⟩ : ∃ X, setA a0 a1 = X := ⟨_, rfl⟩
  obtain ⟨Z, hZ⟩ : ∃ Z, setA a0 a2 = Z := ⟨_, rfl⟩
  obtain ⟨O, hO⟩ : ∃ O, a0 / 67108864 = O := ⟨_, rfl⟩
  obtain ⟨A, hA⟩ : ∃ A, a0 / 262144 % 256 = A := ⟨_, rfl⟩
  obtain ⟨P, hP⟩ : ∃ P, setOp Z a3 = P := ⟨_, rfl⟩
  obtain ⟨R, hR⟩ : ∃ R, setOp a0 a3 = R := ⟨_, rfl⟩
  have bX := setA_bd a0 a1 b0.1 b0.2
  have bZ := setA_bd a0 a2 b0.1 b0.2
  have bR := setOp_bd a0 a3
  rw [hX] at bX
  rw [hZ] at bZ
  rw [hR] at bR
  have hXo : X / 67108864 = O := by rw [← hX, ← hO]; unfold setA; omega
  have hXA : X / 262144 % 256 = a1 := by rw [← hX]; unfold setA; omega
  have hXl : (X % 262144 != a0 % 262144) = false := by rw [bne_eq_false_iff_eq, ← hX]; unfold setA; omega
  have hXX : setA X a1 = X := by rw [← hX]; unfold setA; omega
  have hXZ : setA X a2 = Z := by rw [← hX, ← hZ]; unfold setA; omega
  have h00 : setA a0 A = a0 := by rw [← hA]; unfold setA; omega
  have hRP : setA R a2 = P := by rw [← hR, ← hP, ← hZ]; unfold setA setOp; omega
  have HX := Lib.hid hX
  have HZ := Lib.hid hZ
  have HO := Lib.hid hO
  have HA := Lib.hid hA
  have HP := Lib.hid hP
  have HR := Lib.hid hR
  have HXo := Lib.hid hXo
  have HXA := Lib.hid hXA
  have HXX := Lib.hid hXX
  have HXZ := Lib.hid hXZ
  have H00 := Lib.hid h00
  have HRP := Lib.hid hRP
  clear hX hZ hO hA hP hR hXo hXA hXX hXZ h00 hRP
  go_enter Try.func5, Try.ntmps5
  go_wp2_with fail
  go_call (setA_is _ _ a0 a1 X _ b0.1 b0.2 HX.out) as e w' ⟨rfl, rfl⟩
  go_wp2_with fail
  refine (getA_is X a1 bX.1 bX.2 HXA.out _).mono ?_
  rintro e w' ⟨rfl, rfl⟩
  go_wp2_with fail
  refine (getOp_is X O bX.1 bX.2 HXo.out _).mono ?_
  rintro e w' ⟨rfl, rfl⟩
  go_wp2_with fail
  refine (getOp_is a0 O b0.1 b0.2 HO.out _).mono ?_
  rintro e w' ⟨rfl, rfl⟩
  go_wp2_with fail
  go_call (setA_is _ _ X a1 X _ bX.1 bX.2 HXX.out) as e w' ⟨rfl, rfl⟩
  go_wp2_with fail
  refine (getA_is a0 A b0.1 b0.2 HA.out _).mono ?_
  rintro e w' ⟨rfl, rfl⟩
  go_wp2_with fail
  go_call (setA_is _ _ a0 A a0 _ b0.1 b0.2 H00.out) as e w' ⟨rfl, rfl⟩
  go_wp2_with fail
  go_call (setA_is _ _ X a2 Z _ bX.1 bX.2 HXZ.out) as e w' ⟨rfl, rfl⟩
  go_wp2_with fail
  go_call (setA_is _ _ a0 a2 Z _ b0.1 b0.2 HZ.out) as e w' ⟨rfl, rfl⟩
  go_wp2_with fail
  go_call (setA_is _ _ a0 a2 Z _ b0.1 b0.2 HZ.out) as e w' ⟨rfl, rfl⟩
  go_wp2_with fail
  go_call (setOp_is _ _ Z a3 P _ bZ.1 bZ.2 HP.out) as e w' ⟨rfl, rfl⟩
  go_wp2_with fail
  go_call (setOp_is _ _ a0 a3 R _ b0.1 b0.2 HR.out) as e w' ⟨rfl, rfl⟩
  go_wp2_with fail
  go_call (setA_is _ _ R a2 P _ bR.1 bR.2 HRP.out) as e w' ⟨rfl, rfl⟩
  go_wp2
  go_ret
  exact ⟨rfl, by go_grown⟩

end Go.Proofs.Ytiadbmilhjfjhaa
