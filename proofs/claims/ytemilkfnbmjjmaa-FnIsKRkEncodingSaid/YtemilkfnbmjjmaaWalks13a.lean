/- The walks of the instruction word's makers and readers. -/
import Derived.Test.YtemilkfnbmjjmaaRows
import Derived.Test.YtemilkfnbmjjmaaBits
import Derived.WalkKit
import Derived.ProofKit
import Derived.OpenShut
import Derived.WalkLawsBesides
import Derived.WalkSpells
import Derived.Handy
import Derived.Lib.Hide
namespace Go.Proofs.Ytemilkfnbmjjmaa
open Go.RowKit
set_option linter.unusedVariables false

theorem opIsK_any (v : Int) (w : World) :
    Calls Try.prog 24 #[.int .i64 v] w fun e w' => e = .returned (.bool (isK v)) ∧ w = w' := by
  go_enter Try.func24, Try.ntmps24
  go_wp2
  go_ret
  exact ⟨congrArg (fun t => Ending.returned (.bool t)) (isK_eq v), rfl⟩

theorem opSetOpCode_any (b o : Nat) (x v : Int) (w : World) (h0 : 0 ≤ x) (h1 : x < 4294967296) (hc : w.cell? ⟨b, o, none⟩ = some (.int .u32 x)) (hf : w.frozen? ⟨b, o, none⟩ = false) :
    Calls Try.prog 36 #[.pointer (some ⟨b, o, none⟩), .int .i64 v] w fun e w' => e = .returned (.tuple #[]) ∧ w.setCell ⟨b, o, none⟩ (.int .u32 (setOp x v)) = w' := by
  go_enter Try.func36, Try.ntmps36
  go_wp2
  go_end0
  exact ⟨rfl, by rw [shl_op, setOp_eq x v h0 h1]⟩

theorem opSetArgA_any (b o : Nat) (x v : Int) (w : World) (h0 : 0 ≤ x) (h1 : x < 4294967296) (hc : w.cell? ⟨b, o, none⟩ = some (.int .u32 x)) (hf : w.frozen? ⟨b, o, none⟩ = false) :
    Calls Try.prog 37 #[.pointer (some ⟨b, o, none⟩), .int .i64 v] w fun e w' => e = .returned (.tuple #[]) ∧ w.setCell ⟨b, o, none⟩ (.int .u32 (setA x v)) = w' := by
  go_enter Try.func37, Try.ntmps37
  go_wp2
  go_end0
  exact ⟨rfl, by rw [shl_a, setA_eq x v h0 h1]⟩

theorem opSetArgB_any (b o : Nat) (x v : Int) (w : World) (h0 : 0 ≤ x) (h1 : x < 4294967296) (hc : w.cell? ⟨b, o, none⟩ = some (.int .u32 x)) (hf : w.frozen? ⟨b, o, none⟩ = false) :
    Calls Try.prog 38 #[.pointer (some ⟨b, o, none⟩), .int .i64 v] w fun e w' => e = .returned (.tuple #[]) ∧ w.setCell ⟨b, o, none⟩ (.int .u32 (setB x v)) = w' := by
  go_enter Try.func38, Try.ntmps38
  go_wp2
  go_end0
  exact ⟨rfl, by rw [low_b, setB_eq x v h0 h1]⟩

theorem opSetArgC_any (b o : Nat) (x v : Int) (w : World) (h0 : 0 ≤ x) (h1 : x < 4294967296) (hc : w.cell? ⟨b, o, none⟩ = some (.int .u32 x)) (hf : w.frozen? ⟨b, o, none⟩ = false) :
    Calls Try.prog 39 #[.pointer (some ⟨b, o, none⟩), .int .i64 v] w fun e w' => e = .returned (.tuple #[]) ∧ w.setCell ⟨b, o, none⟩ (.int .u32 (setC x v)) = w' := by
  go_enter Try.func39, Try.ntmps39
  go_wp2
  go_end0
  exact ⟨rfl, by rw [shl_c, setC_eq x v h0 h1]⟩

theorem opSetArgBx_any (b o : Nat) (x v : Int) (w : World) (h0 : 0 ≤ x) (h1 : x < 4294967296) (hc : w.cell? ⟨b, o, none⟩ = some (.int .u32 x)) (hf : w.frozen? ⟨b, o, none⟩ = false) :
    Calls Try.prog 40 #[.pointer (some ⟨b, o, none⟩), .int .i64 v] w fun e w' => e = .returned (.tuple #[]) ∧ w.setCell ⟨b, o, none⟩ (.int .u32 (setBx x v)) = w' := by
  go_enter Try.func40, Try.ntmps40
  go_wp2
  go_end0
  exact ⟨rfl, by rw [low_bx, setBx_eq x v h0 h1]⟩

theorem opSetArgSbx_any (b o : Nat) (x v : Int) (w : World) (h0 : 0 ≤ x) (h1 : x < 4294967296) (hc : w.cell? ⟨b, o, none⟩ = some (.int .u32 x)) (hf : w.frozen? ⟨b, o, none⟩ = false) :
    Calls Try.prog 41 #[.pointer (some ⟨b, o, none⟩), .int .i64 v] w fun e w' => e = .returned (.tuple #[]) ∧ w.setCell ⟨b, o, none⟩ (.int .u32 (setBx x (v + 131071))) = w' := by
  go_enter Try.func41, Try.ntmps41
  go_wp2_with fail
  refine (opSetArgBx_any b o x _ _ h0 h1 hc hf).mono ?_
  rintro e w' ⟨rfl, rfl⟩
  go_wp2
  go_end0
  exact ⟨rfl, by rw [show setBx x (wrap64 (v + 131071)) = setBx x (v + 131071) from by unfold setBx wrap64; omega]⟩

theorem opCreateABC_any (op a b c : Int) (w : World) :
    Calls Try.prog 25 #[.int .i64 op, .int .i64 a, .int .i64 b, .int .i64 c] w fun e w' => e = .returned (.int .u32 (mkABC op a b c)) ∧ w.alloc (.cells #[.int .u32 (mkABC op a b c)] 25) = w' := by
  have b1 := setOp_bd 0 op
  have b2 := setA_bd _ a b1.1 b1.2
  have b3 := setB_bd _ b b2.1 b2.2
  go_enter Try.func25, Try.ntmps25
  go_wp2_with fail
  go_call (opSetOpCode_any _ _ 0 op _ (by omega) (by omega)) as e w' ⟨rfl, rfl⟩
  go_wp2_with fail
  go_call (opSetArgA_any _ _ _ a _ b1.1 b1.2) as e w' ⟨rfl, rfl⟩
  go_wp2_with fail
  go_call (opSetArgB_any _ _ _ b _ b2.1 b2.2) as e w' ⟨rfl, rfl⟩
  go_wp2_with fail
  go_call (opSetArgC_any _ _ _ c _ b3.1 b3.2) as e w' ⟨rfl, rfl⟩
  go_wp2
  go_ret
  rw [← mkABC_eq]
  exact ⟨rfl, rfl⟩

theorem opCreateABx_any (op a bx : Int) (w : World) :
    Calls Try.prog 26 #[.int .i64 op, .int .i64 a, .int .i64 bx] w fun e w' => e = .returned (.int .u32 (mkABx op a bx)) ∧ w.alloc (.cells #[.int .u32 (mkABx op a bx)] 25) = w' := by
  have b1 := setOp_bd 0 op
  have b2 := setA_bd _ a b1.1 b1.2
  go_enter Try.func26, Try.ntmps26
  go_wp2_with fail
  go_call (opSetOpCode_any _ _ 0 op _ (by omega) (by omega)) as e w' ⟨rfl, rfl⟩
  go_wp2_with fail
  go_call (opSetArgA_any _ _ _ a _ b1.1 b1.2) as e w' ⟨rfl, rfl⟩
  go_wp2_with fail
  go_call (opSetArgBx_any _ _ _ bx _ b2.1 b2.2) as e w' ⟨rfl, rfl⟩
  go_wp2
  go_ret
  rw [← mkABx_eq]
  exact ⟨rfl, rfl⟩

theorem opCreateASbx_any (op a sbx : Int) (w : World) :
    Calls Try.prog 27 #[.int .i64 op, .int .i64 a, .int .i64 sbx] w fun e w' => e = .returned (.int .u32 (mkABx op a (sbx + 131071))) ∧ w.alloc (.cells #[.int .u32 (mkABx op a (sbx + 131071))] 25) = w' := by
  have b1 := setOp_bd 0 op
  have b2 := setA_bd _ a b1.1 b1.2
  go_enter Try.func27, Try.ntmps27
  go_wp2_with fail
  go_call (opSetOpCode_any _ _ 0 op _ (by omega) (by omega)) as e w' ⟨rfl, rfl⟩
  go_wp2_with fail
  go_call (opSetArgA_any _ _ _ a _ b1.1 b1.2) as e w' ⟨rfl, rfl⟩
  go_wp2_with fail
  go_call (opSetArgSbx_any _ _ _ sbx _ b2.1 b2.2) as e w' ⟨rfl, rfl⟩
  go_wp2
  go_ret
  rw [← mkABx_eq]
  exact ⟨rfl, rfl⟩

theorem opGetOpCode_any (x : Int) (h0 : 0 ≤ x) (h1 : x < 4294967296) (w : World) :
    Calls Try.prog 28 #[.int .u32 x] w fun e w' => e = .returned (.int .i64 (x / 67108864)) ∧ w = w' := by
  go_enter Try.func28, Try.ntmps28
  go_wp2
  go_ret
  exact ⟨rfl, rfl⟩

theorem opGetArgA_any (x : Int) (h0 : 0 ≤ x) (h1 : x < 4294967296) (w : World) :
    Calls Try.prog 29 #[.int .u32 x] w fun e w' => e = .returned (.int .i64 (x / 262144 % 256)) ∧ w = w' := by
  go_enter Try.func29, Try.ntmps29
  go_wp2
  go_ret
  exact ⟨congrArg (fun t => Ending.returned (.int .i64 t)) (get_a' x h0 h1), rfl⟩

theorem opGetArgB_any (x : Int) (h0 : 0 ≤ x) (h1 : x < 4294967296) (w : World) :
    Calls Try.prog 32 #[.int .u32 x] w fun e w' => e = .returned (.int .i64 (x % 512)) ∧ w = w' := by
  go_enter Try.func32, Try.ntmps32
  go_wp2
  go_ret
  exact ⟨congrArg (fun t => Ending.returned (.int .i64 t)) (get_b x h0 h1), rfl⟩

theorem opGetArgC_any (x : Int) (h0 : 0 ≤ x) (h1 : x < 4294967296) (w : World) :
    Calls Try.prog 33 #[.int .u32 x] w fun e w' => e = .returned (.int .i64 (x / 512 % 512)) ∧ w = w' := by
  go_enter Try.func33, Try.ntmps33
  go_wp2
  go_ret
  exact ⟨congrArg (fun t => Ending.returned (.int .i64 t)) (get_c' x h0 h1), rfl⟩

theorem opGetArgBx_any (x : Int) (h0 : 0 ≤ x) (h1 : x < 4294967296) (w : World) :
    Calls Try.prog 30 #[.int .u32 x] w fun e w' => e = .returned (.int .i64 (x % 262144)) ∧ w = w' := by
  go_enter Try.func30, Try.ntmps30
  go_wp2
  go_ret
  exact ⟨congrArg (fun t => Ending.returned (.int .i64 t)) (get_bx x h0 h1), rfl⟩

theorem opIndexK_any (x : Int) (h0 : -9223372036854775808 ≤ x) (h1 : x ≤ 9223372036854775807) (w : World) :
    Calls Try.prog 35 #[.int .i64 x] w fun e w' => e = .returned (.int .i64 (indexK x)) ∧ w = w' := by
  go_enter Try.func35, Try.ntmps35
  go_wp2
  go_ret
  exact ⟨congrArg (fun t => Ending.returned (.int .i64 t)) (indexK_eq x h0 h1), rfl⟩

theorem opRkAsk_any (x : Int) (h0 : -9223372036854775808 ≤ x) (h1 : x ≤ 9223372036854775807) (w : World) :
    Calls Try.prog 34 #[.int .i64 x] w fun e w' => e = .returned (.int .i64 (rkAsk x)) ∧ w = w' := by
  go_enter Try.func34, Try.ntmps34
  go_wp2
  go_ret
  exact ⟨congrArg (fun t => Ending.returned (.int .i64 t)) (rkAsk_eq x h0 h1), rfl⟩

theorem opGetArgSbx_any (x : Int) (h0 : 0 ≤ x) (h1 : x < 4294967296) (w : World) :
    Calls Try.prog 31 #[.int .u32 x] w fun e w' => e = .returned (.int .i64 (x % 262144 - 131071)) ∧ w = w' := by
  have hb : 0 ≤ x % 262144 ∧ x % 262144 < 262144 := by omega
  go_enter Try.func31, Try.ntmps31
  go_wp2_with fail
  refine (opGetArgBx_any x h0 h1 _).mono ?_
  rintro e w' ⟨rfl, rfl⟩
  go_wp2
  go_ret
  exact ⟨rfl, rfl⟩

theorem ZZopIsK_any (v : Int) (w : World) :
    Calls Try.prog 12 #[.int .i64 v] w fun e w' => e = .returned (.bool (isK v)) ∧ w = w' := by
  go_enter Try.func12, Try.ntmps12
  go_wp2_with fail
  refine (opIsK_any v _).mono ?_
  rintro e w' ⟨rfl, rfl⟩
  go_wp2
  go_ret
  exact ⟨rfl, rfl⟩

theorem ZZopCreateABC_any (op a b c : Int) (w : World) :
    Calls Try.prog 13 #[.int .i64 op, .int .i64 a, .int .i64 b, .int .i64 c] w fun e w' => e = .returned (.int .u32 (mkABC op a b c)) ∧ w.alloc (.cells #[.int .u32 (mkABC op a b c)] 25) = w' := by
  go_enter Try.func13, Try.ntmps13
  go_wp2_with fail
  refine (opCreateABC_any op a b c _).mono ?_
  rintro e w' ⟨rfl, rfl⟩
  go_wp2
  go_ret
  exact ⟨rfl, rfl⟩

theorem ZZopCreateABx_any (op a bx : Int) (w : World) :
    Calls Try.prog 14 #[.int .i64 op, .int .i64 a, .int .i64 bx] w fun e w' => e = .returned (.int .u32 (mkABx op a bx)) ∧ w.alloc (.cells #[.int .u32 (mkABx op a bx)] 25) = w' := by
  go_enter Try.func14, Try.ntmps14
  go_wp2_with fail
  refine (opCreateABx_any op a bx _).mono ?_
  rintro e w' ⟨rfl, rfl⟩
  go_wp2
  go_ret
  exact ⟨rfl, rfl⟩

theorem ZZopCreateASbx_any (op a sbx : Int) (w : World) :
    Calls Try.prog 15 #[.int .i64 op, .int .i64 a, .int .i64 sbx] w fun e w' => e = .returned (.int .u32 (mkABx op a (sbx + 131071))) ∧ w.alloc (.cells #[.int .u32 (mkABx op a (sbx + 131071))] 25) = w' := by
  go_enter Try.func15, Try.ntmps15
  go_wp2_with fail
  refine (opCreateASbx_any op a sbx _).mono ?_
  rintro e w' ⟨rfl, rfl⟩
  go_wp2
  go_ret
  exact ⟨rfl, rfl⟩

theorem ZZopGetOpCode_any (x : Int) (h0 : 0 ≤ x) (h1 : x < 4294967296) (w : World) :
    Calls Try.prog 16 #[.int .u32 x] w fun e w' => e = .returned (.int .i64 (x / 67108864)) ∧ w = w' := by
  go_enter Try.func16, Try.ntmps16
  go_wp2_with fail
  refine (opGetOpCode_any x h0 h1 _).mono ?_
  rintro e w' ⟨rfl, rfl⟩
  go_wp2
  go_ret
  exact ⟨rfl, rfl⟩

theorem ZZopGetArgA_any (x : Int) (h0 : 0 ≤ x) (h1 : x < 4294967296) (w : World) :
    Calls Try.prog 17 #[.int .u32 x] w fun e w' => e = .returned (.int .i64 (x / 262144 % 256)) ∧ w = w' := by
  go_enter Try.func17, Try.ntmps17
  go_wp2_with fail
  refine (opGetArgA_any x h0 h1 _).mono ?_
  rintro e w' ⟨rfl, rfl⟩
  go_wp2
  go_ret
  exact ⟨rfl, rfl⟩

theorem ZZopGetArgB_any (x : Int) (h0 : 0 ≤ x) (h1 : x < 4294967296) (w : World) :
    Calls Try.prog 20 #[.int .u32 x] w fun e w' => e = .returned (.int .i64 (x % 512)) ∧ w = w' := by
  go_enter Try.func20, Try.ntmps20
  go_wp2_with fail
  refine (opGetArgB_any x h0 h1 _).mono ?_
  rintro e w' ⟨rfl, rfl⟩
  go_wp2
  go_ret
  exact ⟨rfl, rfl⟩

theorem ZZopGetArgC_any (x : Int) (h0 : 0 ≤ x) (h1 : x < 4294967296) (w : World) :
    Calls Try.prog 21 #[.int .u32 x] w fun e w' => e = .returned (.int .i64 (x / 512 % 512)) ∧ w = w' := by
  go_enter Try.func21, Try.ntmps21
  go_wp2_with fail
  refine (opGetArgC_any x h0 h1 _).mono ?_
  rintro e w' ⟨rfl, rfl⟩
  go_wp2
  go_ret
  exact ⟨rfl, rfl⟩

theorem ZZopGetArgBx_any (x : Int) (h0 : 0 ≤ x) (h1 : x < 4294967296) (w : World) :
    Calls Try.prog 18 #[.int .u32 x] w fun e w' => e = .returned (.int .i64 (x % 262144)) ∧ w = w' := by
  go_enter Try.func18, Try.ntmps18
  go_wp2_with fail
  refine (opGetArgBx_any x h0 h1 _).mono ?_
  rintro e w' ⟨rfl, rfl⟩
  go_wp2
  go_ret
  exact ⟨rfl, rfl⟩

theorem ZZopGetArgSbx_any (x : Int) (h0 : 0 ≤ x) (h1 : x < 4294967296) (w : World) :
    Calls Try.prog 19 #[.int .u32 x] w fun e w' => e = .returned (.int .i64 (x % 262144 - 131071)) ∧ w = w' := by
  go_enter Try.func19, Try.ntmps19
  go_wp2_with fail
  refine (opGetArgSbx_any x h0 h1 _).mono ?_
  rintro e w' ⟨rfl, rfl⟩
  go_wp2
  go_ret
  exact ⟨rfl, rfl⟩

theorem ZZopIndexK_any (x : Int) (h0 : -9223372036854775808 ≤ x) (h1 : x ≤ 9223372036854775807) (w : World) :
    Calls Try.prog 23 #[.int .i64 x] w fun e w' => e = .returned (.int .i64 (indexK x)) ∧ w = w' := by
  go_enter Try.func23, Try.ntmps23
  go_wp2_with fail
  refine (opIndexK_any x h0 h1 _).mono ?_
  rintro e w' ⟨rfl, rfl⟩
  go_wp2
  go_ret
  exact ⟨rfl, rfl⟩

theorem ZZopRkAsk_any (x : Int) (h0 : -9223372036854775808 ≤ x) (h1 : x ≤ 9223372036854775807) (w : World) :
    Calls Try.prog 22 #[.int .i64 x] w fun e w' => e = .returned (.int .i64 (rkAsk x)) ∧ w = w' := by
  go_enter Try.func22, Try.ntmps22
  go_wp2_with fail
  refine (opRkAsk_any x h0 h1 _).mono ?_
  rintro e w' ⟨rfl, rfl⟩
  go_wp2
  go_ret
  exact ⟨rfl, rfl⟩

theorem emod_any (x m : Int) (h0 : -9223372036854775808 ≤ x) (h1 : x ≤ 9223372036854775807) (hm : 1 ≤ m) (hm2 : m ≤ 262144) (w : World) :
    Calls Try.prog 11 #[.int .i64 x, .int .i64 m] w fun e w' => e = .returned (.int .i64 (x % m)) ∧ w = w' := by
  have hne : m ≠ 0 := by omega
  have hne' : (m == 0) = false := by simpa using hne
  have hT := emod_of_tmod x m hm
  have t1 := Int.tmod_lt_of_pos x (show 0 < m by omega)
  have t2 : -m < x.tmod m := Int.lt_tmod_of_pos x (show 0 < m by omega)
  by_cases hx : 0 ≤ x
  · have hp := Int.emod_nonneg x hne
    clear hT t1 t2
    go_enter Try.func11, Try.ntmps11
    go_wp2
    go_ret
    exact ⟨rfl, rfl⟩
  · by_cases ht : x.tmod m < 0
    · have H := Lib.hid (hT.1 ht)
      clear hT
      go_enter Try.func11, Try.ntmps11
      go_wp2
      go_ret
      exact ⟨congrArg (fun t => Ending.returned (.int .i64 t)) H.out.symm, rfl⟩
    · have H := Lib.hid (hT.2 (by omega))
      clear hT
      go_enter Try.func11, Try.ntmps11
      go_wp2
      go_ret
      exact ⟨congrArg (fun t => Ending.returned (.int .i64 t)) H.out.symm, rfl⟩

end Go.Proofs.Ytemilkfnbmjjmaa
