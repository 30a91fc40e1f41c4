/- Plain laws on the instruction word of the Lua machine: the field setters and getters as arithmetic on integers. No condition: no Go program is named here. -/
import Derived.WalkKit
import Derived.Laws.BitsAllLaws
namespace Go.Proofs.YtabienikffakiaaFmt
open Go.RowKit
set_option linter.unusedVariables false

/-! ### int: masks of any int -/
theorem ofInt64_nat (a : Int) : (BitVec.ofInt 64 a).toNat = (a % 18446744073709551616).toNat := by
  simp [BitVec.toNat_ofInt]

theorem and_i64_bv (a b : Int) : bits .and .i64 a b = IntKind.i64.wrap (((a % 18446744073709551616).toNat &&& (b % 18446744073709551616).toNat : Nat) : Int) := by
  show IntKind.i64.wrap ((BitVec.ofInt 64 a &&& BitVec.ofInt 64 b).toNat : Int) = _
  rw [BitVec.toNat_and, ofInt64_nat, ofInt64_nat]

theorem or_i64_bv (a b : Int) : bits .or .i64 a b = IntKind.i64.wrap (((a % 18446744073709551616).toNat ||| (b % 18446744073709551616).toNat : Nat) : Int) := by
  show IntKind.i64.wrap ((BitVec.ofInt 64 a ||| BitVec.ofInt 64 b).toNat : Int) = _
  rw [BitVec.toNat_or, ofInt64_nat, ofInt64_nat]

theorem wrap_i64_small (n : Int) (h0 : 0 ≤ n) (h1 : n < 9223372036854775808) : IntKind.i64.wrap n = n := by
  simp [IntKind.wrap, IntKind.bits, IntKind.signed]; omega

theorem and_i64_255 (a : Int) : bits .and .i64 a 255 = a % 256 := by
  rw [and_i64_bv]
  have e : ((255 : Int) % 18446744073709551616).toNat = 255 := by decide
  rw [e, nat_mask8, wrap_i64_small] <;> omega

theorem and_i64_511 (a : Int) : bits .and .i64 a 511 = a % 512 := by
  rw [and_i64_bv]
  have e : ((511 : Int) % 18446744073709551616).toNat = 511 := by decide
  rw [e, nat_mask9, wrap_i64_small] <;> omega

theorem and_i64_262143 (a : Int) : bits .and .i64 a 262143 = a % 262144 := by
  rw [and_i64_bv]
  have e : ((262143 : Int) % 18446744073709551616).toNat = 262143 := by decide
  rw [e, nat_mask18, wrap_i64_small] <;> omega

theorem and_i64_256 (a : Int) : bits .and .i64 a 256 = a / 256 % 2 * 256 := by
  rw [and_i64_bv]
  have e : ((256 : Int) % 18446744073709551616).toNat = 2 ^ 8 := by decide
  rw [e, nat_bit, wrap_i64_small] <;> omega

/-! ### uint32: the setters -/
theorem mask_op (x : Int) (h0 : 0 ≤ x) (h1 : x < 4294967296) : bits .and .u32 x 67108863 = x % 67108864 := by
  rw [u32_and x 67108863 h0 h1 (by omega) (by omega)]
  simp only [Int.reduceToNat, nat_mask26]; omega

theorem mask_a (x : Int) (h0 : 0 ≤ x) (h1 : x < 4294967296) : bits .and .u32 x 4228120575 = x / 67108864 * 67108864 + x % 262144 := by
  rw [u32_and x 4228120575 h0 h1 (by omega) (by omega)]
  have e : (4228120575 : Int).toNat = 4227858432 ||| 262143 := by decide
  rw [e, Nat.and_or_distrib_left, nat_hi32_26, nat_mask18, nat_join 26 _ _ (by omega) (by omega)]
  omega

theorem mask_b (x : Int) (h0 : 0 ≤ x) (h1 : x < 4294967296) : bits .and .u32 x 4294966784 = x / 512 * 512 := by
  rw [u32_and x 4294966784 h0 h1 (by omega) (by omega)]
  simp only [Int.reduceToNat, nat_hi32_9]; omega

theorem mask_c (x : Int) (h0 : 0 ≤ x) (h1 : x < 4294967296) : bits .and .u32 x 4294705663 = x / 262144 * 262144 + x % 512 := by
  rw [u32_and x 4294705663 h0 h1 (by omega) (by omega)]
  have e : (4294705663 : Int).toNat = 4294705152 ||| 511 := by decide
  rw [e, Nat.and_or_distrib_left, nat_hi32_18, nat_mask9, nat_join 18 _ _ (by omega) (by omega)]
  omega

theorem mask_bx (x : Int) (h0 : 0 ≤ x) (h1 : x < 4294967296) : bits .and .u32 x 4294705152 = x / 262144 * 262144 := by
  rw [u32_and x 4294705152 h0 h1 (by omega) (by omega)]
  simp only [Int.reduceToNat, nat_hi32_18]; omega

theorem join_u32 (i : Nat) (x y : Int) (hx0 : 0 ≤ x) (hx : x < 4294967296) (hm : x % (2 ^ i : Nat) = 0) (hy0 : 0 ≤ y) (hy : y < (2 ^ i : Nat)) (hs : x + y < 4294967296) : bits .or .u32 x y = x + y := by
  obtain ⟨X, rfl⟩ := Int.eq_ofNat_of_zero_le hx0
  obtain ⟨Y, rfl⟩ := Int.eq_ofNat_of_zero_le hy0
  rw [u32_or_nat X Y (by omega) (by omega), nat_join i X Y (by omega) (by omega)]
  omega

theorem nat_join_mid (i j h l m : Nat) (hl : l < 2 ^ i) (hm : m * 2 ^ i < 2 ^ j) (hij : i ≤ j) : (h * 2 ^ j + l) ||| (m * 2 ^ i) = h * 2 ^ j + m * 2 ^ i + l := by
  have hle : 2 ^ i ≤ 2 ^ j := Nat.pow_le_pow_right (by omega) hij
  have hdm : m * 2 ^ i + l < 2 ^ j := by
    obtain ⟨d, rfl⟩ : ∃ d, j = i + d := ⟨j - i, by omega⟩
    rw [Nat.pow_add] at hm ⊢
    have hmd : m < 2 ^ d := by
      rw [Nat.mul_comm] at hm
      exact Nat.lt_of_mul_lt_mul_left hm
    calc m * 2 ^ i + l < m * 2 ^ i + 2 ^ i := by omega
      _ = 2 ^ i * (m + 1) := by rw [Nat.mul_add, Nat.mul_comm]; omega
      _ ≤ 2 ^ i * 2 ^ d := Nat.mul_le_mul_left _ hmd
  rw [← nat_join j (h * 2 ^ j) l (Nat.mul_mod_left _ _) (by omega), Nat.or_assoc, Nat.or_comm l, nat_join i (m * 2 ^ i) l (Nat.mul_mod_left _ _) hl,
    nat_join j (h * 2 ^ j) _ (Nat.mul_mod_left _ _) hdm]
  omega

theorem or_mid (i j h l m : Nat) (hl : l < 2 ^ i) (hm : m * 2 ^ i < 2 ^ j) (hij : i ≤ j) (hs : h * 2 ^ j + m * 2 ^ i + l < 4294967296) :
    bits .or .u32 ((h * 2 ^ j + l : Nat) : Int) ((m * 2 ^ i : Nat) : Int) = ((h * 2 ^ j + m * 2 ^ i + l : Nat) : Int) := by
  rw [u32_or_nat _ _ (by omega) (by omega), nat_join_mid i j h l m hl hm hij]

/-! ### the setters as functions on integers -/
def setOp (x v : Int) : Int := x % 67108864 + v % 64 * 67108864
def setA (x v : Int) : Int := x / 67108864 * 67108864 + v % 256 * 262144 + x % 262144
def setB (x v : Int) : Int := x / 512 * 512 + v % 512
def setC (x v : Int) : Int := x / 262144 * 262144 + v % 512 * 512 + x % 512
def setBx (x v : Int) : Int := x / 262144 * 262144 + v % 262144

theorem setOp_eq (x v : Int) (h0 : 0 ≤ x) (h1 : x < 4294967296) : bits .or .u32 (bits .and .u32 x 67108863) (v % 64 * 67108864) = setOp x v := by
  rw [mask_op x h0 h1]
  obtain ⟨X, rfl⟩ := Int.eq_ofNat_of_zero_le h0
  obtain ⟨m, hm⟩ := Int.eq_ofNat_of_zero_le (show (0 : Int) ≤ v % 64 by omega)
  have := or_mid 26 32 0 (X % 67108864) m (by omega) (by omega) (by omega) (by omega)
  unfold setOp
  rw [hm]
  simp at this ⊢
  rw [this]; omega

theorem setA_eq (x v : Int) (h0 : 0 ≤ x) (h1 : x < 4294967296) : bits .or .u32 (bits .and .u32 x 4228120575) (v % 256 * 262144) = setA x v := by
  rw [mask_a x h0 h1]
  obtain ⟨X, rfl⟩ := Int.eq_ofNat_of_zero_le h0
  obtain ⟨m, hm⟩ := Int.eq_ofNat_of_zero_le (show (0 : Int) ≤ v % 256 by omega)
  have := or_mid 18 26 (X / 67108864) (X % 262144) m (by omega) (by omega) (by omega) (by omega)
  unfold setA
  rw [hm]
  simp at this ⊢
  rw [this]

theorem setB_eq (x v : Int) (h0 : 0 ≤ x) (h1 : x < 4294967296) : bits .or .u32 (bits .and .u32 x 4294966784) (v % 512) = setB x v := by
  rw [mask_b x h0 h1]
  unfold setB
  exact join_u32 9 _ _ (by omega) (by omega) (by omega) (by omega) (by omega) (by omega)

theorem setC_eq (x v : Int) (h0 : 0 ≤ x) (h1 : x < 4294967296) : bits .or .u32 (bits .and .u32 x 4294705663) (v % 512 * 512) = setC x v := by
  rw [mask_c x h0 h1]
  obtain ⟨X, rfl⟩ := Int.eq_ofNat_of_zero_le h0
  obtain ⟨m, hm⟩ := Int.eq_ofNat_of_zero_le (show (0 : Int) ≤ v % 512 by omega)
  have := or_mid 9 18 (X / 262144) (X % 512) m (by omega) (by omega) (by omega) (by omega)
  unfold setC
  rw [hm]
  simp at this ⊢
  rw [this]

theorem setBx_eq (x v : Int) (h0 : 0 ≤ x) (h1 : x < 4294967296) : bits .or .u32 (bits .and .u32 x 4294705152) (v % 262144) = setBx x v := by
  rw [mask_bx x h0 h1]
  unfold setBx
  exact join_u32 18 _ _ (by omega) (by omega) (by omega) (by omega) (by omega) (by omega)

/-! ### the makers and readers -/
def isK (v : Int) : Bool := decide (256 ≤ v % 512)
theorem isK_eq (v : Int) : (bits .and .i64 v 256 != 0) = isK v := by
  rw [and_i64_256, isK, Bool.eq_iff_iff, bne_iff_ne, decide_eq_true_iff]; omega

theorem shl_op (v : Int) : wrap64 (v * 67108864) % 4294967296 = v % 64 * 67108864 := by unfold wrap64; omega
theorem shl_a (v : Int) : wrap64 (bits .and .i64 v 255 * 262144) % 4294967296 = v % 256 * 262144 := by rw [and_i64_255]; unfold wrap64; omega
theorem shl_c (v : Int) : wrap64 (bits .and .i64 v 511 * 512) % 4294967296 = v % 512 * 512 := by rw [and_i64_511]; unfold wrap64; omega
theorem low_b (v : Int) : bits .and .i64 v 511 % 4294967296 = v % 512 := by rw [and_i64_511]; omega
theorem low_bx (v : Int) : bits .and .i64 v 262143 % 4294967296 = v % 262144 := by rw [and_i64_262143]; omega

def indexK (v : Int) : Int := v - v / 256 % 2 * 256
def rkAsk (v : Int) : Int := v - v / 256 % 2 * 256 + 256
theorem bd_i64 {v : Int} (w : (Lit.int .i64 v).wf = true) : -9223372036854775808 ≤ v ∧ v ≤ 9223372036854775807 := by
  simpa [Lit.wf, IntKind.min, IntKind.max, IntKind.signed, IntKind.bits] using w
theorem bd_u32 {v : Int} (w : (Lit.int .u32 v).wf = true) : 0 ≤ v ∧ v < 4294967296 := by
  have : 0 ≤ v ∧ v ≤ 4294967295 := by simpa [Lit.wf, IntKind.min, IntKind.max, IntKind.signed, IntKind.bits] using w
  omega
theorem indexK_eq (v : Int) (h0 : -9223372036854775808 ≤ v) (h1 : v ≤ 9223372036854775807) : bits .and .i64 v (-257) = indexK v := by
  rw [and_i64_bv]
  have e : ((-257 : Int) % 18446744073709551616).toNat = 18446744073709551104 ||| 255 := by decide
  rw [e, Nat.and_or_distrib_left, nat_hi64_9, nat_mask8, nat_join 9 _ _ (by omega) (by omega)]
  unfold indexK
  simp only [IntKind.wrap, IntKind.bits, IntKind.signed]
  simp; split <;> omega
theorem nat_or_256 (x : Nat) : x ||| 256 = x - x / 256 % 2 * 256 + 256 := by
  have J := nat_join_mid 8 9 (x / 512) (x % 256) 1 (by omega) (by omega) (by omega)
  by_cases hb : x / 256 % 2 = 0
  · have e : x = x / 512 * 2 ^ 9 + x % 256 := by omega
    have J' : x ||| 256 = x / 512 * 2 ^ 9 + 1 * 2 ^ 8 + x % 256 := by rw [← J]; congr 1
    omega
  · have e : x = (x / 512 * 2 ^ 9 + x % 256) ||| (1 * 2 ^ 8) := by rw [J]; omega
    have J' : x ||| 256 = x := by
      rw [show (256 : Nat) = 1 * 2 ^ 8 from by omega]
      generalize hg : x / 512 * 2 ^ 9 + x % 256 = g at e
      rw [e, Nat.or_assoc, Nat.or_self]
    omega
theorem rkAsk_eq (v : Int) (h0 : -9223372036854775808 ≤ v) (h1 : v ≤ 9223372036854775807) : bits .or .i64 v 256 = rkAsk v := by
  rw [or_i64_bv]
  have e : ((256 : Int) % 18446744073709551616).toNat = 256 := by decide
  rw [e, nat_or_256]
  unfold rkAsk
  simp only [IntKind.wrap, IntKind.bits, IntKind.signed]
  simp; split <;> omega

theorem emod_of_tmod (x m : Int) (hm : 1 ≤ m) : (x.tmod m < 0 → x % m = x.tmod m + m) ∧ (0 ≤ x.tmod m → x % m = x.tmod m) := by
  have t1 := Int.tmod_lt_of_pos x (show 0 < m by omega)
  have t2 : -m < x.tmod m := Int.lt_tmod_of_pos x (show 0 < m by omega)
  have e : x % m = x.tmod m % m := by
    have h := Int.tmod_add_mul_tdiv x m
    have h2 : (x.tmod m + m * x.tdiv m) % m = x.tmod m % m := Int.add_mul_emod_self_left _ _ _
    rw [h] at h2
    exact h2
  constructor
  · intro h
    have h3 : (x.tmod m + m) % m = x.tmod m % m := by simp
    rw [e, ← h3]
    exact Int.emod_eq_of_lt (by omega) (by omega)
  · intro h
    rw [e]
    exact Int.emod_eq_of_lt h t1

theorem emod_bd (x m : Int) (hm : 1 ≤ m) : 0 ≤ x % m ∧ x % m < m := ⟨Int.emod_nonneg x (by omega), Int.emod_lt_of_pos x (by omega)⟩

def mkABC (op a b c : Int) : Int := op % 64 * 67108864 + a % 256 * 262144 + c % 512 * 512 + b % 512
def mkABx (op a bx : Int) : Int := op % 64 * 67108864 + a % 256 * 262144 + bx % 262144
theorem mkABC_eq (op a b c : Int) : setC (setB (setA (setOp 0 op) a) b) c = mkABC op a b c := by
  unfold setC setB setA setOp mkABC; omega
theorem mkABx_eq (op a bx : Int) : setBx (setA (setOp 0 op) a) bx = mkABx op a bx := by
  unfold setBx setA setOp mkABx; omega
theorem mkABC_bd (op a b c : Int) : 0 ≤ mkABC op a b c ∧ mkABC op a b c < 4294967296 := by unfold mkABC; omega
theorem mkABx_bd (op a bx : Int) : 0 ≤ mkABx op a bx ∧ mkABx op a bx < 4294967296 := by unfold mkABx; omega

theorem get_op (x : Int) (h0 : 0 ≤ x) (h1 : x < 4294967296) : wrap64 (x / 67108864) = x / 67108864 := by unfold wrap64; omega
theorem get_a (x : Int) (h0 : 0 ≤ x) (h1 : x < 4294967296) : bits .and .i64 (wrap64 (x / 262144)) 255 = x / 262144 % 256 := by rw [and_i64_255]; unfold wrap64; omega
theorem get_b (x : Int) (h0 : 0 ≤ x) (h1 : x < 4294967296) : wrap64 (bits .and .u32 x 511) = x % 512 := by
  rw [u32_and x 511 h0 h1 (by omega) (by omega)]; simp only [Int.reduceToNat, nat_mask9]; unfold wrap64; omega
theorem get_bx (x : Int) (h0 : 0 ≤ x) (h1 : x < 4294967296) : wrap64 (bits .and .u32 x 262143) = x % 262144 := by
  rw [u32_and x 262143 h0 h1 (by omega) (by omega)]; simp only [Int.reduceToNat, nat_mask18]; unfold wrap64; omega
theorem get_a' (x : Int) (h0 : 0 ≤ x) (h1 : x < 4294967296) : bits .and .i64 (x / 262144) 255 = x / 262144 % 256 := by rw [and_i64_255]
theorem get_c' (x : Int) (h0 : 0 ≤ x) (h1 : x < 4294967296) : bits .and .i64 (x / 512) 511 = x / 512 % 512 := by rw [and_i64_511]
theorem get_c (x : Int) (h0 : 0 ≤ x) (h1 : x < 4294967296) : bits .and .i64 (wrap64 (x / 512)) 511 = x / 512 % 512 := by rw [and_i64_511]; unfold wrap64; omega

theorem ret_bool {b : Bool} (h : b = true) : Ending.returned (.bool b) = .returned (.bool true) := by rw [h]
theorem u64_of_u32 (x : Int) (h0 : 0 ≤ x) (h1 : x < 4294967296) : IntKind.u64.wrap x = x := by
  rw [IntKind.wrap_u64]; omega

theorem setOp_bd (x v : Int) : 0 ≤ setOp x v ∧ setOp x v < 4294967296 := by unfold setOp; omega
theorem setA_bd (x v : Int) (h0 : 0 ≤ x) (h1 : x < 4294967296) : 0 ≤ setA x v ∧ setA x v < 4294967296 := by unfold setA; omega
theorem setB_bd (x v : Int) (h0 : 0 ≤ x) (h1 : x < 4294967296) : 0 ≤ setB x v ∧ setB x v < 4294967296 := by unfold setB; omega
theorem setC_bd (x v : Int) (h0 : 0 ≤ x) (h1 : x < 4294967296) : 0 ≤ setC x v ∧ setC x v < 4294967296 := by unfold setC; omega
theorem setBx_bd (x v : Int) (h0 : 0 ≤ x) (h1 : x < 4294967296) : 0 ≤ setBx x v ∧ setBx x v < 4294967296 := by unfold setBx; omega

end Go.Proofs.YtabienikffakiaaFmt
