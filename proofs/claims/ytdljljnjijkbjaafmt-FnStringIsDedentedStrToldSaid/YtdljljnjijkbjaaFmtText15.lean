/- The texts that fmt.Sprintf gives at the listing's formats (told). -/
import Derived.Test.YtdljljnjijkbjaaFmtFmt15
import Derived.Stop.JoinedAt
import Derived.Stop.Texts
import Derived.Stop.JoinedTold
import Derived.Stop.FmtTextKit
namespace Go.Proofs.YtdljljnjijkbjaaFmt
open Go.RowKit Go.Extern.Stop Go.Stop Go.Extern
set_option linter.unusedVariables false

theorem p_en : (FmtText.parse [37, 118, 59, 32, 101, 110, 100, 32, 111, 102, 32, 102, 117, 110, 99, 116, 105, 111, 110, 10]).map FmtText.glue = some [.verb {} 118, .lit [59, 32, 101, 110, 100, 32, 111, 102, 32, 102, 117, 110, 99, 116, 105, 111, 110, 10]] := by rfl

theorem t_en (s : List UInt8) (hs : s.length < 2 ^ 64) : FmtText.text "fmt.Sprintf" [[37, 118, 59, 32, 101, 110, 100, 32, 111, 102, 32, 102, 117, 110, 99, 116, 105, 111, 110, 10], sh_string, FmtStop.pack s] = some (s ++ [59, 32, 101, 110, 100, 32, 111, 102, 32, 102, 117, 110, 99, 116, 105, 111, 110, 10]) := by
  have hn := FmtText.operand_str_at (sh := sh_string) rfl rfl s hs
  rw [FmtText.text_sprintf_glued p_en (FmtText.operands_cons hn FmtText.operands_nil)]
  simp [FmtText.render, FmtText.printArg_v_str]
theorem p_hd : (FmtText.parse [37, 118, 59, 32, 102, 117, 110, 99, 116, 105, 111, 110, 32, 91, 37, 118, 93, 32, 100, 101, 102, 105, 110, 105, 116, 105, 111, 110, 32, 40, 108, 101, 118, 101, 108, 32, 37, 118, 41, 10]).map FmtText.glue = some [.verb {} 118, .lit [59, 32, 102, 117, 110, 99, 116, 105, 111, 110, 32, 91], .verb {} 118, .lit [93, 32, 100, 101, 102, 105, 110, 105, 116, 105, 111, 110, 32, 40, 108, 101, 118, 101, 108, 32], .verb {} 118, .lit [41, 10]] := by rfl

theorem t_hd (x0 : List UInt8) (h0 : x0.length < 2 ^ 64) (x1 : Int) (h1 : (Lit.int .i64 x1).wf = true) (x2 : Int) (h2 : (Lit.int .i64 x2).wf = true) : FmtText.text "fmt.Sprintf" [[37, 118, 59, 32, 102, 117, 110, 99, 116, 105, 111, 110, 32, 91, 37, 118, 93, 32, 100, 101, 102, 105, 110, 105, 116, 105, 111, 110, 32, 40, 108, 101, 118, 101, 108, 32, 37, 118, 41, 10], sh_string, FmtStop.pack x0, sh_int, Go.Extern.Stop.digits 8 (x1 % 18446744073709551616).toNat, sh_int, Go.Extern.Stop.digits 8 (x2 % 18446744073709551616).toNat] = some (x0 ++ ([59, 32, 102, 117, 110, 99, 116, 105, 111, 110, 32, 91] ++ (Lib.itoa x1 ++ ([93, 32, 100, 101, 102, 105, 110, 105, 116, 105, 111, 110, 32, 40, 108, 101, 118, 101, 108, 32] ++ (Lib.itoa x2 ++ ([41, 10])))))) := by
  have o0 := FmtText.operand_str_at (sh := sh_string) rfl rfl x0 h0
  have o1 := FmtText.operand_int_at (sh := sh_int) (k := .i64) rfl rfl x1 h1
  have o2 := FmtText.operand_int_at (sh := sh_int) (k := .i64) rfl rfl x2 h2
  rw [FmtText.text_sprintf_glued p_hd (FmtText.operands_cons o0 (FmtText.operands_cons o1 (FmtText.operands_cons o2 FmtText.operands_nil)))]
  simp [FmtText.render, FmtText.printArg_v_str, FmtText.printArg_v _ _ h1, FmtText.printArg_v _ _ h2]

theorem p_up : (FmtText.parse [37, 118, 59, 32, 37, 118, 32, 117, 112, 118, 97, 108, 117, 101, 115, 44, 32, 37, 118, 32, 112, 97, 114, 97, 109, 115, 44, 32, 37, 118, 32, 115, 116, 97, 99, 107, 115, 10]).map FmtText.glue = some [.verb {} 118, .lit [59, 32], .verb {} 118, .lit [32, 117, 112, 118, 97, 108, 117, 101, 115, 44, 32], .verb {} 118, .lit [32, 112, 97, 114, 97, 109, 115, 44, 32], .verb {} 118, .lit [32, 115, 116, 97, 99, 107, 115, 10]] := by rfl

theorem t_up (x0 : List UInt8) (h0 : x0.length < 2 ^ 64) (x1 : Int) (h1 : (Lit.int .u8 x1).wf = true) (x2 : Int) (h2 : (Lit.int .u8 x2).wf = true) (x3 : Int) (h3 : (Lit.int .u8 x3).wf = true) : FmtText.text "fmt.Sprintf" [[37, 118, 59, 32, 37, 118, 32, 117, 112, 118, 97, 108, 117, 101, 115, 44, 32, 37, 118, 32, 112, 97, 114, 97, 109, 115, 44, 32, 37, 118, 32, 115, 116, 97, 99, 107, 115, 10], sh_string, FmtStop.pack x0, sh_uint8, Go.Extern.Stop.digits 8 (x1 % 18446744073709551616).toNat, sh_uint8, Go.Extern.Stop.digits 8 (x2 % 18446744073709551616).toNat, sh_uint8, Go.Extern.Stop.digits 8 (x3 % 18446744073709551616).toNat] = some (x0 ++ ([59, 32] ++ (Lib.itoa x1 ++ ([32, 117, 112, 118, 97, 108, 117, 101, 115, 44, 32] ++ (Lib.itoa x2 ++ ([32, 112, 97, 114, 97, 109, 115, 44, 32] ++ (Lib.itoa x3 ++ ([32, 115, 116, 97, 99, 107, 115, 10])))))))) := by
  have o0 := FmtText.operand_str_at (sh := sh_string) rfl rfl x0 h0
  have o1 := FmtText.operand_int_at (sh := sh_uint8) (k := .u8) rfl rfl x1 h1
  have o2 := FmtText.operand_int_at (sh := sh_uint8) (k := .u8) rfl rfl x2 h2
  have o3 := FmtText.operand_int_at (sh := sh_uint8) (k := .u8) rfl rfl x3 h3
  rw [FmtText.text_sprintf_glued p_up (FmtText.operands_cons o0 (FmtText.operands_cons o1 (FmtText.operands_cons o2 (FmtText.operands_cons o3 FmtText.operands_nil))))]
  simp [FmtText.render, FmtText.printArg_v_str, FmtText.printArg_v _ _ h1, FmtText.printArg_v _ _ h2, FmtText.printArg_v _ _ h3]

theorem p_lo : (FmtText.parse [37, 118, 46, 108, 111, 99, 97, 108, 32, 37, 118, 32, 59, 32, 37, 118, 10]).map FmtText.glue = some [.verb {} 118, .lit [46, 108, 111, 99, 97, 108, 32], .verb {} 118, .lit [32, 59, 32], .verb {} 118, .lit [10]] := by rfl

theorem t_lo (x0 : List UInt8) (h0 : x0.length < 2 ^ 64) (x1 : List UInt8) (h1 : x1.length < 2 ^ 64) (x2 : Int) (h2 : (Lit.int .i64 x2).wf = true) : FmtText.text "fmt.Sprintf" [[37, 118, 46, 108, 111, 99, 97, 108, 32, 37, 118, 32, 59, 32, 37, 118, 10], sh_string, FmtStop.pack x0, sh_string, FmtStop.pack x1, sh_int, Go.Extern.Stop.digits 8 (x2 % 18446744073709551616).toNat] = some (x0 ++ ([46, 108, 111, 99, 97, 108, 32] ++ (x1 ++ ([32, 59, 32] ++ (Lib.itoa x2 ++ ([10])))))) := by
  have o0 := FmtText.operand_str_at (sh := sh_string) rfl rfl x0 h0
  have o1 := FmtText.operand_str_at (sh := sh_string) rfl rfl x1 h1
  have o2 := FmtText.operand_int_at (sh := sh_int) (k := .i64) rfl rfl x2 h2
  rw [FmtText.text_sprintf_glued p_lo (FmtText.operands_cons o0 (FmtText.operands_cons o1 (FmtText.operands_cons o2 FmtText.operands_nil)))]
  simp [FmtText.render, FmtText.printArg_v_str, FmtText.printArg_v _ _ h2]

theorem p_uv : (FmtText.parse [37, 118, 46, 117, 112, 118, 97, 108, 117, 101, 32, 37, 118, 32, 59, 32, 37, 118, 10]).map FmtText.glue = some [.verb {} 118, .lit [46, 117, 112, 118, 97, 108, 117, 101, 32], .verb {} 118, .lit [32, 59, 32], .verb {} 118, .lit [10]] := by rfl

theorem t_uv (x0 : List UInt8) (h0 : x0.length < 2 ^ 64) (x1 : List UInt8) (h1 : x1.length < 2 ^ 64) (x2 : Int) (h2 : (Lit.int .i64 x2).wf = true) : FmtText.text "fmt.Sprintf" [[37, 118, 46, 117, 112, 118, 97, 108, 117, 101, 32, 37, 118, 32, 59, 32, 37, 118, 10], sh_string, FmtStop.pack x0, sh_string, FmtStop.pack x1, sh_int, Go.Extern.Stop.digits 8 (x2 % 18446744073709551616).toNat] = some (x0 ++ ([46, 117, 112, 118, 97, 108, 117, 101, 32] ++ (x1 ++ ([32, 59, 32] ++ (Lib.itoa x2 ++ ([10])))))) := by
  have o0 := FmtText.operand_str_at (sh := sh_string) rfl rfl x0 h0
  have o1 := FmtText.operand_str_at (sh := sh_string) rfl rfl x1 h1
  have o2 := FmtText.operand_int_at (sh := sh_int) (k := .i64) rfl rfl x2 h2
  rw [FmtText.text_sprintf_glued p_uv (FmtText.operands_cons o0 (FmtText.operands_cons o1 (FmtText.operands_cons o2 FmtText.operands_nil)))]
  simp [FmtText.render, FmtText.printArg_v_str, FmtText.printArg_v _ _ h2]

end Go.Proofs.YtdljljnjijkbjaaFmt
