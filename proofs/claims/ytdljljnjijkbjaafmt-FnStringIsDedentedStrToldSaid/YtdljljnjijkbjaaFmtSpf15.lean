/- What fmt.Sprintf gives at the listing's five formats, as equations of the call's run (fmt's texts told). Condition: the operands lie in the variadic block; the tape answers as the told reading. -/
import Derived.Test.YtdljljnjijkbjaaFmtStr15
namespace Go.Proofs.YtdljljnjijkbjaaFmt
open Go.RowKit Go.Kit Go.Extern.Stop Go.Stop Go.Extern
set_option linter.unusedVariables false

def hdL (d : List UInt8) (c l : Int) : List UInt8 := d ++ ([59, 32, 102, 117, 110, 99, 116, 105, 111, 110, 32, 91] ++ (Lib.itoa c ++ ([93, 32, 100, 101, 102, 105, 110, 105, 116, 105, 111, 110, 32, 40, 108, 101, 118, 101, 108, 32] ++ (Lib.itoa l ++ [41, 10]))))
def upL (d : List UInt8) (nu np nr : Int) : List UInt8 := d ++ ([59, 32] ++ (Lib.itoa nu ++ ([32, 117, 112, 118, 97, 108, 117, 101, 115, 44, 32] ++ (Lib.itoa np ++ ([32, 112, 97, 114, 97, 109, 115, 44, 32] ++ (Lib.itoa nr ++ [32, 115, 116, 97, 99, 107, 115, 10]))))))
def loL (d s : List UInt8) (k : Int) : List UInt8 := d ++ ([46, 108, 111, 99, 97, 108, 32] ++ (s ++ ([32, 59, 32] ++ (Lib.itoa k ++ [10]))))
def uvL (d s : List UInt8) (k : Int) : List UInt8 := d ++ ([46, 117, 112, 118, 97, 108, 117, 101, 32] ++ (s ++ ([32, 59, 32] ++ (Lib.itoa k ++ [10]))))
def enL (d : List UInt8) : List UInt8 := d ++ [59, 32, 101, 110, 100, 32, 111, 102, 32, 102, 117, 110, 99, 116, 105, 111, 110, 10]

theorem len_itoa (n : Int) (h0 : -9223372036854775808 ≤ n) (h1 : n ≤ 9223372036854775807) : (Lib.itoa n).length ≤ 21 := Lib.itoa_length_le n h0 h1
theorem wf_i64 {n : Int} (h0 : -9223372036854775808 ≤ n) (h1 : n ≤ 9223372036854775807) : (Lit.int .i64 n).wf = true := by
  simp only [Lit.wf, Bool.and_eq_true, decide_eq_true_eq]
  exact ⟨h0, h1⟩
theorem wf_u8 {n : Int} (h0 : 0 ≤ n) (h1 : n ≤ 255) : (Lit.int .u8 n).wf = true := by
  simp only [Lit.wf, Bool.and_eq_true, decide_eq_true_eq]
  exact ⟨h0, h1⟩

set_option maxRecDepth 100000 in
theorem s_en (F : Interp) (w : World) (hF : F.told.answers w.tape) (t : Nat) (d : List UInt8) (hd : d.length ≤ 8192) (h0 : w.cell? ⟨t, 0, none⟩ = some (.iface 9 (.string ⟨d.toArray⟩))) :
    (callFunc 24 #[.string ⟨#[37, 118, 59, 32, 101, 110, 100, 32, 111, 102, 32, 102, 117, 110, 99, 116, 105, 111, 110, 10]⟩, .slice (some ⟨t, 0, none⟩) 1 1]).run Tryf.prog w = .ok (.value (.string ⟨(enL d).toArray⟩)) w.drew := by
  have hF' := answers_open hF
  have ht := told_bytes F (t_en d (by omega)) (by simp; omega)
  rw [call_sprintf]
  go_simp
  rfl

set_option maxRecDepth 100000 in
theorem s_hd (F : Interp) (w : World) (hF : F.told.answers w.tape) (t : Nat) (d : List UInt8) (hd : d.length ≤ 8192) (x1 : Int) (m1 : -9223372036854775808 ≤ x1 ∧ x1 ≤ 9223372036854775807) (x2 : Int) (m2 : -9223372036854775808 ≤ x2 ∧ x2 ≤ 9223372036854775807) (h0 : w.cell? ⟨t, 0, none⟩ = some (.iface 9 (.string ⟨d.toArray⟩))) (h1 : w.cell? ⟨t, 1, none⟩ = some (.iface 3 (.int .i64 x1))) (h2 : w.cell? ⟨t, 2, none⟩ = some (.iface 3 (.int .i64 x2))) :
    (callFunc 24 #[.string ⟨#[37, 118, 59, 32, 102, 117, 110, 99, 116, 105, 111, 110, 32, 91, 37, 118, 93, 32, 100, 101, 102, 105, 110, 105, 116, 105, 111, 110, 32, 40, 108, 101, 118, 101, 108, 32, 37, 118, 41, 10]⟩, .slice (some ⟨t, 0, none⟩) 3 3]).run Tryf.prog w = .ok (.value (.string ⟨(hdL d x1 x2).toArray⟩)) w.drew := by
  have hF' := answers_open hF
  have b1 := len_itoa x1 m1.1 m1.2
  have b2 := len_itoa x2 m2.1 m2.2
  have ht := told_bytes F (t_hd d (by omega) x1 (wf_i64 m1.1 m1.2) x2 (wf_i64 m2.1 m2.2)) (by simp; omega)
  rw [call_sprintf]
  go_simp
  rfl

set_option maxRecDepth 100000 in
theorem s_up (F : Interp) (w : World) (hF : F.told.answers w.tape) (t : Nat) (d : List UInt8) (hd : d.length ≤ 8192) (x1 : Int) (m1 : 0 ≤ x1 ∧ x1 ≤ 255) (x2 : Int) (m2 : 0 ≤ x2 ∧ x2 ≤ 255) (x3 : Int) (m3 : 0 ≤ x3 ∧ x3 ≤ 255) (h0 : w.cell? ⟨t, 0, none⟩ = some (.iface 9 (.string ⟨d.toArray⟩))) (h1 : w.cell? ⟨t, 1, none⟩ = some (.iface 5 (.int .u8 x1))) (h2 : w.cell? ⟨t, 2, none⟩ = some (.iface 5 (.int .u8 x2))) (h3 : w.cell? ⟨t, 3, none⟩ = some (.iface 5 (.int .u8 x3))) :
    (callFunc 24 #[.string ⟨#[37, 118, 59, 32, 37, 118, 32, 117, 112, 118, 97, 108, 117, 101, 115, 44, 32, 37, 118, 32, 112, 97, 114, 97, 109, 115, 44, 32, 37, 118, 32, 115, 116, 97, 99, 107, 115, 10]⟩, .slice (some ⟨t, 0, none⟩) 4 4]).run Tryf.prog w = .ok (.value (.string ⟨(upL d x1 x2 x3).toArray⟩)) w.drew := by
  have hF' := answers_open hF
  have b1 := len_itoa x1 (by omega) (by omega)
  have b2 := len_itoa x2 (by omega) (by omega)
  have b3 := len_itoa x3 (by omega) (by omega)
  have ht := told_bytes F (t_up d (by omega) x1 (wf_u8 m1.1 m1.2) x2 (wf_u8 m2.1 m2.2) x3 (wf_u8 m3.1 m3.2)) (by simp; omega)
  rw [call_sprintf]
  go_simp
  rfl

set_option maxRecDepth 100000 in
theorem s_lo (F : Interp) (w : World) (hF : F.told.answers w.tape) (t : Nat) (d : List UInt8) (hd : d.length ≤ 8192) (x1 : ByteArray) (m1 : x1.data.toList.length ≤ 1048576) (x2 : Int) (m2 : -9223372036854775808 ≤ x2 ∧ x2 ≤ 9223372036854775807) (h0 : w.cell? ⟨t, 0, none⟩ = some (.iface 9 (.string ⟨d.toArray⟩))) (h1 : w.cell? ⟨t, 1, none⟩ = some (.iface 9 (.string x1))) (h2 : w.cell? ⟨t, 2, none⟩ = some (.iface 3 (.int .i64 x2))) :
    (callFunc 24 #[.string ⟨#[37, 118, 46, 108, 111, 99, 97, 108, 32, 37, 118, 32, 59, 32, 37, 118, 10]⟩, .slice (some ⟨t, 0, none⟩) 3 3]).run Tryf.prog w = .ok (.value (.string ⟨(loL d x1.data.toList x2).toArray⟩)) w.drew := by
  have hF' := answers_open hF
  have m1' : x1.size ≤ 1048576 := by simpa using m1
  have b2 := len_itoa x2 m2.1 m2.2
  have ht := told_bytes F (t_lo d (by omega) x1.data.toList (by omega) x2 (wf_i64 m2.1 m2.2)) (by simp; omega)
  rw [call_sprintf]
  go_simp
  rfl

set_option maxRecDepth 100000 in
theorem s_uv (F : Interp) (w : World) (hF : F.told.answers w.tape) (t : Nat) (d : List UInt8) (hd : d.length ≤ 8192) (x1 : ByteArray) (m1 : x1.data.toList.length ≤ 1048576) (x2 : Int) (m2 : -9223372036854775808 ≤ x2 ∧ x2 ≤ 9223372036854775807) (h0 : w.cell? ⟨t, 0, none⟩ = some (.iface 9 (.string ⟨d.toArray⟩))) (h1 : w.cell? ⟨t, 1, none⟩ = some (.iface 9 (.string x1))) (h2 : w.cell? ⟨t, 2, none⟩ = some (.iface 3 (.int .i64 x2))) :
    (callFunc 24 #[.string ⟨#[37, 118, 46, 117, 112, 118, 97, 108, 117, 101, 32, 37, 118, 32, 59, 32, 37, 118, 10]⟩, .slice (some ⟨t, 0, none⟩) 3 3]).run Tryf.prog w = .ok (.value (.string ⟨(uvL d x1.data.toList x2).toArray⟩)) w.drew := by
  have hF' := answers_open hF
  have m1' : x1.size ≤ 1048576 := by simpa using m1
  have b2 := len_itoa x2 m2.1 m2.2
  have ht := told_bytes F (t_uv d (by omega) x1.data.toList (by omega) x2 (wf_i64 m2.1 m2.2)) (by simp; omega)
  rw [call_sprintf]
  go_simp
  rfl

end Go.Proofs.YtdljljnjijkbjaaFmt
