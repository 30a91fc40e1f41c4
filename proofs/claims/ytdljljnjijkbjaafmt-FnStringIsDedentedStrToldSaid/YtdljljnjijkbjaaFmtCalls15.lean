/- The contracts of str's callers (String, ZZstr) and of the maker's exports. -/
import Derived.Test.YtdljljnjijkbjaaFmtStrW15
import Derived.Test.YtdljljnjijkbjaaFmtBytes15
namespace Go.Proofs.YtdljljnjijkbjaaFmt
open Go.RowKit Go.Kit Go.Extern.Stop Go.Stop Go.Extern
set_option linter.unusedVariables false

theorem string_any (F : Interp) (p : Nat) (nu np nr : Int) (la : Option Addr) (lc : Nat) (lb : List Nat) (ls : List ByteArray) (ua : Option Addr) (uc : Nat) (us : List ByteArray) (ca : Option Addr) (cc : Nat) (da : Option Addr) (dc : Nat) (w : World) (hF : F.told.answers w.tape) (h : Pr w p nu np nr la lc lb ls ua uc us ca cc da dc) :
    Calls Tryf.prog 9 #[.pointer (some ⟨p, 0, none⟩)] w fun e w' => e = .returned (.string ⟨(listing [] 0 1 nu np nr ls us).flatten.toArray⟩) ∧ Turn w w' (fun _ => False) := by
  go_enter Tryf.func9, Tryf.ntmps9
  go_wp2_with fail
  refine (str_any F p nu np nr la lc lb ls ua uc us ca cc da dc 1 0 w hF h (by omega) (by omega) (by omega)).mono ?_
  rintro e w' ⟨rfl, hT⟩
  go_wp2
  go_ret
  exact ⟨rfl, hT⟩

theorem ZZstr_any (F : Interp) (p : Nat) (nu np nr : Int) (la : Option Addr) (lc : Nat) (lb : List Nat) (ls : List ByteArray) (ua : Option Addr) (uc : Nat) (us : List ByteArray) (ca : Option Addr) (cc : Nat) (da : Option Addr) (dc : Nat) (l : Nat) (c : Int) (w : World) (hF : F.told.answers w.tape) (h : Pr w p nu np nr la lc lb ls ua uc us ca cc da dc) (hl0 : 1 ≤ l) (hl1 : l ≤ 4096) (hc : -9223372036854775808 ≤ c ∧ c ≤ 9223372036854775807) :
    Calls Tryf.prog 14 #[.pointer (some ⟨p, 0, none⟩), .int .i64 l, .int .i64 c] w fun e w' => e = .returned (.string ⟨(listing (Lib.repeatL [32, 32] (l - 1)) c l nu np nr ls us).flatten.toArray⟩) ∧ Turn w w' (fun _ => False) := by
  go_enter Tryf.func14, Tryf.ntmps14
  go_wp2_with fail
  refine (str_any F p nu np nr la lc lb ls ua uc us ca cc da dc l c w hF h hl0 hl1 hc).mono ?_
  rintro e w' ⟨rfl, hT⟩
  go_wp2
  go_ret
  exact ⟨rfl, hT⟩

theorem ZZnew_any (s : ByteArray) (w : World) : Calls Tryf.prog 7 #[.string s] w (Fresh s w) := by
  go_enter Tryf.func7, Tryf.ntmps7
  go_wp2_with fail
  refine (newProto_any s _).mono ?_
  rintro e w' ⟨p, g, rfl, h⟩
  go_wp2
  go_ret
  exact ⟨p, g, rfl, h⟩

theorem ZZget_any (p : Nat) (v : Value) (w : World) (h : w.cell? ⟨p, 14, none⟩ = some v) :
    Calls Tryf.prog 8 #[.pointer (some ⟨p, 0, none⟩)] w fun e w' => e = .returned v ∧ w = w' := by
  go_enter Tryf.func8, Tryf.ntmps8
  go_wp2
  go_ret
  exact ⟨rfl, rfl⟩
theorem eql_nil (t e : TypeId) (h : Tryf.prog.underlying t = some (.slice e)) (a : Option Addr) (n c : Nat) (w : World) : (binOp .eql t (.slice a n c) (.slice none 0 0)).run Tryf.prog w = .ok (.bool a.isNone) w := by
  have h1 : ∀ d : Nat, (Op.equalIn (d + 1) t (.slice a n c) (.slice none 0 0)).run Tryf.prog w = .ok a.isNone w := fun d => by
    cases a <;> simp [Op.equalIn, run_underlying h]
  simp only [binOp]
  simp [Op.equal, Op.maxDepth, h1 9999]
@[go_sem] theorem eql_nil0 (a : Option Addr) (n c : Nat) (w : World) : (binOp .eql 25 (.slice a n c) (.slice none 0 0)).run Tryf.prog w = .ok (.bool a.isNone) w := eql_nil _ 56 Tryf.underlying25 a n c w
@[go_sem] theorem eql_nil1 (a : Option Addr) (n c : Nat) (w : World) : (binOp .eql 26 (.slice a n c) (.slice none 0 0)).run Tryf.prog w = .ok (.bool a.isNone) w := eql_nil _ 55 Tryf.underlying26 a n c w
@[go_sem] theorem eql_nil2 (a : Option Addr) (n c : Nat) (w : World) : (binOp .eql 27 (.slice a n c) (.slice none 0 0)).run Tryf.prog w = .ok (.bool a.isNone) w := eql_nil _ 23 Tryf.underlying27 a n c w
@[go_sem] theorem eql_nil3 (a : Option Addr) (n c : Nat) (w : World) : (binOp .eql 28 (.slice a n c) (.slice none 0 0)).run Tryf.prog w = .ok (.bool a.isNone) w := eql_nil _ 3 Tryf.underlying28 a n c w
@[go_sem] theorem eql_nil4 (a : Option Addr) (n c : Nat) (w : World) : (binOp .eql 29 (.slice a n c) (.slice none 0 0)).run Tryf.prog w = .ok (.bool a.isNone) w := eql_nil _ 48 Tryf.underlying29 a n c w
@[go_sem] theorem eql_nil5 (a : Option Addr) (n c : Nat) (w : World) : (binOp .eql 30 (.slice a n c) (.slice none 0 0)).run Tryf.prog w = .ok (.bool a.isNone) w := eql_nil _ 100 Tryf.underlying30 a n c w
@[go_sem] theorem eql_nil6 (a : Option Addr) (n c : Nat) (w : World) : (binOp .eql 31 (.slice a n c) (.slice none 0 0)).run Tryf.prog w = .ok (.bool a.isNone) w := eql_nil _ 9 Tryf.underlying31 a n c w
end Go.Proofs.YtdljljnjijkbjaaFmt
