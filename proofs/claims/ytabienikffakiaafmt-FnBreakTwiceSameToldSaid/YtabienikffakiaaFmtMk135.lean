/- The makers of instruction words, and the code store's AddABC and AddASbx. -/
import Derived.Test.YtabienikffakiaaFmtCode
import Derived.Deep.DeepFit
import Derived.Handy
namespace Go.Proofs.YtabienikffakiaaFmt
open Go.RowKit
set_option linter.unusedVariables false

theorem opSetOpCode_any (b o : Nat) (x v : Int) (w : World) (h0 : 0 ≤ x) (h1 : x < 4294967296) (hc : w.cell? ⟨b, o, none⟩ = some (.int .u32 x)) (hf : w.frozen? ⟨b, o, none⟩ = false) :
    Calls Tryf.prog 52 #[.pointer (some ⟨b, o, none⟩), .int .i64 v] w fun e w' => e = .returned (.tuple #[]) ∧ w.setCell ⟨b, o, none⟩ (.int .u32 (setOp x v)) = w' := by
  go_enter Tryf.func52, Tryf.ntmps52
  go_wp2
  go_end0
  exact ⟨rfl, by rw [shl_op, setOp_eq x v h0 h1]⟩

theorem opSetArgB_any (b o : Nat) (x v : Int) (w : World) (h0 : 0 ≤ x) (h1 : x < 4294967296) (hc : w.cell? ⟨b, o, none⟩ = some (.int .u32 x)) (hf : w.frozen? ⟨b, o, none⟩ = false) :
    Calls Tryf.prog 54 #[.pointer (some ⟨b, o, none⟩), .int .i64 v] w fun e w' => e = .returned (.tuple #[]) ∧ w.setCell ⟨b, o, none⟩ (.int .u32 (setB x v)) = w' := by
  go_enter Tryf.func54, Tryf.ntmps54
  go_wp2
  go_end0
  exact ⟨rfl, by rw [low_b, setB_eq x v h0 h1]⟩

theorem opSetArgC_any (b o : Nat) (x v : Int) (w : World) (h0 : 0 ≤ x) (h1 : x < 4294967296) (hc : w.cell? ⟨b, o, none⟩ = some (.int .u32 x)) (hf : w.frozen? ⟨b, o, none⟩ = false) :
    Calls Tryf.prog 55 #[.pointer (some ⟨b, o, none⟩), .int .i64 v] w fun e w' => e = .returned (.tuple #[]) ∧ w.setCell ⟨b, o, none⟩ (.int .u32 (setC x v)) = w' := by
  go_enter Tryf.func55, Tryf.ntmps55
  go_wp2
  go_end0
  exact ⟨rfl, by rw [shl_c, setC_eq x v h0 h1]⟩

theorem opCreateABC_any (op a b c : Int) (w : World) :
    Calls Tryf.prog 49 #[.int .i64 op, .int .i64 a, .int .i64 b, .int .i64 c] w fun e w' => e = .returned (.int .u32 (mkABC op a b c)) ∧ w.alloc (.cells #[.int .u32 (mkABC op a b c)] 47) = w' := by
  have b1 := setOp_bd 0 op
  have b2 := setA_bd _ a b1.1 b1.2
  have b3 := setB_bd _ b b2.1 b2.2
  go_enter Tryf.func49, Tryf.ntmps49
  go_wp2_with fail
  go_call (opSetOpCode_any _ _ 0 op _ (by omega) (by omega)) as e w' ⟨rfl, rfl⟩
  go_wp2_with fail
  go_call (opSetArgA_any _ _ _ a _ b1.1 b1.2) as e w' ⟨rfl, rfl⟩
  go_wp2_with fail
  go_call (opSetArgB_any _ _ _ b _ b2.1 b2.2) as e w' ⟨rfl, rfl⟩
  go_wp2_with fail
  go_call (opSetArgC_any _ _ _ c _ b3.1 b3.2) as e w' ⟨rfl, rfl⟩
  go_wp2
  go_ret
  rw [← mkABC_eq]
  exact ⟨rfl, rfl⟩

theorem opCreateASbx_any (op a sbx : Int) (w : World) :
    Calls Tryf.prog 50 #[.int .i64 op, .int .i64 a, .int .i64 sbx] w fun e w' => e = .returned (.int .u32 (mkABx op a (sbx + 131071))) ∧ w.alloc (.cells #[.int .u32 (mkABx op a (sbx + 131071))] 47) = w' := by
  have b1 := setOp_bd 0 op
  have b2 := setA_bd _ a b1.1 b1.2
  go_enter Tryf.func50, Tryf.ntmps50
  go_wp2_with fail
  go_call (opSetOpCode_any _ _ 0 op _ (by omega) (by omega)) as e w' ⟨rfl, rfl⟩
  go_wp2_with fail
  go_call (opSetArgA_any _ _ _ a _ b1.1 b1.2) as e w' ⟨rfl, rfl⟩
  go_wp2_with fail
  go_call (opSetArgSbx_any _ _ _ sbx _ b2.1 b2.2) as e w' ⟨rfl, rfl⟩
  go_wp2
  go_ret
  rw [← mkABx_eq]
  exact ⟨rfl, rfl⟩

set_option maxRecDepth 100000 in
theorem addABC_any (β c gc cc gl cl : Nat) (is ls : List Int) (op x y z l : Int) (w : World) (h : Code w β c gc cc gl cl is ls) (hβ : β ≤ w.heap.size) (hn : is.length ≤ 1048576) :
    Calls Tryf.prog 36 #[.pointer (some ⟨c, 0, none⟩), .int .i64 op, .int .i64 x, .int .i64 y, .int .i64 z, .int .i64 l] w (Added β c gc gl is ls (mkABC op x y z) l w) := by
  have T := (Turn.refl w (fun _ => False)).alloc (.cells #[.int .u32 (mkABC op x y z)] 47)
  have h1 := h.kept T id id id
  go_enter Tryf.func36, Tryf.ntmps36
  go_wp2_with fail
  refine (opCreateABC_any op x y z _).mono ?_
  rintro e w' ⟨rfl, hw⟩
  rw [hw] at T h1
  have hs := T.size
  go_wp2_with fail
  refine (add_any β c gc cc gl cl is ls (mkABC op x y z) l w' h1 (by omega) hn).mono ?_
  rintro e w2 ⟨gc', cc', gl', cl', rfl, a1, a2, a3, a4⟩
  have HR : Added β c gc gl is ls (mkABC op x y z) l w (.returned (.tuple #[])) w2 := ⟨gc', cc', gl', cl', rfl, a1, (T.mono (fun _ _ h => h.elim)).trans a2, a3.imp id (fun h => by omega), a4.imp id (fun h => by omega)⟩
  clear T h1 a1 a2 a3 a4 h hw
  go_wp2
  go_end0
  exact HR

set_option maxRecDepth 100000 in
theorem addASbx_any (β c gc cc gl cl : Nat) (is ls : List Int) (op x y l : Int) (w : World) (h : Code w β c gc cc gl cl is ls) (hβ : β ≤ w.heap.size) (hn : is.length ≤ 1048576) :
    Calls Tryf.prog 39 #[.pointer (some ⟨c, 0, none⟩), .int .i64 op, .int .i64 x, .int .i64 y, .int .i64 l] w (Added β c gc gl is ls (mkABx op x (y + 131071)) l w) := by
  have T := (Turn.refl w (fun _ => False)).alloc (.cells #[.int .u32 (mkABx op x (y + 131071))] 47)
  have h1 := h.kept T id id id
  go_enter Tryf.func39, Tryf.ntmps39
  go_wp2_with fail
  refine (opCreateASbx_any op x y _).mono ?_
  rintro e w' ⟨rfl, hw⟩
  rw [hw] at T h1
  have hs := T.size
  go_wp2_with fail
  refine (add_any β c gc cc gl cl is ls (mkABx op x (y + 131071)) l w' h1 (by omega) hn).mono ?_
  rintro e w2 ⟨gc', cc', gl', cl', rfl, a1, a2, a3, a4⟩
  have HR : Added β c gc gl is ls (mkABx op x (y + 131071)) l w (.returned (.tuple #[])) w2 := ⟨gc', cc', gl', cl', rfl, a1, (T.mono (fun _ _ h => h.elim)).trans a2, a3.imp id (fun h => by omega), a4.imp id (fun h => by omega)⟩
  clear T h1 a1 a2 a3 a4 h hw
  go_wp2
  go_end0
  exact HR
end Go.Proofs.YtabienikffakiaaFmt
