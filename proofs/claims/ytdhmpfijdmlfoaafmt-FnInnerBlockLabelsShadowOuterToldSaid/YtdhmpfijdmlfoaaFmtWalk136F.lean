/- What the label laws ask behind zzAddDistinct. -/
import Derived.Test.YtdhmpfijdmlfoaaFmtFl136
import Derived.Test.YtdhmpfijdmlfoaaFmtPtr
namespace Go.Proofs.YtdhmpfijdmlfoaaFmt
open Go.RowKit Go.Maps
set_option linter.unusedVariables false

@[go_sem] theorem neqLabel (a : Addr) (w : World) : (binOp .neq 27 (.pointer (some a)) (.pointer (some a))).run Tryf.prog w = .ok (.bool false) w := by
  have h : (Tryf.prog.info? 29).isSome = true := by kernel_rfl
  obtain ⟨j, hj⟩ := Option.isSome_iff_exists.1 h
  exact run_neq_ptr_same w a Tryf.underlying27 hj
@[go_sem] theorem neqLabelNil (w : World) : (binOp .neq 27 (.pointer none) (.pointer none)).run Tryf.prog w = .ok (.bool false) w := by kernel_rfl

theorem look_ptr {D : DataW Unit} {K : List Lab} (h : Look D K) (j : Nat) (hj : j < K.length) : ptrOf (D.atKey (kS (K.getD j Lab.zero).name) .nil) = .pointer (some ⟨(K.getD j Lab.zero).b, 0, none⟩) := by
  rw [(h.some j hj).2]; simp [ptrOf]

/-- GetNamedLabel reads only -/
theorem getNamed_quiet (β fc : Nat) (F : FcAt) (gb : Value × Option Addr) (gc cc gl cl : Nat) (is ls : List Int) (cnt : Int) (up : Bool) (DL D1 D2 : DataW Unit) (nL n1 n2 : Nat) (s : ByteArray) (w : World) (h : Ctx w β fc F gb gc cc gl cl is ls cnt up DL D1 D2 nL n1 n2) (hs : s.size ≤ maxLen) (n : Nat) :
    Calls Tryf.prog 24 #[.pointer (some ⟨fc, 0, none⟩), .string s] (w.drewN n) fun e w'' => e = .returned (ptrOf (DL.atKey (kS s) .nil)) ∧ ∃ m, w'' = w.drewN m :=
  (getNamed_any β fc F gb gc cc gl cl is ls cnt up DL D1 D2 nL n1 n2 s (w.drewN n) (h.same (drewN_turn w n _)) hs).mono fun _ _ ⟨he, q, hq⟩ => ⟨he, n + q, by rw [← hq, World.drewN_drewN]⟩

/-- the loop that asks each kept label by its name: the two pointers at place j -/
theorem row_cell {β g cap : Nat} {K : List Lab} {w : World} (hr : w.ownsRow β 27 1 (.slice (some ⟨g, 0, none⟩) K.length cap) K.length (K.map Lab.ptr)) (j : Nat) (hj : j < K.length) : w.cell? ⟨g, j, none⟩ = some (.pointer (some ⟨(K.getD j Lab.zero).b, 0, none⟩)) := by
  rw [hr.cellAt j (by omega)]
  simp [List.getD, hj, Lab.ptr]
theorem find_quiet {β g cap : Nat} {K : List Lab} {DL : DataW Unit} (s : ByteArray) {w : World} (hr : w.ownsRow β 27 1 (.slice (some ⟨g, 0, none⟩) K.length cap) K.length (K.map Lab.ptr)) (hl : LabsAt w K) (m : K.length ≤ 1048576) (hk : Look DL K) (hd : Distinct K) (n : Nat) :
    Calls Tryf.prog 26 #[.slice (some ⟨g, 0, none⟩) K.length cap, .string s] (w.drewN n) fun e w'' => e = .returned (ptrOf (DL.atKey (kS s) .nil)) ∧ ∃ m, w'' = w.drewN m :=
  (findByName_any β g cap K s (w.drewN n) (show (w.drewN n).ownsRow β 27 1 (.slice (some ⟨g, 0, none⟩) K.length cap) K.length (K.map Lab.ptr) from hr) hl m).mono fun _ _ ⟨v, he, hf, hw⟩ => ⟨by rw [he, hf.unique (hk.found hd s)], n, hw.symm⟩
theorem ptr_or {DL : DataW Unit} {K : List Lab} (hk : Look DL K) (hd : Distinct K) (s : ByteArray) : ptrOf (DL.atKey (kS s) .nil) = .pointer none ∨ ∃ b, ptrOf (DL.atKey (kS s) .nil) = .pointer (some ⟨b, 0, none⟩) := by
  rcases hk.found hd s with ⟨_, h⟩ | ⟨j, _, _, _, h⟩
  · exact .inl h
  · exact .inr ⟨_, h⟩
end Go.Proofs.YtdhmpfijdmlfoaaFmt
