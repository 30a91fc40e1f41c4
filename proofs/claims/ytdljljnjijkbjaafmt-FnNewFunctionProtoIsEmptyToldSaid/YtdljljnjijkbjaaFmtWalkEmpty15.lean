/- The walk of FnNewFunctionProtoIsEmpty: it returns true. -/
import Derived.Test.YtdljljnjijkbjaaFmtCalls15
namespace Go.Proofs.YtdljljnjijkbjaaFmt
open Go.RowKit Go.Kit Go.Extern.Stop Go.Stop Go.Extern
set_option linter.unusedVariables false

theorem empty_text : (listing [] 0 1 0 0 2 [] []).flatten = [59, 32, 102, 117, 110, 99, 116, 105, 111, 110, 32, 91, 48, 93, 32, 100, 101, 102, 105, 110, 105, 116, 105, 111, 110, 32, 40, 108, 101, 118, 101, 108, 32, 49, 41, 10, 59, 32, 48, 32, 117, 112, 118, 97].append [108, 117, 101, 115, 44, 32, 48, 32, 112, 97, 114, 97, 109, 115, 44, 32, 50, 32, 115, 116, 97, 99, 107, 115, 10, 10, 59, 32, 101, 110, 100, 32, 111, 102, 32, 102, 117, 110, 99, 116, 105, 111, 110, 10] := by decide +kernel

set_option maxRecDepth 100000 in
set_option maxHeartbeats 2000000 in
theorem walk_FnNewFunctionProtoIsEmpty (F : Interp) (s : ByteArray) (hs : s.size ≤ maxLen) (w : World) (hF : F.told.answers w.tape) :
    Calls Tryf.prog 3 #[.string s] w fun e w' => e = .returned (.bool true) ∧ Below w.heap.size w w' := by
  go_enter Tryf.func3, Tryf.ntmps3
  go_wp2_with fail
  refine (zzB_FnNewFunctionProtoIsEmpty s _ hs).mono ?_
  rintro e w' ⟨bb, rfl, hbb, rfl⟩
  cases bb with
  | false =>
    go_wp2
    go_ret
    exact ⟨rfl, Below.refl _ _⟩
  | true =>
    have hb1 := hbb rfl
    clear hbb
    have q3 : ¬ (1048576 : Int) < (s.size : Int) := by omega
    go_wp2_with fail
    refine (ZZnew_any s _).mono ?_
    rintro e w1 ⟨p, g, rfl, hP, hT⟩
    have c0 := cell_of_blk hP.blk 0 (.string s) rfl
    have c1 := cell_of_blk hP.blk 1 (.int .i64 0) rfl
    have c2 := cell_of_blk hP.blk 2 (.int .i64 0) rfl
    have c3 := cell_of_blk hP.blk 3 (.int .u8 0) rfl
    have c4 := cell_of_blk hP.blk 4 (.int .u8 0) rfl
    have c5 := cell_of_blk hP.blk 5 (.int .u8 0) rfl
    have c6 := cell_of_blk hP.blk 6 (.int .u8 2) rfl
    have c7 := cell_of_blk hP.blk 7 (.slice (some ⟨g 7, 0, none⟩) 0 128) rfl
    have c8 := cell_of_blk hP.blk 8 (.slice (some ⟨g 8, 0, none⟩) 0 32) rfl
    have c9 := cell_of_blk hP.blk 9 (.slice (some ⟨g 9, 0, none⟩) 0 16) rfl
    have c10 := cell_of_blk hP.blk 10 (.slice (some ⟨g 10, 0, none⟩) 0 128) rfl
    have c11 := cell_of_blk hP.blk 11 (.slice (some ⟨g 11, 0, none⟩) 0 16) rfl
    have c12 := cell_of_blk hP.blk 12 (.slice (some ⟨g 12, 0, none⟩) 0 128) rfl
    have c13 := cell_of_blk hP.blk 13 (.slice (some ⟨g 13, 0, none⟩) 0 16) rfl
    have c14 := cell_of_blk hP.blk 14 (.slice (some ⟨g 14, 0, none⟩) 0 32) rfl
    have hPr : Pr w1 p 0 0 2 (some ⟨g 11, 0, none⟩) 16 [] [] (some ⟨g 13, 0, none⟩) 16 [] (some ⟨g 8, 0, none⟩) 32 (some ⟨g 7, 0, none⟩) 128 :=
      ⟨c3, c4, c6, c11, c13, c8, c7, fun k hk => absurd hk (by simp), fun k hk => absurd hk (by simp), by omega, by omega, by omega, ⟨by simp, by simp⟩, ⟨by simp, by simp⟩⟩
    have hF1 : F.told.answers w1.tape := by rw [hT.tape]; exact hF
    clear hP
    go_wp2_with fail
    refine (ZZget_any p _ _ c14).mono ?_
    rintro e w' ⟨rfl, rfl⟩
    go_wp2_with fail
    have hS := string_any F p 0 0 2 _ _ _ _ _ _ _ _ _ _ _ w1 hF1 hPr
    rw [empty_text] at hS
    refine hS.mono ?_
    rintro e w2 ⟨rfl, hT2⟩
    go_wp2
    go_ret
    exact ⟨rfl, (hT.trans hT2).below (Nat.le_refl _) (fun _ h => h.elim)⟩
end Go.Proofs.YtdljljnjijkbjaaFmt
