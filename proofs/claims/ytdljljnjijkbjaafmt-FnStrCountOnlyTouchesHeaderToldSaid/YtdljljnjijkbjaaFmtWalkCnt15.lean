/- The walk of FnStrCountOnlyTouchesHeader: it returns true. -/
import Derived.Test.YtdljljnjijkbjaaFmtPrK15
namespace Go.Proofs.YtdljljnjijkbjaaFmt
open Go.RowKit Go.Kit Go.Extern.Stop Go.Stop Go.Extern
set_option linter.unusedVariables false

set_option maxRecDepth 100000 in
set_option maxHeartbeats 2000000 in
theorem walk_FnStrCountOnlyTouchesHeader (F : Interp) (l c1 c2 : Int) (s : ByteArray) (nu np nr : Int) (a7 : Option Addr) (n7 k7 : Nat) (z7 : List ByteArray) (a8 : Option Addr) (n8 k8 : Nat) (z8 : List ByteArray) (w : World)
    (wl : (Lit.int .i64 l).wf = true) (w1 : (Lit.int .i64 c1).wf = true) (w2 : (Lit.int .i64 c2).wf = true) (hs : s.size ≤ maxLen) (w4 : (Lit.int .u8 nu).wf = true) (w5 : (Lit.int .u8 np).wf = true) (w6 : (Lit.int .u8 nr).wf = true) (h7 : IsStrs w a7 n7 k7 z7) (h8 : IsStrs w a8 n8 k8 z8) (hF : F.told.answers w.tape) :
    Calls Tryf.prog 4 #[.int .i64 l, .int .i64 c1, .int .i64 c2, .string s, .int .u8 nu, .int .u8 np, .int .u8 nr, .slice a7 n7 k7, .slice a8 n8 k8] w fun e w' => e = .returned (.bool true) ∧ Below w.heap.size w w' := by
  have wl := bounds_i64 wl
  have w1_ := bounds_i64 w1
  have w2_ := bounds_i64 w2
  have w4 := bounds_u8 w4
  have w5 := bounds_u8 w5
  have w6 := bounds_u8 w6
  obtain ⟨L7, rfl, S7, y7, m7, o7⟩ := h7.open
  obtain ⟨L8, rfl, S8, y8, m8, o8⟩ := h8.open
  clear h7 h8
  go_enter Tryf.func4, Tryf.ntmps4
  go_wp2_with fail
  refine (zzB_FnStrCountOnlyTouchesHeader l c1 c2 s nu np nr a7 k7 L7 a8 k8 L8 _ hs S7 m7 y7 S8 m8 y8).mono ?_
  rintro e w' ⟨bb, rfl, hbb, rfl⟩
  cases bb with
  | false =>
    go_wp2
    go_ret
    exact ⟨rfl, Below.refl _ _⟩
  | true =>
    have hb1 := hbb rfl
    clear hbb
    unfold maxLen at m7 m8 hs
    by_cases q7 : (4096 : Int) < (L7.length : Int)
    · go_wp2
      go_ret
      exact ⟨rfl, Below.refl _ _⟩
    by_cases q8 : (4096 : Int) < (L8.length : Int)
    · go_wp2
      go_ret
      exact ⟨rfl, Below.refl _ _⟩
    have q3 : ¬ (1048576 : Int) < (s.size : Int) := by omega
    go_wp2_with fail
    refine (zzBytes_any s a7 k7 L7 a8 k8 L8 w S7 S8 (by omega) (by omega) (by omega) (by omega) (by omega)).mono ?_
    rintro e w' ⟨N, rfl, N1, N2, rfl⟩
    by_cases q9 : (1048576 : Int) < N
    · go_wp2
      go_ret
      exact ⟨rfl, Below.refl _ _⟩
    by_cases ql : l < 1
    · go_wp2
      go_ret
      exact ⟨rfl, Below.refl _ _⟩
    by_cases qh : (4096 : Int) < l
    · go_wp2
      go_ret
      exact ⟨rfl, Below.refl _ _⟩
    obtain ⟨m, rfl⟩ : ∃ m : Nat, l = m := ⟨l.toNat, by omega⟩
    have hm0 : 1 ≤ m := by omega
    have hm1 : m ≤ 4096 := by omega
    obtain ⟨P, hP⟩ : ∃ P : Nat, P = m * (4 + L7.length + L8.length) := ⟨_, rfl⟩
    have hPb : P ≤ 33570816 := by rw [hP]; exact Nat.mul_le_mul hm1 (by omega : 4 + L7.length + L8.length ≤ 8196)
    have hPe : (m : Int) * (4 + (L7.length : Int) + (L8.length : Int)) = (P : Int) := by rw [hP]; simp
    have HPP := Lib.hid hP
    clear hP
    by_cases qp : (4194304 : Int) < (P : Int)
    · go_wp2
      go_ret
      exact ⟨rfl, Below.refl _ _⟩
    go_wp2_with fail
    refine (zzClone_any a7 k7 L7 w S7 (by omega) (fun h => (o7 h).1)).mono ?_
    rintro e w1 ⟨a7', k7', rfl, S7', T1⟩
    go_wp2_with fail
    refine (zzClone_any a8 k8 L8 w1 (T1.strs S8 (fun _ _ => id)) (by omega) (fun h => (o8 h).1)).mono ?_
    rintro e w2 ⟨a8', k8', rfl, S8', T2⟩
    have b7 : ∀ s ∈ L7, s.size ≤ 1048576 := fun s hs => by have := sumSizes_mem hs; omega
    have b8 : ∀ s ∈ L8, s.size ≤ 1048576 := fun s hs => by have := sumSizes_mem hs; omega
    go_wp2_with fail
    refine (zzBuild_any s nu np nr a7' k7' L7 a8' k8' L8 w2 (T2.strs S7' (fun _ _ => id)) S8' w4 w5 w6 ⟨by omega, b7⟩ ⟨by omega, b8⟩).mono ?_
    rintro e w3 ⟨p, la, lc, lb, ua, uc, ca, cc, da, dc, rfl, hPr, T3⟩
    have T03 := (T1.trans T2).trans T3
    have hF3 : F.told.answers w3.tape := by rw [T03.tape]; exact hF
    go_wp2_with fail
    refine (ZZstr_any F p nu np nr la lc lb L7 ua uc L8 ca cc da dc m c1 w3 hF3 hPr hm0 hm1 w1_).mono ?_
    rintro e w4' ⟨rfl, T4⟩
    have hF4 : F.told.answers w4'.tape := by rw [T4.tape]; exact hF3
    obtain ⟨S1, hS1, cut1, pre1, sz1⟩ := listing_cut m c1 nu np nr L7 L8 ⟨hm0, hm1⟩ w1_ w4 w5 w6 ⟨by omega, b7⟩ ⟨by omega, b8⟩
    rw [← hS1]
    have HS1 := Lib.hid hS1
    clear hS1
    go_wp2_with fail
    refine (ZZstr_any F p nu np nr la lc lb L7 ua uc L8 ca cc da dc m c2 w4' hF4 (hPr.later T4) hm0 hm1 w2_).mono ?_
    rintro e w5' ⟨rfl, T5⟩
    obtain ⟨S2, hS2, cut2, pre2, sz2⟩ := listing_cut m c2 nu np nr L7 L8 ⟨hm0, hm1⟩ w2_ w4 w5 w6 ⟨by omega, b7⟩ ⟨by omega, b8⟩
    rw [← hS2]
    have HS2 := Lib.hid hS2
    clear hS2
    have T05 := (T03.trans T4).trans T5
    have HPr := Lib.hid hPr
    clear T1 T2 T3 T03 T4 T5 hF3 hF4 S7 S8 S7' S8' b7 b8 y7 y8 hPe hb1 hPr
    obtain ⟨A1, hA1⟩ : ∃ A1, A1 = hdB (Lib.repeatL [32, 32] (m - 1)) c1 m := ⟨_, rfl⟩
    obtain ⟨A2, hA2⟩ : ∃ A2, A2 = hdB (Lib.repeatL [32, 32] (m - 1)) c2 m := ⟨_, rfl⟩
    obtain ⟨R, hR⟩ : ∃ R, R = restOf (Lib.repeatL [32, 32] (m - 1)) nu np nr L7 L8 := ⟨_, rfl⟩
    rw [← hA1, ← hR] at cut1
    rw [← hA2, ← hR] at cut2
    clear hA1 hA2 hR
    have zz1 := cut1.size
    have zz2 := cut2.size
    have lt1 : A1.length < S1.size := by omega
    have lt2 : A2.length < S2.size := by omega
    have C1 := Lib.hid cut1
    have C2 := Lib.hid cut2
    have P1 := Lib.hid pre1
    have P2 := Lib.hid pre2
    clear cut1 cut2 pre1 pre2 zz1 zz2
    go_wp2
    go_loop [22] (fun i => ∃ k : Nat, k ≤ A1.length ∧ i = .int .i64 k) (fun i => A1.length - (intOf i).toNat)
    case atStart => exact ⟨0, Nat.zero_le _, rfl⟩
    case round =>
      obtain ⟨k, hk, rfl⟩ := hrel
      have hks : k < S1.size := by omega
      by_cases hkl : k < A1.length
      · have hne := C1.out.below k hkl hks
        go_wp2
        go_round
        case rel => exact ⟨k + 1, by omega, by go_num⟩
        case measure => simp [intOf]; omega
      · obtain rfl : k = A1.length := by omega
        have h10 := C1.out.at hks
        go_wp2
        go_loop [23] (fun i => ∃ k : Nat, k ≤ A2.length ∧ i = .int .i64 k) (fun i => A2.length - (intOf i).toNat)
        case atStart => exact ⟨0, Nat.zero_le _, rfl⟩
        case round =>
          obtain ⟨k, hk, rfl⟩ := hrel
          have hks : k < S2.size := by omega
          by_cases hkl : k < A2.length
          · have hne := C2.out.below k hkl hks
            go_wp2
            go_round
            case rel => exact ⟨k + 1, by omega, by go_num⟩
            case measure => simp [intOf]; omega
          · obtain rfl : k = A2.length := by omega
            have h20 := C2.out.at hks
            have x1 := C1.out.rest
            have x2 := C2.out.rest
            generalize (⟨(10 :: R).toArray⟩ : ByteArray) = X at x1 x2
            have ne1 : ((A1.length : Int) == (S1.size : Int)) = false := by simp; omega
            have ne2 : ((A2.length : Int) == (S2.size : Int)) = false := by simp; omega
            go_wp2_with fail
            refine (zzIndent_any m w5' hm0 hm1).mono ?_
            rintro e w6' ⟨rfl, T6⟩
            have hIL : (Lib.repeatL [32, 32] (m - 1)).length ≤ 8192 := by rw [Lib.repeatL_length]; show (m - 1) * 2 ≤ 8192; omega
            go_wp2_with fail
            have hpd : ((⟨(Lib.repeatL [32, 32] (m - 1)).toArray⟩ : ByteArray) ++ ⟨#[59, 32, 102, 117, 110, 99, 116, 105, 111, 110, 32, 91]⟩).data.toList = Lib.repeatL [32, 32] (m - 1) ++ [59, 32, 102, 117, 110, 99, 116, 105, 111, 110, 32, 91] := by
              rw [ByteArray.data_append]; simp
            generalize ((⟨(Lib.repeatL [32, 32] (m - 1)).toArray⟩ : ByteArray) ++ ⟨#[59, 32, 102, 117, 110, 99, 116, 105, 111, 110, 32, 91]⟩) = Pf at hpd ⊢
            have hp1 : ∃ r, S1.data.toList = Pf.data.toList ++ r := by rw [hpd]; exact P1.out
            have hp2 : ∃ r, S2.data.toList = Pf.data.toList ++ r := by rw [hpd]; exact P2.out
            have HP1 := Lib.hid hp1
            have HP2 := Lib.hid hp2
            clear hpd hp1 hp2
            refine (zzPrefix_any S1 Pf w6' sz1 HP1.out).mono ?_
            rintro e w7' ⟨rfl, qa, rfl⟩
            go_wp2_with fail
            refine (zzPrefix_any S2 Pf _ sz2 HP2.out).mono ?_
            rintro e w8' ⟨rfl, qb, rfl⟩
            have le1 : (A1.length : Int) ≤ (S1.size : Int) := by omega
            have le2 : (A2.length : Int) ≤ (S2.size : Int) := by omega
            have hbel := Lib.hid ((T05.trans T6).below (Nat.le_refl _) (fun _ h => h.elim))
            clear T05 T6
            go_wp2_with fail
            go_quiet (fail)
            go_wp2
            go_ret
            have hb := hbel.out
            exact ⟨rfl, ⟨hb.os, hb.tape, hb.output, hb.size, hb.block⟩⟩
end Go.Proofs.YtdljljnjijkbjaaFmt
