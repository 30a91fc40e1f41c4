/- The walk of FnStringIsDedentedStr: it returns true. -/
import Derived.Test.YtdljljnjijkbjaaFmtDedLaw15
namespace Go.Proofs.YtdljljnjijkbjaaFmt
open Go.RowKit Go.Kit Go.Extern.Stop Go.Stop Go.Extern
set_option linter.unusedVariables false

theorem listing_lines (d : List UInt8) (c l nu np nr : Int) (ls us : List ByteArray) (hd : d.length ≤ 8192) (hl : 0 ≤ l ∧ l ≤ 4096) (hc : -9223372036854775808 ≤ c ∧ c ≤ 9223372036854775807) (bnu : 0 ≤ nu ∧ nu ≤ 255) (bnp : 0 ≤ np ∧ np ≤ 255) (bnr : 0 ≤ nr ∧ nr ≤ 255) (bls : ls.length ≤ 4096 ∧ ∀ s ∈ ls, s.size ≤ 1048576) (bus : us.length ≤ 4096 ∧ ∀ s ∈ us, s.size ≤ 1048576) :
    ∃ S : ByteArray, S = ⟨(listing d c l nu np nr ls us).flatten.toArray⟩ ∧ S.data.toList = (withNL (bodies d c l nu np nr ls us)).flatten ∧ S.size ≤ 140737488355328 := by
  refine ⟨_, rfl, by rw [← listing_bodies], ?_⟩
  have h1 := flat_length 1200000 _ (listing_each d c l nu np nr ls us hd hc hl bnu bnp bnr bls bus)
  rw [listing_length] at h1
  have h2 := bls.1
  have h3 := bus.1
  show (listing d c l nu np nr ls us).flatten.toArray.size ≤ _
  rw [List.size_toArray]
  have h4 : (ls.length + us.length + 4) * 1200000 ≤ 8196 * 1200000 := Nat.mul_le_mul_right _ (by omega)
  omega

theorem line_len {S : ByteArray} {Bs : List (List UInt8)} (h : S.data.toList = (withNL Bs).flatten) (hs : S.size ≤ 140737488355328) (k : Nat) : (Bs.getD k []).length ≤ 140737488355328 := by
  by_cases hk : k < Bs.length
  · have hm : Mid S (off Bs k) (Bs.getD k []) := ⟨by rw [h]; exact flat_split Bs k hk⟩
    have := hm.size
    omega
  · have e : Bs.getD k [] = [] := by simp only [List.getD]; rw [List.getElem?_eq_none (by omega)]; rfl
    rw [e]
    simp

theorem Buf.at {w : World} {β g cap : Nat} {L : List (List UInt8)} (h : Buf w β (.slice (some ⟨g, 0, none⟩) L.length cap) L) (k : Nat) (hk : k < L.length) : w.cell? ⟨g, k, none⟩ = some (.string ⟨(L.getD k []).toArray⟩) := by
  rw [World.ownsRow.cellAt h k (by omega)]
  simp [bs, List.getD, hk]

set_option maxRecDepth 100000 in
set_option maxHeartbeats 2000000 in
theorem walk_FnStringIsDedentedStr (F : Interp) (l c1 : Int) (s : ByteArray) (nu np nr : Int) (a7 : Option Addr) (n7 k7 : Nat) (z7 : List ByteArray) (a8 : Option Addr) (n8 k8 : Nat) (z8 : List ByteArray) (w : World)
    (wl : (Lit.int .i64 l).wf = true) (w1 : (Lit.int .i64 c1).wf = true) (hs : s.size ≤ maxLen) (w4 : (Lit.int .u8 nu).wf = true) (w5 : (Lit.int .u8 np).wf = true) (w6 : (Lit.int .u8 nr).wf = true) (h7 : IsStrs w a7 n7 k7 z7) (h8 : IsStrs w a8 n8 k8 z8) (hF : F.told.answers w.tape) :
    Calls Tryf.prog 5 #[.int .i64 l, .int .i64 c1, .string s, .int .u8 nu, .int .u8 np, .int .u8 nr, .slice a7 n7 k7, .slice a8 n8 k8] w fun e w' => e = .returned (.bool true) ∧ Below w.heap.size w w' := by
  have wl := bounds_i64 wl
  have w1_ := bounds_i64 w1
  have w4 := bounds_u8 w4
  have w5 := bounds_u8 w5
  have w6 := bounds_u8 w6
  obtain ⟨L7, rfl, S7, y7, m7, o7⟩ := h7.open
  obtain ⟨L8, rfl, S8, y8, m8, o8⟩ := h8.open
  clear h7 h8
  go_enter Tryf.func5, Tryf.ntmps5
  go_wp2_with fail
  refine (zzB_FnStringIsDedentedStr l c1 s nu np nr a7 k7 L7 a8 k8 L8 _ hs S7 m7 y7 S8 m8 y8).mono ?_
  rintro e w' ⟨bb, rfl, hbb, rfl⟩
  cases bb with
  | false =>
    go_wp2
    go_ret
    exact ⟨rfl, Below.refl _ _⟩
  | true =>
    have hb1 := hbb rfl
    clear hbb
    unfold maxLen at m7 m8 hs
    by_cases q7 : (4096 : Int) < (L7.length : Int)
    · go_wp2
      go_ret
      exact ⟨rfl, Below.refl _ _⟩
    by_cases q8 : (4096 : Int) < (L8.length : Int)
    · go_wp2
      go_ret
      exact ⟨rfl, Below.refl _ _⟩
    have q3 : ¬ (1048576 : Int) < (s.size : Int) := by omega
    go_wp2_with fail
    refine (zzBytes_any s a7 k7 L7 a8 k8 L8 w S7 S8 (by omega) (by omega) (by omega) (by omega) (by omega)).mono ?_
    rintro e w' ⟨N, rfl, N1, N2, rfl⟩
    by_cases q9 : (1048576 : Int) < N
    · go_wp2
      go_ret
      exact ⟨rfl, Below.refl _ _⟩
    by_cases ql : l < 1
    · go_wp2
      go_ret
      exact ⟨rfl, Below.refl _ _⟩
    by_cases qh : (4096 : Int) < l
    · go_wp2
      go_ret
      exact ⟨rfl, Below.refl _ _⟩
    obtain ⟨m, rfl⟩ : ∃ m : Nat, l = m := ⟨l.toNat, by omega⟩
    have hm0 : 1 ≤ m := by omega
    have hm1 : m ≤ 4096 := by omega
    obtain ⟨P, hP⟩ : ∃ P : Nat, P = m * (4 + L7.length + L8.length) := ⟨_, rfl⟩
    have hPb : P ≤ 33570816 := by rw [hP]; exact Nat.mul_le_mul hm1 (by omega : 4 + L7.length + L8.length ≤ 8196)
    have hPe : (m : Int) * (4 + (L7.length : Int) + (L8.length : Int)) = (P : Int) := by rw [hP]; simp
    have HPP := Lib.hid hP
    clear hP
    by_cases qp : (4194304 : Int) < (P : Int)
    · go_wp2
      go_ret
      exact ⟨rfl, Below.refl _ _⟩
    have b7 : ∀ s ∈ L7, s.size ≤ 1048576 := fun s hs => by have := sumSizes_mem hs; omega
    have b8 : ∀ s ∈ L8, s.size ≤ 1048576 := fun s hs => by have := sumSizes_mem hs; omega
    go_wp2_with fail
    refine (zzAnyNL_any a7 k7 L7 w S7 (by omega) (fun s hs => by have := b7 s hs; omega)).mono ?_
    rintro e w' ⟨bb, rfl, hn7, rfl⟩
    cases bb with
    | true =>
      go_wp2
      go_ret
      exact ⟨rfl, Below.refl _ _⟩
    | false =>
    have hN7 := Lib.hid (hn7 rfl)
    clear hn7
    go_wp2_with fail
    refine (zzAnyNL_any a8 k8 L8 w S8 (by omega) (fun s hs => by have := b8 s hs; omega)).mono ?_
    rintro e w' ⟨bb, rfl, hn8, rfl⟩
    cases bb with
    | true =>
      go_wp2
      go_ret
      exact ⟨rfl, Below.refl _ _⟩
    | false =>
    have hN8 := Lib.hid (hn8 rfl)
    clear hn8
    go_wp2_with fail
    refine (zzClone_any a7 k7 L7 w S7 (by omega) (fun h => (o7 h).1)).mono ?_
    rintro e w1 ⟨a7', k7', rfl, S7', T1⟩
    go_wp2_with fail
    refine (zzClone_any a8 k8 L8 w1 (T1.strs S8 (fun _ _ => id)) (by omega) (fun h => (o8 h).1)).mono ?_
    rintro e w2 ⟨a8', k8', rfl, S8', T2⟩
    go_wp2_with fail
    refine (zzBuild_any s nu np nr a7' k7' L7 a8' k8' L8 w2 (T2.strs S7' (fun _ _ => id)) S8' w4 w5 w6 ⟨by omega, b7⟩ ⟨by omega, b8⟩).mono ?_
    rintro e w3 ⟨p, la, lc, lb, ua, uc, ca, cc, da, dc, rfl, hPr, T3⟩
    have T03 := (T1.trans T2).trans T3
    have hF3 : F.told.answers w3.tape := by rw [T03.tape]; exact hF
    have hIL : (Lib.repeatL [32, 32] (m - 1)).length ≤ 8192 := by rw [Lib.repeatL_length]; show (m - 1) * 2 ≤ 8192; omega
    go_wp2_with fail
    refine (string_any F p nu np nr la lc lb L7 ua uc L8 ca cc da dc w3 hF3 hPr).mono ?_
    rintro e w4' ⟨rfl, T4⟩
    obtain ⟨SA, hSA, linA, szA⟩ := listing_lines [] 0 1 nu np nr L7 L8 (by simp) (by omega) (by omega) w4 w5 w6 ⟨by omega, b7⟩ ⟨by omega, b8⟩
    rw [← hSA]
    clear hSA
    obtain ⟨n, hn⟩ : ∃ n, n = L7.length + L8.length + 4 := ⟨_, rfl⟩
    have lenA := bodies_length [] 0 1 nu np nr L7 L8
    have lenB := bodies_length (Lib.repeatL [32, 32] (m - 1)) c1 m nu np nr L7 L8
    have noA := no10_of [] (by simp) 0 1 nu np nr L7 L8 hN7.out hN8.out
    have noB := no10_of (Lib.repeatL [32, 32] (m - 1)) (blanks_no10 _) c1 m nu np nr L7 L8 hN7.out hN8.out
    have hded := bodies_ded (Lib.repeatL [32, 32] (m - 1)) 0 c1 1 m nu np nr L7 L8
    have hdA := bodies_head [] 0 1 nu np nr L7 L8
    have hdB := bodies_head (Lib.repeatL [32, 32] (m - 1)) c1 m nu np nr L7 L8
    rw [← hn] at lenA lenB
    have hn4 : 4 ≤ n ∧ n ≤ 8200 := by omega
    have HN := Lib.hid hn
    clear hn
    generalize bodies [] 0 1 nu np nr L7 L8 = BA at lenA noA hded hdA linA
    go_wp2_with fail
    refine (zzLines_any SA BA w4' linA (by omega) (by omega) noA szA).mono ?_
    rintro e w5' ⟨ga, cpa, rfl, bufA, T5⟩
    rw [lenA]
    have hF5 : F.told.answers w5'.tape := by rw [T5.tape, T4.tape]; exact hF3
    have LA := Lib.hid lenA
    have BFA := Lib.hid bufA
    have HPr := Lib.hid (hPr.later (T4.trans T5))
    have TT := Lib.hid ((T03.trans T4).trans T5)
    have NA := Lib.hid noA
    have LLA := Lib.hid (line_len linA szA)
    have DD := Lib.hid hded
    have DA := Lib.hid hdA
    have DB := Lib.hid hdB
    clear lenA bufA hPr T1 T2 T3 T03 T4 T5 noA hded hdA hdB linA
    go_wp2_with fail
    refine (ZZstr_any F p nu np nr la lc lb L7 ua uc L8 ca cc da dc m c1 w5' hF5 HPr.out hm0 hm1 w1_).mono ?_
    rintro e w6' ⟨rfl, T6⟩
    obtain ⟨SB, hSB, linB, szB⟩ := listing_lines (Lib.repeatL [32, 32] (m - 1)) c1 m nu np nr L7 L8 hIL (by omega) w1_ w4 w5 w6 ⟨by omega, b7⟩ ⟨by omega, b8⟩
    rw [← hSB]
    clear hSB
    have D2 := Lib.hid (And.intro DD.out DB.out)
    clear DD DB
    have D3 := Lib.hid (And.intro (And.intro D2.out.1 D2.out.2) (And.intro lenB (And.intro noB linB)))
    clear D2 lenB noB linB
    have hD3 := D3.out
    clear D3
    generalize bodies (Lib.repeatL [32, 32] (m - 1)) c1 m nu np nr L7 L8 = BB at hD3
    obtain ⟨⟨hded, hdB⟩, lenB, noB, linB⟩ := hD3
    have DD := Lib.hid hded
    have DB := Lib.hid hdB
    clear hded hdB
    have lenB' := Lib.hid lenB
    go_wp2_with fail
    refine (zzLines_any SB BB w6' linB (by omega) (by omega) noB szB).mono ?_
    rintro e w7' ⟨gb, cpb, rfl, bufB, T7⟩
    rw [lenB]
    have LB := Lib.hid lenB
    have LLB := Lib.hid (line_len linB szB)
    have BFB := Lib.hid bufB
    have BFA' := Lib.hid (BFA.out.later (T6.trans T7) (fun _ _ => id))
    have TT7 := Lib.hid (TT.out.trans (T6.trans T7))
    have c0A := BFA'.out.at 0 (by have := LA.out; omega)
    have c0B := BFB.out.at 0 (by have := LB.out; omega)
    clear lenB bufB T6 T7 noB linB BFA TT HPr hF5 hF3
    obtain ⟨A0, hA0⟩ : ∃ A0 : ByteArray, A0 = ⟨(BA.getD 0 []).toArray⟩ := ⟨_, rfl⟩
    obtain ⟨B0, hB0⟩ : ∃ B0 : ByteArray, B0 = ⟨(BB.getD 0 []).toArray⟩ := ⟨_, rfl⟩
    rw [← hA0] at c0A
    rw [← hB0] at c0B
    have HA0 := Lib.hid hA0
    have HB0 := Lib.hid hB0
    clear hA0 hB0
    have hnn : ((n : Int) == 0) = false := by rw [beq_eq_false_iff_ne]; omega
    have hn0 : (0 : Int) < (n : Int) := by omega
    go_wp2_with fail
    refine (zzIndent_any m w7' hm0 hm1).mono ?_
    rintro e w8' ⟨rfl, T8⟩
    obtain ⟨I, hI⟩ : ∃ I : ByteArray, I = ⟨(Lib.repeatL [32, 32] (m - 1)).toArray⟩ := ⟨_, rfl⟩
    have hIs : I.size ≤ 8192 := by rw [hI]; show (Lib.repeatL [32, 32] (m - 1)).toArray.size ≤ 8192; rw [List.size_toArray]; exact hIL
    rw [← hI]
    have HI := Lib.hid hI
    clear hI
    have c0A' := T8.cell c0A id
    have c0B' := T8.cell c0B id
    have BA8 := Lib.hid (BFA'.out.later T8 (fun _ _ => id))
    have BB8 := Lib.hid (BFB.out.later T8 (fun _ _ => id))
    have TT8 := Lib.hid (TT7.out.trans T8)
    have pA : ∃ r, A0.data.toList = (⟨#[59, 32, 102, 117, 110, 99, 116, 105, 111, 110, 32, 91]⟩ : ByteArray).data.toList ++ r := by
      obtain ⟨r, hr⟩ := DA.out
      exact ⟨r, by rw [HA0.out, hr]; simp⟩
    have pB : ∃ r, B0.data.toList = (I ++ (⟨#[59, 32, 102, 117, 110, 99, 116, 105, 111, 110, 32, 91]⟩ : ByteArray)).data.toList ++ r := by
      obtain ⟨r, hr⟩ := DB.out
      exact ⟨r, by rw [HB0.out, hr, HI.out, ByteArray.data_append]; simp⟩
    have sA0 : A0.size ≤ 140737488355328 := by rw [HA0.out]; show (BA.getD 0 []).toArray.size ≤ _; rw [List.size_toArray]; exact LLA.out 0
    have sB0 : B0.size ≤ 140737488355328 := by rw [HB0.out]; show (BB.getD 0 []).toArray.size ≤ _; rw [List.size_toArray]; exact LLB.out 0
    have PA := Lib.hid pA
    have PB := Lib.hid pB
    clear pA pB c0A c0B T8 BFA' BFB TT7
    go_wp2_with fail
    refine (zzPrefix_any A0 _ w8' sA0 PA.out).mono ?_
    rintro e w9' ⟨rfl, qa, rfl⟩
    go_wp2_with fail
    refine (zzPrefix_any B0 _ _ sB0 PB.out).mono ?_
    rintro e w9' ⟨rfl, qb, rfl⟩
    go_wp2
    go_loopw [23] (fun i wr => ∃ (k q : Nat), 1 ≤ k ∧ k ≤ n ∧ i = .int .i64 k ∧ w8'.drewN q = wr) (fun i _ => n - (intOf i).toNat)
    case atStart => exact ⟨1, _, Nat.le_refl _, by omega, rfl, rfl⟩
    case round =>
      obtain ⟨k, q, hk1, hk, rfl, rfl⟩ := hrel
      by_cases hkl : k < n
      · have cA := BA8.out.at k (by have := LA.out; omega)
        have cB := BB8.out.at k (by have := LB.out; omega)
        have hd := DD.out k hk1
        have lA := LLA.out k
        generalize BA.getD k [] = A at cA hd lA
        generalize BB.getD k [] = B at cB hd
        rcases hd with ⟨rfl, rfl⟩ | ⟨hA, hB⟩
        · go_wp2
          go_roundw
          case rel => exact ⟨k + 1, q, by omega, by omega, by go_num, rfl⟩
          case measure => simp [intOf]; omega
        · obtain ⟨XA, hXA⟩ : ∃ XA : ByteArray, XA = ⟨A.toArray⟩ := ⟨_, rfl⟩
          obtain ⟨XB, hXB⟩ : ∃ XB : ByteArray, XB = ⟨B.toArray⟩ := ⟨_, rfl⟩
          have eA : XA.toList.isEmpty = false := by
            rw [ByteArray.toList_eq, hXA]
            cases A with
            | nil => exact absurd rfl hA
            | cons a r => rfl
          have sXA : XA.size ≤ 140737488355328 := by rw [hXA]; show A.toArray.size ≤ _; rw [List.size_toArray]; exact lA
          have hAB : I ++ XA = XB := by
            rw [hXA, hXB, hB, HI.out, ByteArray.mk_append_mk]
          rw [← hXA] at cA
          rw [← hXB] at cB
          clear hXA hXB hA hB lA
          have hkI : (k : Int) < (n : Int) := by omega
          go_wp2
          go_quiet (fail)
          go_wp2
          go_roundw
          case rel => exact ⟨k + 1, q + nq, by omega, by omega, by go_num, rfl⟩
          case measure => simp [intOf]; omega
      · have hke : k = n := by omega
        subst hke
        have hbel := Lib.hid (TT8.out.below (Nat.le_refl _) (fun _ h => h.elim))
        go_wp2
        go_ret
        have hb := hbel.out
        exact ⟨rfl, ⟨hb.os, hb.tape, hb.output, hb.size, hb.block⟩⟩
end Go.Proofs.YtdljljnjijkbjaaFmt
