/- The walk of FnRegisterConsecutiveIndices: it returns true, whatever the offset and the names. -/
import Derived.Test.YtfgjdnikehibnaaBytes154
import Derived.Test.YtfgjdnikehibnaaStr154
import Derived.Test.YtfgjdnikehibnaaPool
namespace Go.Proofs.Ytfgjdnikehibnaa
open Go.RowKit
set_option linter.unusedVariables false

theorem ZZnewPool_any (off : Int) (β : Nat) (w : World) (hβ : β ≤ w.heap.size) : Calls Try.prog 11 #[.int .i64 off] w (PoolMade off β w) := by
  go_enter Try.func11, Try.ntmps11
  go_wp2_with fail
  refine (newPool_any off β _ hβ).mono ?_
  rintro e w' ⟨P, v, rfl, r⟩
  go_wp2
  go_ret
  exact ⟨P, v, rfl, r⟩

theorem ZZregister_any (β P : Nat) (v : Value) (ss : List ByteArray) (off : Int) (s : ByteArray) (w : World) (h : Pool w β P v ss off) (hβ : β ≤ w.heap.size) (hn : ss.length ≤ 1048576) :
    Calls Try.prog 12 #[.pointer (some ⟨P, 0, none⟩), .string s] w (Registered β P v ss off s w) := by
  go_enter Try.func12, Try.ntmps12
  go_wp2_with fail
  refine (register_any β P v ss off s _ h hβ hn).mono ?_
  rintro e w' ⟨v', rfl, r⟩
  go_wp2
  go_ret
  exact ⟨v', rfl, r⟩

theorem ZZlastIndex_any (β P : Nat) (v : Value) (ss : List ByteArray) (off : Int) (w : World) (h : Pool w β P v ss off) (r : Int) (hr : wrap64 (off + ss.length) = r) :
    Calls Try.prog 13 #[.pointer (some ⟨P, 0, none⟩)] w (GotInt r w) := by
  go_enter Try.func13, Try.ntmps13
  go_wp2_with fail
  refine (lastIndex_any β P v ss off _ h h.slice r hr).mono ?_
  rintro e w' ⟨rfl, q, rfl⟩
  go_wp2
  go_ret
  exact ⟨rfl, _, rfl⟩

theorem ZZnames_any (β P : Nat) (v : Value) (ss : List ByteArray) (off : Int) (w : World) (h : Pool w β P v ss off) :
    Calls Try.prog 14 #[.pointer (some ⟨P, 0, none⟩)] w fun e w' => e = .returned v ∧ w = w' := by
  obtain ⟨ao, cap, rfl⟩ := h.slice
  go_enter Try.func14, Try.ntmps14
  go_wp2_with fail
  refine (names_any β P _ ss off _ h).mono ?_
  rintro e w' ⟨rfl, rfl⟩
  go_wp2
  go_ret
  exact ⟨rfl, rfl⟩

set_option maxRecDepth 100000 in
set_option maxHeartbeats 2000000 in
theorem walk_FnRegisterConsecutiveIndices (off : Int) (a : Option Addr) (len cap : Nat) (ss : List ByteArray) (w : World) (w0 : (Lit.int .i64 off).wf = true) (hs : IsStrs w a len cap ss) :
    Calls Try.prog 3 #[.int .i64 off, .slice a len cap] w fun e w' => e = .returned (.bool true) ∧ Below w.heap.size w w' := by
  obtain ⟨L, rfl, S, hz, hm, hnone⟩ := hs.open
  clear hs
  go_enter Try.func3, Try.ntmps3
  go_wp2_with fail
  refine (zzB_FnRegisterConsecutiveIndices off a cap L _ S hm hz).mono ?_
  rintro e w' ⟨b, rfl, hb, rfl⟩
  cases b with
  | false =>
    go_wp2
    go_ret
    exact ⟨rfl, Below.refl _ _⟩
  | true =>
    have hb1 := hb rfl
    clear hb
    go_wp2_with fail
    refine (strBytesOK_any a cap L _ S hm hz).mono ?_
    rintro e w' ⟨b, rfl, hb, rfl⟩
    cases b with
    | false =>
      go_wp2
      go_ret
      exact ⟨rfl, Below.refl _ _⟩
    | true =>
      have hb2 := hb rfl
      clear hb
      go_wp2_with fail
      refine (clone_any a cap L _ S (by omega) hnone).mono ?_
      rintro e w1 ⟨a', cap', rfl, S', hx', hbel1⟩
      clear S hz hnone hm
      go_wp2_with fail
      refine (ZZnewPool_any off w1.heap.size _ (Nat.le_refl _)).mono ?_
      rintro e w2 ⟨P, v, rfl, hP, hT, hPge, hv⟩
      have hbel2 : Below w1.heap.size w1 w2 := hT.below (Nat.le_refl _) (fun _ h => h.elim)
      have hx : ∀ x, a' = some x → x.block < w1.heap.size := fun x h => (hx' x h).2
      clear hx' hT hv
      go_wp2
      go_loopw [6] (fun i wr => ∃ (T : List ByteArray) (v : Value), T = L.take T.length ∧ T.length ≤ L.length ∧ i = .int .i64 T.length ∧ Pool wr w1.heap.size P v T off ∧ Below w1.heap.size w1 wr) (fun i _ => L.length - (intOf i).toNat)
      case atStart => exact ⟨[], v, by simp, Nat.zero_le _, rfl, hP, hbel2⟩
      case round =>
        clear hP hbel2
        obtain ⟨T, v, hTL, hTl, rfl, hP, hbel⟩ := hrel
        have hPβ : w1.heap.size ≤ P := by omega
        by_cases hlt : T.length < L.length
        · obtain ⟨b, o, hao, hc⟩ := S' T.length hlt
          subst hao
          have hcr := (hbel.cell (p := ⟨b, o + T.length, none⟩) (hx ⟨b, o, none⟩ rfl)).trans hc
          have hnext : T ++ [L.getD T.length ByteArray.empty] = L.take (T.length + 1) := by
            rw [List.take_succ_eq_append_getElem hlt, ← hTL]; simp [List.getD, hlt]
          generalize hs : L.getD T.length ByteArray.empty = s at hcr hnext
          have HS := Lib.hid hs
          have HN := Lib.hid hnext
          have HT := Lib.hid hTL
          have HC := Lib.hid hc
          clear hs hnext hTL hc S'
          have e1 : (wrap64 ((T.length : Int) + off) != wrap64 (off + (T.length : Int))) = false := by rw [Int.add_comm]; simp
          have e2 : wrap64 (off + ((T ++ [s]).length : Int)) = wrap64 (wrap64 (off + (T.length : Int)) + 1) := by
            simp only [List.length_append, List.length_singleton]; unfold wrap64; omega
          have E2 := Lib.hid e2
          clear e2
          go_wp2_with fail
          refine (ZZregister_any _ P v T off s _ hP hbel.size (by omega)).mono ?_
          rintro e w3 ⟨v3, rfl, hP3, hT3, hl3⟩
          have hbel3 : Below w1.heap.size w1 w3 := hbel.trans (hT3.below hbel.size (fun j hj => by
            rcases hj with rfl | hj
            · exact hPβ
            · exact (hP.row.lt j hj).1))
          clear hT3 hl3
          go_wp2_with fail
          refine (ZZlastIndex_any _ P v3 _ off _ hP3 _ E2.out).mono ?_
          rintro e w4 ⟨rfl, q, rfl⟩
          go_wp2
          go_roundw
          case rel => exact ⟨T ++ [s], v3, by rw [HN.out]; first | (simp; done) | (simp; omega), by first | (simp; done) | (simp; omega), by first | (simp; done) | (simp; omega), ⟨hP3.blk, hP3.row⟩, hbel3.os, hbel3.tape, hbel3.output, hbel3.size, hbel3.block⟩
          case measure => simp [intOf]; omega
        · have he : T = L := by rw [hTL]; exact List.take_of_length_le (by omega)
          subst he
          clear hTL hTl hlt
          obtain ⟨ao, cap3, rfl⟩ := hP.slice
          have hST := hP.strs
          go_wp2_with fail
          refine (ZZnames_any _ P _ _ off _ hP).mono ?_
          rintro e w4 ⟨rfl, rfl⟩
          go_wp2
          go_loopw [8] (fun j wx => ∃ k q : Nat, k ≤ T.length ∧ j = .int .i64 k ∧ wr.drewN q = wx) (fun j _ => T.length - (intOf j).toNat)
          case atStart => exact ⟨0, 0, Nat.zero_le _, rfl, rfl⟩
          case round =>
            obtain ⟨k, q, hk, rfl, rfl⟩ := hrel
            by_cases hlt : k < T.length
            · obtain ⟨b, o, rfl, hc⟩ := S' k hlt
              obtain ⟨b2, o2, rfl, hc2⟩ := hST k hlt
              have hcr := (hbel.cell (p := ⟨b, o + k, none⟩) (hx ⟨b, o, none⟩ rfl)).trans hc
              generalize hs : T.getD k ByteArray.empty = s at hcr hc2
              clear hs hc S' hST
              have z1 : (0 : Int) ≤ (k : Int) := by omega
              have z2 : (k : Int) < (T.length : Int) := by omega
              go_wp2
              go_quiet (fail)
              go_wp2
              go_roundw
              case rel => exact ⟨k + 1, _, by omega, by go_num, rfl⟩
              case measure => simp [intOf]; omega
            · have he : k = T.length := by omega
              subst he
              clear hlt S' hST
              go_wp2
              go_ret
              exact ⟨rfl, hbel1.trans (hbel.mono hbel1.size |>.trans ⟨rfl, rfl, rfl, Nat.le_refl _, fun _ _ => rfl⟩)⟩
end Go.Proofs.Ytfgjdnikehibnaa
