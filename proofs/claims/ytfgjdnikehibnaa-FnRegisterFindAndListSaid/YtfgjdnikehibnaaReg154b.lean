/- The walk of FnRegisterFindAndList: it returns true, whatever the offset and the names. -/
import Derived.Test.YtfgjdnikehibnaaReg154
import Derived.Test.YtfgjdnikehibnaaPool2
namespace Go.Proofs.Ytfgjdnikehibnaa
open Go.RowKit
set_option linter.unusedVariables false

/-- r: the last place before m that holds what k holds -/
def LastOf (T : List ByteArray) (k r m : Nat) : Prop := T.getD r ByteArray.empty = T.getD k ByteArray.empty ∧ ∀ t, r < t → t < m → T.getD t ByteArray.empty ≠ T.getD k ByteArray.empty

theorem ZZlist_any (β P : Nat) (v : Value) (ss : List ByteArray) (off : Int) (w : World) (h : Pool w β P v ss off) (hn : ss.length ≤ 1048576) :
    Calls Try.prog 23 #[.pointer (some ⟨P, 0, none⟩)] w (ListedPost ss off w) := by
  go_enter Try.func23, Try.ntmps23
  go_wp2_with fail
  refine (list_any β P v ss off _ h hn).mono ?_
  rintro e w' ⟨g, xs, rfl, r⟩
  go_wp2
  go_ret
  exact ⟨g, xs, rfl, r⟩

theorem ZZfind_any (β P : Nat) (v : Value) (ss : List ByteArray) (off : Int) (s : ByteArray) (w : World) (h : Pool w β P v ss off) (hn : ss.length ≤ 1048576) :
    Calls Try.prog 24 #[.pointer (some ⟨P, 0, none⟩), .string s] w (Found ss off s w) := by
  go_enter Try.func24, Try.ntmps24
  go_wp2_with fail
  refine (find_any β P v ss off s _ h hn).mono ?_
  rintro e w' ⟨⟨q, rfl⟩, ⟨r, h1, h2, h3, rfl⟩ | ⟨h1, rfl⟩⟩
  · go_wp2
    go_ret
    exact ⟨⟨_, rfl⟩, .inl ⟨r, h1, h2, h3, rfl⟩⟩
  · go_wp2
    go_ret
    exact ⟨⟨_, rfl⟩, .inr ⟨h1, rfl⟩⟩

set_option maxRecDepth 100000 in
set_option maxHeartbeats 2000000 in
theorem walk_FnRegisterFindAndList (off : Int) (a : Option Addr) (len cap : Nat) (ss : List ByteArray) (w : World) (w0 : (Lit.int .i64 off).wf = true) (hs : IsStrs w a len cap ss) :
    Calls Try.prog 6 #[.int .i64 off, .slice a len cap] w fun e w' => e = .returned (.bool true) ∧ Below w.heap.size w w' := by
  obtain ⟨L, rfl, S, hz, hm, hnone⟩ := hs.open
  clear hs
  go_enter Try.func6, Try.ntmps6
  go_wp2_with fail
  refine (zzB_FnRegisterFindAndList off a cap L _ S hm hz).mono ?_
  rintro e w' ⟨b, rfl, hb, rfl⟩
  cases b with
  | false =>
    go_wp2
    go_ret
    exact ⟨rfl, Below.refl _ _⟩
  | true =>
    have hb1 := hb rfl
    clear hb
    by_cases h4096 : 4096 < L.length
    · go_wp2
      go_ret
      exact ⟨rfl, Below.refl _ _⟩
    go_wp2_with fail
    refine (strBytesOK_any a cap L _ S hm hz).mono ?_
    rintro e w' ⟨b, rfl, hb, rfl⟩
    cases b with
    | false =>
      go_wp2
      go_ret
      exact ⟨rfl, Below.refl _ _⟩
    | true =>
      have hb2 := hb rfl
      clear hb
      go_wp2_with fail
      refine (clone_any a cap L _ S (by omega) hnone).mono ?_
      rintro e w1 ⟨a', cap', rfl, S', hx', hbel1⟩
      clear S hz hnone hm
      go_wp2_with fail
      refine (ZZnewPool_any off w1.heap.size _ (Nat.le_refl _)).mono ?_
      rintro e w2 ⟨P, v, rfl, hP, hT, hPge, hv⟩
      have hbel2 : Below w1.heap.size w1 w2 := hT.below (Nat.le_refl _) (fun _ h => h.elim)
      have hx : ∀ x, a' = some x → x.block < w1.heap.size := fun x h => (hx' x h).2
      clear hx' hT hv
      go_wp2
      go_loopw [6] (fun i wr => ∃ (T : List ByteArray) (v : Value), T = L.take T.length ∧ T.length ≤ L.length ∧ i = .int .i64 T.length ∧ Pool wr w1.heap.size P v T off ∧ Below w1.heap.size w1 wr) (fun i _ => L.length - (intOf i).toNat)
      case atStart => exact ⟨[], v, by simp, Nat.zero_le _, rfl, hP, hbel2⟩
      case round =>
        clear hP hbel2
        obtain ⟨T, v, hTL, hTl, rfl, hP, hbel⟩ := hrel
        have hPβ : w1.heap.size ≤ P := by omega
        by_cases hlt : T.length < L.length
        · obtain ⟨b, o, hao, hc⟩ := S' T.length hlt
          subst hao
          have hcr := (hbel.cell (p := ⟨b, o + T.length, none⟩) (hx ⟨b, o, none⟩ rfl)).trans hc
          have hnext : T ++ [L.getD T.length ByteArray.empty] = L.take (T.length + 1) := by
            rw [List.take_succ_eq_append_getElem hlt, ← hTL]; simp [List.getD, hlt]
          generalize hs : L.getD T.length ByteArray.empty = s at hcr hnext
          have HS := Lib.hid hs
          have HN := Lib.hid hnext
          have HT := Lib.hid hTL
          have HC := Lib.hid hc
          clear hs hnext hTL hc S'
          go_wp2_with fail
          refine (ZZregister_any _ P v T off s _ hP hbel.size (by omega)).mono ?_
          rintro e w3 ⟨v3, rfl, hP3, hT3, hl3⟩
          have hbel3 : Below w1.heap.size w1 w3 := hbel.trans (hT3.below hbel.size (fun j hj => by
            rcases hj with rfl | hj
            · exact hPβ
            · exact (hP.row.lt j hj).1))
          clear hT3 hl3
          go_wp2
          go_roundw
          case rel => exact ⟨T ++ [s], v3, by rw [HN.out]; first | (simp; done) | (simp; omega), by first | (simp; done) | (simp; omega), by first | (simp; done) | (simp; omega), hP3, hbel3⟩
          case measure => simp [intOf]; omega
        · have he : T = L := by rw [hTL]; exact List.take_of_length_le (by omega)
          subst he
          clear hTL hTl hlt
          go_wp2_with fail
          refine (ZZlist_any _ P _ T off _ hP (by omega)).mono ?_
          rintro e w4 ⟨g, xs, rfl, hown, hls, hT4⟩
          have hP4 := hP.kept hT4 id (fun _ _ => id)
          have hbel4 : Below w1.heap.size w1 w4 := hbel.trans (hT4.below hbel.size (fun _ h => h.elim))
          clear hT4
          go_wp2
          go_loopw [8] (fun j wx => ∃ k q : Nat, k ≤ T.length ∧ j = .int .i64 k ∧ w4.drewN q = wx) (fun j _ => T.length - (intOf j).toNat)
          case atStart => exact ⟨0, 0, Nat.zero_le _, rfl, rfl⟩
          case round =>
            obtain ⟨k, q, hk, rfl, rfl⟩ := hrel
            by_cases hlt : k < T.length
            · obtain ⟨b, o, rfl, hc⟩ := S' k hlt
              have hcr := (hbel4.cell (p := ⟨b, o + k, none⟩) (hx ⟨b, o, none⟩ rfl)).trans hc
              have hl := hls k hlt
              have e0 := (hown.cellAt (k * 2) (by omega)).trans hl.1
              have e1 := (hown.cellAt (k * 2 + 1) (by omega)).trans hl.2
              generalize hs : T.getD k ByteArray.empty = s at hcr e1
              have eb : (wrap64 ((k : Int) + off) != wrap64 (off + (k : Int))) = false := by rw [Int.add_comm]; simp
              clear hs hc S' hl hls hown
              have z1 : (0 : Int) ≤ (k : Int) := by omega
              have z2 : (k : Int) < (T.length : Int) := by omega
              go_wp2
              go_quiet (fail)
              go_wp2
              go_roundw
              case rel => exact ⟨k + 1, _, by omega, by go_num, rfl⟩
              case measure => simp [intOf]; omega
            · have he : k = T.length := by omega
              subst he
              clear hlt hown hls
              go_wp2
              go_loopw [9] (fun j wx => ∃ k q : Nat, k ≤ T.length ∧ j = .int .i64 k ∧ w4.drewN q = wx) (fun j _ => T.length - (intOf j).toNat)
              case atStart => exact ⟨0, q, Nat.zero_le _, rfl, rfl⟩
              case round =>
                clear q
                obtain ⟨k, q, hk, rfl, rfl⟩ := hrel
                by_cases hlt : k < T.length
                · go_wp2
                  go_loopw [10, 11] (fun l j wx => ∃ r m q' : Nat, m ≤ T.length ∧ k < m ∧ k ≤ r ∧ r < m ∧ l = .int .i64 r ∧ j = .int .i64 m ∧ LastOf T k r m ∧ w4.drewN q' = wx) (fun _ j _ => T.length - (intOf j).toNat)
                  case atStart => exact ⟨k, k + 1, q, by omega, by omega, Nat.le_refl _, by omega, rfl, by go_num, ⟨rfl, fun t h1 h2 => by omega⟩, rfl⟩
                  case round =>
                    clear q
                    obtain ⟨r, m, q, hm, hkm, hkr, hrm, rfl, rfl, hlast, rfl⟩ := hrel
                    obtain ⟨b, o, hao, hck⟩ := S' k hlt
                    subst hao
                    have hcrk := (hbel4.cell (p := ⟨b, o + k, none⟩) (hx ⟨b, o, none⟩ rfl)).trans hck
                    have HL := Lib.hid hlast
                    clear hlast
                    by_cases hml : m < T.length
                    · obtain ⟨b2, o2, he, hc⟩ := S' m hml
                      obtain ⟨rfl, rfl⟩ : b = b2 ∧ o = o2 := by simpa using he
                      have hcr := (hbel4.cell (p := ⟨b, o + m, none⟩) (hx ⟨b, o, none⟩ rfl)).trans hc
                      clear he hc hck S'
                      generalize hs : T.getD m ByteArray.empty = s at hcr
                      generalize ht : T.getD k ByteArray.empty = t at hcrk
                      have HS := Lib.hid hs
                      have HT := Lib.hid ht
                      clear hs ht
                      have z1 : (0 : Int) ≤ (k : Int) := by omega
                      have z2 : (k : Int) < (T.length : Int) := by omega
                      have z3 : (0 : Int) ≤ (m : Int) := by omega
                      have z4 : (m : Int) < (T.length : Int) := by omega
                      by_cases heq : s = t
                      · subst heq
                        go_wp2
                        go_quiet (fail)
                        go_wp2
                        go_roundw
                        case rel => exact ⟨m, m + 1, _, by omega, by omega, by omega, by omega, rfl, by go_num, ⟨HS.out.trans HT.out.symm, fun t h1 h2 => by omega⟩, rfl⟩
                        case measure => simp [intOf]; omega
                      · have hb := bytes_ne heq
                        have HB := Lib.hid heq
                        clear heq
                        go_wp2
                        go_quiet (fail)
                        go_wp2
                        go_roundw
                        case rel =>
                          refine ⟨r, m + 1, _, by omega, by omega, by omega, by omega, rfl, by go_num, ⟨HL.out.1, ?_⟩, rfl⟩
                          intro u h1 h2
                          rcases Nat.lt_or_eq_of_le (Nat.le_of_lt_succ h2) with h | h
                          · exact HL.out.2 u h1 h
                          · subst h; rw [HS.out, HT.out]; exact HB.out
                        case measure => simp [intOf]; omega
                    · have he : m = T.length := by omega
                      subst he
                      clear hml S' hck
                      generalize ht : T.getD k ByteArray.empty = t at hcrk
                      have HT := Lib.hid ht
                      clear ht
                      have hPd : Pool (w4.drewN q) w1.heap.size P v T off := ⟨hP4.blk, hP4.row⟩
                      go_wp2_with fail
                      refine (ZZfind_any _ P _ T off t _ hPd (by omega)).mono ?_
                      rintro e w6 ⟨⟨q6, rfl⟩, ⟨r', h1, h2, h3, rfl⟩ | ⟨h1, rfl⟩⟩
                      · have hl := HL.out
                        have hrr : r' = r := by
                          rcases Nat.lt_trichotomy r' r with h | h | h
                          · exact absurd (hl.1.trans HT.out) (h3 r h hrm)
                          · exact h
                          · exact absurd (h2.trans HT.out.symm) (hl.2 r' h h1)
                        subst hrr
                        have eb : (wrap64 ((r' : Int) + off) != wrap64 (off + (r' : Int))) = false := by rw [Int.add_comm]; simp
                        clear h2 h3 hl
                        go_wp2
                        go_roundw
                        case rel => exact ⟨k + 1, _, by omega, by go_num, rfl⟩
                        case measure => simp [intOf]; omega
                      · exact absurd HT.out (h1 k hlt)
                · have he : k = T.length := by omega
                  subst he
                  clear hlt S'
                  go_wp2
                  go_ret
                  exact ⟨rfl, hbel1.trans (hbel4.mono hbel1.size |>.trans ⟨rfl, rfl, rfl, Nat.le_refl _, fun _ _ => rfl⟩)⟩
end Go.Proofs.Ytfgjdnikehibnaa
