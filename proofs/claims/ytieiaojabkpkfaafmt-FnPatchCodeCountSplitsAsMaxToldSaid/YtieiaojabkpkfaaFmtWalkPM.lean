/- The walk of FnPatchCodeMoveRuns: it returns true. Printed by wip/genP.py. -/
import Derived.Test.YtieiaojabkpkfaaFmtWalkP
import Derived.Test.YtieiaojabkpkfaaFmtBytesP
namespace Go.Proofs.YtieiaojabkpkfaaFmt
open Go.RowKit
set_option linter.unusedVariables false

theorem all32_of {L : List Int} (h : ∀ n ∈ L, (Lit.int .u32 n).wf = true) : All32 L := by
  intro k hk
  have hm : L.getD k 0 ∈ L := by simp [List.getD, hk]
  have := h _ hm
  generalize L.getD k 0 = x at *
  simp [Lit.wf, IntKind.min, IntKind.max, IntKind.signed, IntKind.bits] at this
  exact ⟨by omega, by omega⟩
theorem u8_of {n : Int} (h : (Lit.int .u8 n).wf = true) : 0 ≤ n ∧ n ≤ 255 := by
  simp [Lit.wf, IntKind.min, IntKind.max, IntKind.signed, IntKind.bits] at h
  omega

set_option maxRecDepth 100000 in
set_option maxHeartbeats 4000000 in
theorem walk_FnPatchCodeMoveRuns (a : Option Addr) (len c : Nat) (zs : List Int) (np : Int) (w : World) (h : IsRow .u32 w a len c zs) (hnp : (Lit.int .u8 np).wf = true) :
    Calls Tryf.prog 3 #[.slice a len c, .int .u8 np] w fun e w' => e = .returned (.bool true) ∧ Below w.heap.size w w' := by
  obtain ⟨L, rfl, S, hwf, hm, hnil⟩ := h.open
  have h32 := all32_of hwf
  have hnp := u8_of hnp
  clear h hwf
  go_enter Tryf.func3, Tryf.ntmps3
  go_wp2_with fail
  refine (zzB_FnPatchCodeMoveRuns a L.length c np _ hm).mono ?_
  rintro e w' ⟨b, rfl, hb, rfl⟩
  cases b with
  | false =>
    go_wp2
    go_ret
    exact ⟨rfl, Below.refl _ _⟩
  | true =>
    have hb1 := hb rfl
    clear hb hm
    by_cases q1 : 65536 < L.length
    · go_wp2
      go_ret
      exact ⟨rfl, Below.refl _ _⟩
    by_cases q2 : 199 < np
    · go_wp2
      go_ret
      exact ⟨rfl, Below.refl _ _⟩
    go_wp2_with fail
    refine (hasJump_any a c L _ S h32 (by omega)).mono ?_
    rintro e w' ⟨⟨b, rfl, hj⟩, rfl⟩
    cases b with
    | true =>
      clear hj
      go_wp2
      go_ret
      exact ⟨rfl, Below.refl _ _⟩
    | false =>
      have hj1 := hj rfl
      clear hj
      have HJ := Lib.hid hj1
      clear hj1
      go_wp2_with fail
      refine (fieldsSmall_any a c L _ S h32 (by omega)).mono ?_
      rintro e w' ⟨⟨b, rfl, hs⟩, rfl⟩
      cases b with
      | false =>
        clear hs
        go_wp2
        go_ret
        exact ⟨rfl, Below.refl _ _⟩
      | true =>
        have hs1 := hs rfl
        clear hs
        have HS := Lib.hid hs1
        clear hs1
        go_wp2_with fail
        refine (cloneW_any a c L _ S (by omega) hnil).mono ?_
        rintro e w1 ⟨a', c', rfl, S1, hB1, hn'⟩
        clear S hn' hnil
        have H32 := Lib.hid h32
        clear h32
        go_wp2_with fail
        refine (ZZnewFc_any _ none _).mono ?_
        intro e w3 hm
        obtain ⟨fc, F, sl, v, rfl, hP, hT⟩ := hm.open
        clear hm
        go_wp2_with fail
        refine (ZZsetNp_any w1.heap.size fc F sl v 0 2 F.gc 1024 F.gl 1024 [] [] np _ hP).mono ?_
        rintro e w4 ⟨rfl, hP4, hT4⟩
        have hT5 : Turn w1 w4 (fun _ => False) := hT.trans' hT4 (fun j hj h => by have := hP.pge; omega)
        have HP := Lib.hid hP4
        clear hP hT hT4 hP4
        go_wp2
        go_loopw [6] (fun i wr => ∃ (k gc cc gl cl : Nat) (ls : List Int), k ≤ L.length ∧ i = .int .i64 k ∧ PState wr w1.heap.size fc F sl v np 2 gc cc gl cl (L.take k) ls ∧ Turn w1 wr (fun _ => False)) (fun i _ => L.length - (intOf i).toNat)
        case atStart => exact ⟨0, _, _, _, _, _, Nat.zero_le _, rfl, HP.out, hT5⟩
        case round =>
          clear HP hT5
          obtain ⟨k, gc, cc, gl, cl, ls, hk, rfl, hP, hT⟩ := hrel
          by_cases hlt : k < L.length
          · obtain ⟨b, o, rfl, hc⟩ := ints_later (hT.below (Nat.le_refl _) (fun _ h => h.elim)) S1 k hlt
            have htk : L.take (k + 1) = L.take k ++ [L.getD k 0] := by
              rw [List.take_succ_eq_append_getElem hlt]; simp [List.getD, hlt]
            generalize L.getD k 0 = x at hc htk
            have HK := Lib.hid htk
            have hlen : (L.take k).length ≤ 1048576 := by simp; omega
            clear htk S1
            go_wp2_with fail
            refine (ZZadd_any w1.heap.size fc F sl v np 2 gc cc gl cl (L.take k) ls x _ hP hT.size hlen).mono ?_
            rintro e w6 ⟨rfl, ⟨gc', cc', gl', cl', hP6⟩, hT6⟩
            have hT7 := hT.trans' hT6 (fun j hj h => by omega)
            rw [← HK.out] at hP6
            clear hP hT hT6 hc hlen
            go_wp2
            go_roundw
            case rel => exact ⟨k + 1, gc', cc', gl', cl', _, by omega, by go_num, hP6, hT7⟩
            case measure => simp [intOf]; omega
          · have he : k = L.length := by omega
            subst he
            rw [List.take_length] at hP
            clear hlt hk
            go_wp2_with fail
            refine (ZZpatch_any w1.heap.size fc F sl v np 2 gc cc gl cl L ls _ hP (by omega) H32.out HJ.out HS.out (by omega) (by omega)).mono ?_
            intro e w6 hm
            obtain ⟨rfl, hP6, hT6⟩ := hm
            have hg := hP.code.gcge
            have hT7 : Turn w1 w6 (fun _ => False) := hT.trans' hT6 (fun j hj h => by have := hP.pge; omega)
            have hpl := pat_len L L.length
            have hli := ZZlist_any w1.heap.size fc F sl v np _ gc cc gl cl _ ls w6 hP6 (by omega)
            rw [hpl] at hli
            have HL := Lib.hid hli
            have hcells : ∀ t, t < L.length → w6.cell? ⟨gc, t, none⟩ = some (.int .u32 ((pat L L.length).getD t 0)) := fun t ht => hP6.code.cell t (by omega)
            have HC := Lib.hid hcells
            have hB6 : Below w.heap.size w w6 := hB1.trans ((hT7.below (Nat.le_refl _) (fun _ h => h.elim)).mono hB1.size)
            have S6 := ints_later (hT7.below (Nat.le_refl _) (fun _ h => h.elim)) S1
            clear hP hT hT6 hP6 hg hpl hli hcells S1 hT7
            go_wp2_with fail
            refine HL.out.mono ?_
            rintro e w7 ⟨q, rfl, hw7⟩
            have hT7 : Turn w6 w7 (fun _ => False) := by rw [← hw7]; exact (Turn.refl _ _).drewN q
            have hB7 := hB6.trans ((hT7.below (Nat.le_refl _) (fun _ h => h.elim)).mono hB6.size)
            have S7 := ints_later (hT7.below (Nat.le_refl _) (fun _ h => h.elim)) S6
            have hcells : ∀ t, t < L.length → w7.cell? ⟨gc, t, none⟩ = some (.int .u32 ((pat L L.length).getD t 0)) := fun t ht => hT7.cell (HC.out t ht) id
            have HO := Lib.hid hcells
            clear hw7 hT7 hB6 S6 hcells HC HL HS HJ
            go_wp2
            have hT77 : Turn w7 w7 (fun _ => False) := Turn.refl _ _
            go_loopw [9] (fun s wr => ∃ i : Nat, i ≤ L.length ∧ s = .int .i64 i ∧ (i < L.length → opI (L.getD i 0) = 0 → mv L i = 0) ∧ Turn w7 wr (fun _ => False)) (fun s _ => L.length - (intOf s).toNat)
            case atStart => exact ⟨0, Nat.zero_le _, rfl, fun _ _ => rfl, hT77⟩
            case round =>
              clear hT77
              obtain ⟨i, hi, rfl, hmv, hTi⟩ := hrel
              by_cases hlt : i < L.length
              · obtain ⟨b1, o1, rfl, hc1⟩ := ints_later (hTi.below (Nat.le_refl _) (fun _ h => h.elim)) S7 i hlt
                have hx32 := H32.out i hlt
                have hco := hTi.cell (HO.out i hlt) (fun h => h)
                have hoth := pat_other L i hlt
                have hmv1 := hmv hlt
                clear hmv
                generalize hx : L.getD i 0 = x at hc1 hx32 hoth hmv1
                have HX := Lib.hid hx
                clear hx
                have zi : (i : Int) < (L.length : Int) := by omega
                go_wp2_with fail
                refine (opOf_any x hx32 _).mono ?_
                rintro e w' ⟨rfl, rfl⟩
                generalize ho : opI x = o at hoth hmv1 ⊢
                have HOP := Lib.hid ho
                clear ho
                by_cases h0 : o = 0
                · have hv := hmv1 h0
                  subst h0
                  have HV := Lib.hid hv
                  clear hv hmv1 hoth hco
                  go_wp2
                  generalize hW8 : wr = w8 at *
                  clear hW8
                  go_loopw [10] (fun s wr => ∃ j : Nat, i ≤ j ∧ j ≤ L.length ∧ s = .int .i64 j ∧ (∀ t, i ≤ t → t < j → opI (L.getD t 0) = 0) ∧ Turn w7 wr (fun _ => False)) (fun s _ => L.length - (intOf s).toNat)
                  case atStart => exact ⟨i, Nat.le_refl _, by omega, rfl, fun t a b => absurd b (by omega), hTi⟩
                  case round =>
                    clear hTi hc1
                    obtain ⟨j, hij, hjn, rfl, hrun, hTj⟩ := hrel
                    by_cases hjl : j < L.length
                    · obtain ⟨b2, o2, he2, hc2⟩ := ints_later (hTj.below (Nat.le_refl _) (fun _ h => h.elim)) S7 j hjl
                      obtain ⟨rfl, rfl⟩ : b1 = b2 ∧ o1 = o2 := by simpa using he2
                      clear he2
                      have hy32 := H32.out j hjl
                      have zj : (j : Int) < (L.length : Int) := by omega
                      by_cases h1 : opI (L.getD j 0) = 0
                      · have HR := Lib.hid hrun
                        generalize hy : L.getD j 0 = y at hc2 hy32 h1
                        have HY := Lib.hid hy
                        clear hy hrun
                        go_wp2_with fail
                        refine (opOf_any y hy32 _).mono ?_
                        rintro e w' ⟨rfl, rfl⟩
                        rw [h1]
                        have H1 := Lib.hid h1
                        clear h1
                        go_wp2
                        go_roundw
                        case rel =>
                          refine ⟨j + 1, by omega, by omega, by go_num, ?_, hTj⟩
                          intro t a b
                          rcases Nat.lt_or_eq_of_le (Nat.le_of_lt_succ b) with h | h
                          · exact HR.out t a h
                          · subst h; rw [HY.out]; exact H1.out
                        case measure => simp [intOf]; omega
                      · have he : j < L.length → opI (L.getD j 0) ≠ 0 := fun _ => h1
                        have hne : i ≠ j := fun e => h1 (by rw [← e, HX.out, HOP.out])
                        have hij2 : i < j := by omega
                        generalize hy : L.getD j 0 = y at hc2 hy32 h1
                        have HY := Lib.hid hy
                        clear hy
                        go_wp2_with fail
                        refine (opOf_any y hy32 _).mono ?_
                        rintro e w' ⟨rfl, rfl⟩
                        generalize hop : opI y = p at h1 ⊢
                        clear hop
                        have bp : (p == 0) = false := by simpa using h1
                        clear hc2 hy32 HY
                        have HE := Lib.hid he
                        have HR := Lib.hid hrun
                        clear he hrun
                        have hij' : (i : Int) < (j : Int) := by omega
                        have hjn' : (j : Int) ≤ (L.length : Int) := by omega
                        go_wp2
                        generalize hW9 : wr = w9 at *
                        clear hW9
                        go_loopw [12] (fun s wr => ∃ t : Nat, i ≤ t ∧ t ≤ j ∧ s = .int .i64 t ∧ Turn w7 wr (fun _ => False)) (fun s _ => j - (intOf s).toNat)
                        case atStart => exact ⟨i, Nat.le_refl _, by omega, rfl, hTj⟩
                        case round =>
                          clear hTj
                          obtain ⟨t, hit, htj, rfl, hTt⟩ := hrel
                          by_cases htl : t < j
                          · obtain ⟨b3, o3, he3, hc1⟩ := ints_later (hTt.below (Nat.le_refl _) (fun _ h => h.elim)) S7 t (by omega)
                            obtain ⟨rfl, rfl⟩ : b1 = b3 ∧ o1 = o3 := by simpa using he3
                            clear he3
                            have hcp := hTt.cell (HO.out t (by omega)) (fun h => h)
                            have hx32 := H32.out t (by omega)
                            have hval := pat_run L i j t hjn HV.out HR.out HE.out hit htl
                            rw [hval] at hcp
                            unfold wantAt at hcp
                            generalize hx : L.getD t 0 = x at hc1 hx32 hcp
                            have HX := Lib.hid hx
                            clear hx hval
                            by_cases hw : t = i ∧ 2 ≤ j - i ∧ j < L.length
                            · rw [if_pos hw] at hcp
                              obtain ⟨e1, e2, e3⟩ := hw
                              subst e1
                              have z1 : (2 : Int) ≤ (j : Int) - (t : Int) := by omega
                              have z2 : (j : Int) < (L.length : Int) := by omega
                              have m1 := setOp_eq x 1 hx32.1 hx32.2
                              have m1 : bits .or .u32 (bits .and .u32 x 67108863) 67108864 = setOp x 1 := m1
                              have y32 := setOp_bd x 1
                              by_cases hbig : 511 < (j : Int) - (t : Int) - 1
                              · have m2 : bits .or .u32 (bits .and .u32 (setOp x 1) 4294705663) 261632 = fuse x (j - t) := by
                                  have := setC_eq (setOp x 1) 511 y32.1 y32.2
                                  unfold fuse
                                  rw [if_neg (by omega)]
                                  exact this
                                generalize fuse x (j - t) = f at hcp m2
                                generalize setOp x 1 = y at m1 m2
                                clear y32
                                go_wp2
                                go_roundw
                                case rel => exact ⟨t + 1, by omega, by omega, by go_num, hTt⟩
                                case measure => simp [intOf]; omega
                              · have m2 : bits .or .u32 (bits .and .u32 (setOp x 1) 4294705663) (((j : Int) - (t : Int) - 1) * 512) = fuse x (j - t) := by
                                  have h1 : ((j - t : Nat) : Int) = (j : Int) - (t : Int) := by omega
                                  have := setC_eq (setOp x 1) ((j : Int) - (t : Int) - 1) y32.1 y32.2
                                  unfold fuse
                                  rw [h1]
                                  rw [show ((j : Int) - (t : Int) - 1) % 512 = (j : Int) - (t : Int) - 1 by omega] at this
                                  rw [this]
                                  split
                                  · rfl
                                  · rw [show (j : Int) - (t : Int) - 1 = 511 by omega]
                                generalize fuse x (j - t) = f at hcp m2
                                generalize setOp x 1 = y at m1 m2
                                clear y32
                                go_wp2
                                go_roundw
                                case rel => exact ⟨t + 1, by omega, by omega, by go_num, hTt⟩
                                case measure => simp [intOf]; omega
                            · rw [if_neg hw] at hcp
                              have bx : (x != x) = false := by simp
                              have zt : (t : Int) < (L.length : Int) := by omega
                              by_cases e1 : t = i
                              · subst e1
                                by_cases e2 : 2 ≤ j - t
                                · have z1 : (2 : Int) ≤ (j : Int) - (t : Int) := by omega
                                  have z2 : ¬ (j : Int) < (L.length : Int) := by omega
                                  clear hw
                                  go_wp2
                                  all_goals
                                    go_roundw
                                    case rel => exact ⟨t + 1, by omega, by omega, by go_num, hTt⟩
                                    case measure => simp [intOf]; omega
                                · have z1 : ¬ (2 : Int) ≤ (j : Int) - (t : Int) := by omega
                                  clear hw
                                  go_wp2
                                  all_goals
                                    go_roundw
                                    case rel => exact ⟨t + 1, by omega, by omega, by go_num, hTt⟩
                                    case measure => simp [intOf]; omega
                              · have z1 : ((t : Int) == (i : Int)) = false := by rw [beq_eq_false_iff_ne]; omega
                                clear hw
                                go_wp2
                                all_goals
                                  go_roundw
                                  case rel => exact ⟨t + 1, by omega, by omega, by go_num, hTt⟩
                                  case measure => simp [intOf]; omega
                          · have he : t = j := by omega
                            subst he
                            go_wp2
                            go_roundw
                            case rel => exact ⟨t, by omega, rfl, fun hl h0 => absurd h0 (HE.out hl), hTt⟩
                            case measure => simp [intOf]; omega
                    · have he : j < L.length → opI (L.getD j 0) ≠ 0 := fun h => absurd h hjl
                      have hij2 : i < j := by omega
                      have HE := Lib.hid he
                      have HR := Lib.hid hrun
                      clear he hrun
                      have hij' : (i : Int) < (j : Int) := by omega
                      have hjn' : (j : Int) ≤ (L.length : Int) := by omega
                      go_wp2
                      generalize hW9 : wr = w9 at *
                      clear hW9
                      go_loopw [12] (fun s wr => ∃ t : Nat, i ≤ t ∧ t ≤ j ∧ s = .int .i64 t ∧ Turn w7 wr (fun _ => False)) (fun s _ => j - (intOf s).toNat)
                      case atStart => exact ⟨i, Nat.le_refl _, by omega, rfl, hTj⟩
                      case round =>
                        clear hTj
                        obtain ⟨t, hit, htj, rfl, hTt⟩ := hrel
                        by_cases htl : t < j
                        · obtain ⟨b3, o3, he3, hc1⟩ := ints_later (hTt.below (Nat.le_refl _) (fun _ h => h.elim)) S7 t (by omega)
                          obtain ⟨rfl, rfl⟩ : b1 = b3 ∧ o1 = o3 := by simpa using he3
                          clear he3
                          have hcp := hTt.cell (HO.out t (by omega)) (fun h => h)
                          have hx32 := H32.out t (by omega)
                          have hval := pat_run L i j t hjn HV.out HR.out HE.out hit htl
                          rw [hval] at hcp
                          unfold wantAt at hcp
                          generalize hx : L.getD t 0 = x at hc1 hx32 hcp
                          have HX := Lib.hid hx
                          clear hx hval
                          by_cases hw : t = i ∧ 2 ≤ j - i ∧ j < L.length
                          · rw [if_pos hw] at hcp
                            obtain ⟨e1, e2, e3⟩ := hw
                            subst e1
                            have z1 : (2 : Int) ≤ (j : Int) - (t : Int) := by omega
                            have z2 : (j : Int) < (L.length : Int) := by omega
                            have m1 := setOp_eq x 1 hx32.1 hx32.2
                            have m1 : bits .or .u32 (bits .and .u32 x 67108863) 67108864 = setOp x 1 := m1
                            have y32 := setOp_bd x 1
                            by_cases hbig : 511 < (j : Int) - (t : Int) - 1
                            · have m2 : bits .or .u32 (bits .and .u32 (setOp x 1) 4294705663) 261632 = fuse x (j - t) := by
                                have := setC_eq (setOp x 1) 511 y32.1 y32.2
                                unfold fuse
                                rw [if_neg (by omega)]
                                exact this
                              generalize fuse x (j - t) = f at hcp m2
                              generalize setOp x 1 = y at m1 m2
                              clear y32
                              go_wp2
                              go_roundw
                              case rel => exact ⟨t + 1, by omega, by omega, by go_num, hTt⟩
                              case measure => simp [intOf]; omega
                            · have m2 : bits .or .u32 (bits .and .u32 (setOp x 1) 4294705663) (((j : Int) - (t : Int) - 1) * 512) = fuse x (j - t) := by
                                have h1 : ((j - t : Nat) : Int) = (j : Int) - (t : Int) := by omega
                                have := setC_eq (setOp x 1) ((j : Int) - (t : Int) - 1) y32.1 y32.2
                                unfold fuse
                                rw [h1]
                                rw [show ((j : Int) - (t : Int) - 1) % 512 = (j : Int) - (t : Int) - 1 by omega] at this
                                rw [this]
                                split
                                · rfl
                                · rw [show (j : Int) - (t : Int) - 1 = 511 by omega]
                              generalize fuse x (j - t) = f at hcp m2
                              generalize setOp x 1 = y at m1 m2
                              clear y32
                              go_wp2
                              go_roundw
                              case rel => exact ⟨t + 1, by omega, by omega, by go_num, hTt⟩
                              case measure => simp [intOf]; omega
                          · rw [if_neg hw] at hcp
                            have bx : (x != x) = false := by simp
                            have zt : (t : Int) < (L.length : Int) := by omega
                            by_cases e1 : t = i
                            · subst e1
                              by_cases e2 : 2 ≤ j - t
                              · have z1 : (2 : Int) ≤ (j : Int) - (t : Int) := by omega
                                have z2 : ¬ (j : Int) < (L.length : Int) := by omega
                                clear hw
                                go_wp2
                                all_goals
                                  go_roundw
                                  case rel => exact ⟨t + 1, by omega, by omega, by go_num, hTt⟩
                                  case measure => simp [intOf]; omega
                              · have z1 : ¬ (2 : Int) ≤ (j : Int) - (t : Int) := by omega
                                clear hw
                                go_wp2
                                all_goals
                                  go_roundw
                                  case rel => exact ⟨t + 1, by omega, by omega, by go_num, hTt⟩
                                  case measure => simp [intOf]; omega
                            · have z1 : ((t : Int) == (i : Int)) = false := by rw [beq_eq_false_iff_ne]; omega
                              clear hw
                              go_wp2
                              all_goals
                                go_roundw
                                case rel => exact ⟨t + 1, by omega, by omega, by go_num, hTt⟩
                                case measure => simp [intOf]; omega
                        · have he : t = j := by omega
                          subst he
                          go_wp2
                          go_roundw
                          case rel => exact ⟨t, by omega, rfl, fun hl h0 => absurd h0 (HE.out hl), hTt⟩
                          case measure => simp [intOf]; omega
                · have b0 : (o == 0) = false := by simpa using h0
                  have b1 : (o != 0) = true := by simp [h0]
                  obtain ⟨q1, q2⟩ := hoth h0
                  rw [q1] at hco
                  have bx : (x != x) = false := by simp
                  have Q2 := Lib.hid q2
                  clear q1 q2 hmv1 hoth
                  go_wp2_with fail
                  go_quiet (fail)
                  go_wp2
                  go_roundw
                  case rel => exact ⟨i + 1, by omega, by go_num, fun _ _ => Q2.out, hTi.drewN _⟩
                  case measure => simp [intOf]; omega
              · have he : i = L.length := by omega
                subst he
                have hB9 := hB7.trans ((hTi.below (Nat.le_refl _) (fun _ h => h.elim)).mono hB7.size)
                clear hlt hmv
                go_wp2
                go_ret
                exact ⟨rfl, hB9⟩
end Go.Proofs.YtieiaojabkpkfaaFmt
