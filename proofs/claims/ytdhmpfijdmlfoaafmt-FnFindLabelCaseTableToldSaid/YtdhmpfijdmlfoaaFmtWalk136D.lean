/- The walk of FnFindLabelCaseTable: it returns true. -/
import Derived.Test.YtdhmpfijdmlfoaaFmtFlCtx136
namespace Go.Proofs.YtdhmpfijdmlfoaaFmt
open Go.RowKit Go.Maps
set_option linter.unusedVariables false

theorem target_lab {names : List ByteArray} {ids ns : List Int} {m : Nat} {K : List Lab} {s : ByteArray} {i : Nat} (hF : From names ids [] ns m K) (ht : IsTarget names m s i) : ∃ j, j < K.length ∧ (K.getD j Lab.zero).name = s ∧ (K.getD j Lab.zero).id = ids.getD i 0 ∧ (K.getD j Lab.zero).n = ns.getD i 0 := by
  obtain ⟨j, hj, hn⟩ := hF.all i ht.lt
  obtain ⟨i', h1, h2, h3, h4, _, h5⟩ := hF.src j hj
  have e : i' = i := by
    have hs : names.getD i' ByteArray.empty = s := by rw [← h3, hn, ht.eq]
    rcases Nat.lt_trichotomy i' i with h | h | h
    · exact absurd hs (ht.first i' h)
    · exact h
    · exact absurd (ht.eq.trans hs.symm) (h2 i h)
  subst e
  exact ⟨j, hj, by rw [hn, ht.eq], h4, h5⟩
theorem no_lab {names : List ByteArray} {ids ns : List Int} {m : Nat} {K : List Lab} {s : ByteArray} (hF : From names ids [] ns m K) (ht : ∀ t, t < m → names.getD t ByteArray.empty ≠ s) (j : Nat) (hj : j < K.length) : (K.getD j Lab.zero).name ≠ s := by
  obtain ⟨i', h1, h2, h3, h4, _, h5⟩ := hF.src j hj
  rw [h3]
  exact ht i' h1

/-- FindLabel on a context of zzFindLabelCtx's, where the label is there -/
theorem find_hit {names : List ByteArray} {ids ns : List Int} {m : Nat} {L ls : List Int} {s : ByteArray} {pc : Nat} {gN : Int} {refUp : Bool} {β fc : Nat} {F : FcAt} {gb : Value × Option Addr} {gc cc gl cl : Nat} {cnt : Int} {DL D1 D2 : DataW Unit} {nL n1 n2 : Nat} {K : List Lab} {g i : Nat} {w : World}
    (hC : Ctx w β fc F gb gc cc gl cl L ls cnt refUp DL D1 D2 nL n1 n2) (hg : w.heap[g]? = some (.cells #[.int .i64 0, .string s, .int .i64 pc, .int .i64 1, .int .i64 gN] 29 (0, 0))) (hlabs : LabsAt w K) (hlook : Look DL K) (hF : From names ids [] ns m K) (ht : IsTarget names m s i)
    (hp : FlPre L.length pc gN (ids.getD i 0) (ns.getD i 0) refUp) (hs : s.size ≤ maxLen) (hn : L.length ≤ 1048576) (hw : ∀ k, k < L.length → 0 ≤ L.getD k 0 ∧ L.getD k 0 < 4294967296) :
    Calls Tryf.prog 19 #[.pointer (some ⟨fc, 0, none⟩), .pointer (some ⟨F.b + 1, 0, none⟩), .pointer (some ⟨g, 0, none⟩), .int .i64 0] w (FindHit β fc F gb gc cc gl cl L ls cnt refUp DL D1 D2 nL n1 n2 0 pc (ids.getD i 0) gN (ns.getD i 0) w) := by
  obtain ⟨j, hj, e1, e2, e3⟩ := target_lab hF ht
  have hl := hlabs j hj
  have ha := (hlook.some j hj).2
  rw [e1] at ha
  have h1 := hp.p1
  exact findLabel_hit β fc F gb gc cc gl cl L ls cnt refUp DL D1 D2 nL n1 n2 0 g (K.getD j Lab.zero).b pc s (ids.getD i 0) gN (ns.getD i 0) w hC hs (by decide) _ _ hg hl rfl rfl rfl (by rw [← e2]; rfl) (by rw [← e3]; rfl) ha hp.nn (by omega) (fun h => by have := (hp.set h).1; omega) hn hw

/-- the instructions behind FindLabel -/
def after (L : List Int) (pc : Nat) (tid gN tn : Int) (refUp : Bool) : List Int := (if tn < gN ∧ refUp = true then L.set (pc - 1) (setA (L.getD (pc - 1) 0) tn) else L).set pc (setBx (L.getD pc 0) (tid + 131071))

theorem after_len (L : List Int) (pc : Nat) (tid gN tn : Int) (refUp : Bool) : (after L pc tid gN tn refUp).length = L.length := by
  unfold after
  split <;> simp
theorem after_pc (L : List Int) (pc : Nat) (tid gN tn : Int) (refUp : Bool) (h : pc < L.length) : (after L pc tid gN tn refUp).getD pc 0 = setBx (L.getD pc 0) (tid + 131071) := by
  unfold after
  exact getD_set_eq _ _ _ (by split <;> simpa using h)
theorem after_a (L : List Int) (pc : Nat) (tid gN tn : Int) (refUp : Bool) (h : pc < L.length) (h1 : 1 ≤ pc) (hs : tn < gN ∧ refUp = true) : (after L pc tid gN tn refUp).getD (pc - 1) 0 = setA (L.getD (pc - 1) 0) tn := by
  unfold after
  rw [if_pos hs, getD_set_ne _ _ _ _ (by omega)]
  exact getD_set_eq _ _ _ (by omega)
theorem after_other (L : List Int) (pc k : Nat) (tid gN tn : Int) (refUp : Bool) (h : k ≠ pc) (hs : ¬ ((tn < gN ∧ refUp = true) ∧ k = pc - 1)) : (after L pc tid gN tn refUp).getD k 0 = L.getD k 0 := by
  unfold after
  rw [getD_set_ne _ _ _ _ h]
  split
  · rename_i h1
    exact getD_set_ne _ _ _ _ (fun e => hs ⟨h1, e⟩)
  · rfl

set_option maxRecDepth 100000 in
set_option maxHeartbeats 4000000 in
theorem walk_FnFindLabelCaseTable (na : Option Addr) (nlen nc : Nat) (nss : List ByteArray) (ia : Option Addr) (ilen ic : Nat) (izs : List Int) (sa : Option Addr) (slen sc : Nat) (szs : List Int) (a : Option Addr) (len c : Nat) (zs : List Int) (s : ByteArray) (gpc gN : Int) (refUp : Bool) (w : World)
    (hn : IsStrs w na nlen nc nss) (hi : IsRow .i64 w ia ilen ic izs) (hs : IsRow .i64 w sa slen sc szs) (hz : IsRow .u32 w a len c zs) (w4 : s.size ≤ maxLen) (w5 : (Lit.int .i64 gpc).wf = true) (w6 : (Lit.int .i64 gN).wf = true) :
    Calls Tryf.prog 8 #[.slice na nlen nc, .slice ia ilen ic, .slice sa slen sc, .slice a len c, .string s, .int .i64 gpc, .int .i64 gN, .bool refUp] w fun e w' => e = .returned (.bool true) ∧ Below w.heap.size w w' := by
  obtain ⟨names, rfl, Sn, zn, mn, _⟩ := hn.open
  obtain ⟨ids, rfl, Si, zi, mi, _⟩ := hi.open
  obtain ⟨ns, rfl, Ss, zs', ms, _⟩ := hs.open
  obtain ⟨L, rfl, S, hwf, hm, _⟩ := hz.open
  have hw := getD_mem_u32 hwf
  clear hn hi hs hz hwf
  go_enter Tryf.func8, Tryf.ntmps8
  go_wp2_with fail
  refine (zzB_FnFindLabelCaseTable na nc names ia ids.length ic sa ns.length sc a L.length c s gpc gN refUp _ Sn mn zn mi ms hm w4).mono ?_
  rintro e w' ⟨b, rfl, hb, rfl⟩
  cases b with
  | false =>
    go_wp2
    go_ret
    exact ⟨rfl, Below.refl _ _⟩
  | true =>
    have hb1 := hb rfl
    clear hb
    by_cases q1 : 4096 < names.length
    · go_wp2
      go_ret
      exact ⟨rfl, Below.refl _ _⟩
    by_cases q2 : 4096 < ids.length
    · go_wp2
      go_ret
      exact ⟨rfl, Below.refl _ _⟩
    by_cases q3 : 4096 < ns.length
    · go_wp2
      go_ret
      exact ⟨rfl, Below.refl _ _⟩
    by_cases q4 : 65536 < L.length
    · go_wp2
      go_ret
      exact ⟨rfl, Below.refl _ _⟩
    go_wp2_with fail
    refine (stringsBytes_any na nc names _ Sn (by omega) (by omega)).mono ?_
    rintro e w' ⟨rfl, rfl⟩
    have hN : s.size ≤ 1048576 := by omega
    generalize hsz : sumSizes names = sz at hb1 ⊢
    have HSZ := Lib.hid hsz
    clear hsz
    by_cases q5 : 1048576 < 16 * names.length + sz + 8 * ids.length + 8 * ns.length + 4 * L.length + s.size
    · have q5' : (1048576 : Int) < 16 * (names.length : Int) + (sz : Int) + 8 * (ids.length : Int) + 8 * (ns.length : Int) + 4 * (L.length : Int) + (s.size : Int) := by omega
      go_wp2
      go_ret
      exact ⟨rfl, Below.refl _ _⟩
    have q5' : ¬ (1048576 : Int) < 16 * (names.length : Int) + (sz : Int) + 8 * (ids.length : Int) + 8 * (ns.length : Int) + 4 * (L.length : Int) + (s.size : Int) := by omega
    obtain ⟨m, hmm⟩ : ∃ m, m = min (min names.length ids.length) ns.length := ⟨_, rfl⟩
    have HM := Lib.hid hmm
    clear hmm q5
    go_wp2_with fail
    refine (flPremise_any na nc names ia ic ids sa sc ns a L.length c s gpc gN refUp _ Sn Si Ss (by omega) (by omega) (by omega) (by omega) m HM.out).mono ?_
    rintro e wp ⟨b, rfl, hb, hTp⟩
    have hbp := hTp.below (Nat.le_refl _) (fun _ h => h.elim)
    cases b with
    | true =>
      go_wp2
      go_ret
      exact ⟨rfl, hbp⟩
    | false =>
      have hpre := hb rfl
      clear hb
      have Sn1 := strs_later hbp Sn
      have Si1 := ints_later hbp Si
      have Ss1 := ints_later hbp Ss
      have S1 := ints_later hbp S
      clear Sn Si Ss q5'
      go_wp2_with fail
      refine (modelTarget_any na nc names ia ic ids sa sc ns s _ Sn1 Si1 Ss1 (by omega) (by omega) (by omega) m HM.out).mono ?_
      rintro e wt ⟨⟨q, rfl⟩, hT⟩
      have hTt := hTp.trans (drewN_turn wp q _)
      have Sn2 : Strs (wp.drewN q) na names := Sn1
      have Si2 : Ints .i64 (wp.drewN q) ia ids := Si1
      have Ss2 : Ints .i64 (wp.drewN q) sa ns := Ss1
      have S2 : Ints .u32 (wp.drewN q) a L := S1
      clear Sn1 Si1 Ss1 S1 hTp hbp
      generalize wp.drewN q = wt at *
      rcases hT with ⟨i, hi, rfl⟩ | ⟨hno, rfl⟩
      · have hp := hpre i hi
        obtain ⟨tid, htid⟩ : ∃ x, x = ids.getD i 0 := ⟨_, rfl⟩
        obtain ⟨tn, htn⟩ : ∃ x, x = ns.getD i 0 := ⟨_, rfl⟩
        rw [← htid, ← htn]
        have HI := Lib.hid htid
        have HN' := Lib.hid htn
        have HP := Lib.hid hp
        have HI0 := Lib.hid hi
        clear hpre htid htn hp hi
        go_wp2_with fail
        refine (flCtx_any na nc names ia ic ids sa sc ns a c L s gpc gN refUp _ Sn2 Si2 Ss2 S2 (by omega) (by omega) (by omega) (by omega) m HM.out zn zi).mono ?_
        rintro e w1 ⟨fc, F, gb, gc, cc, gl, cl, ls, DL, D1, D2, nL, n1, n2, K, g, rfl, hC, hg, hlabs, hlook, hdist, hF, hD2, hT1⟩
        obtain ⟨pc, rfl⟩ : ∃ n : Nat, gpc = n := ⟨gpc.toNat, by have := HP.out.p0; omega⟩
        have hTT := hTt.trans hT1
        have hwt := hTt.size
        have hCall := find_hit hC hg hlabs hlook hF HI0.out HP.out w4 (by omega) hw
        have hp := HP.out
        rw [← HI.out, ← HN'.out] at hCall hp
        have c4 := cell_of_blk hC.blk 4 (.pointer (some ⟨F.b + 1, 0, none⟩)) rfl
        clear Sn2 Si2 Ss2 S2 hlook hF hdist hTt hT1 zn zi HM HI HN' HI0 HP
        have hges := hC.ges
        have H1 := Lib.hid hC
        clear hC
        go_wp2_with fail
        refine hCall.mono ?_
        rintro e wf ⟨rfl, ⟨is', his, hC2⟩, hT2⟩
        rw [← his] at hC2
        have hTT := hTT.trans' hT2 (fun j hj h => by
          have h1 : wt.heap.size ≤ gc := hges.2.2.1
          have h2 : wt.heap.size ≤ F.M2 := hges.2.2.2.2.2.2.2
          omega)
        have hpc : pc < L.length := by have := hp.p1; omega
        have t0 := hp.t0
        have t1 := hp.t1
        have hset := hp.set
        have hnn : ¬ gN < tn := hp.nn
        have hC3 : Ctx wf wt.heap.size fc F gb gc cc gl cl (after L pc tid gN tn refUp) ls 2 refUp DL D1 (D2.del (kI 0)) nL n1 n2 := hC2
        clear hp hC2 hT2 hges his
        by_cases hlt' : tn < gN
        · cases refUp with
          | true =>
            obtain ⟨hp0, a0, a1⟩ := hset ⟨hlt', rfl⟩
            obtain ⟨pm, hpm⟩ : ∃ pm, pc = pm + 1 := ⟨pc - 1, by omega⟩
            have HPM := Lib.hid hpm
            clear hset hp0 hpm
            have hbel := hTT.below (Nat.le_refl _) (fun _ h => h.elim)
            have S3 := ints_later hbel S
            have hd0 : Maps.has (D2.del (kI 0)) (kI 0) = false := has_del_same
            have hd1 : Maps.has (D2.del (kI 0)) (kI 1) = true := by rw [has_del_eq, hD2]; decide
            clear S hD2 hTT hlabs hg c4 H1
            go_wp2
            go_loop [24] (fun i => ∃ k : Nat, k ≤ L.length ∧ i = .int .i64 k) (fun i => L.length - (intOf i).toNat)
            case atStart => exact ⟨0, Nat.zero_le _, rfl⟩
            case round =>
              obtain ⟨k, hk, rfl⟩ := hrel
              have c1 := cell_of_blk hC3.blk 1 (.pointer (some ⟨F.c, 0, none⟩)) rfl
              by_cases hlt : k < L.length
              · obtain ⟨b, off, rfl, hc⟩ := S3 k hlt
                obtain ⟨x0, x1⟩ := hw k hlt
                have hlen2 : (after L pc tid gN tn true).length = L.length := after_len L pc tid gN tn true
                have hA := at_any wt.heap.size F.c gc cc gl cl (after L pc tid gN tn true) ls k wf hC3.code (by omega) (by omega)
                by_cases hkp : k = pc
                · subst hkp
                  rw [after_pc L k tid gN tn true hlt] at hA
                  generalize L.getD k 0 = x at hc hA x0 x1
                  have hv : (setBx x (tid + 131071) != bits .or .u32 (bits .andNot .u32 x 262143) (tid + 131071)) = false := by
                    rw [want_bx x tid x0 x1 t0 t1]; simp
                  generalize setBx x (tid + 131071) = vv at hv hA
                  clear hC3 hlen2 S3 hd0 hd1
                  go_wp2_with fail
                  refine hA.mono ?_
                  rintro e w' ⟨rfl, rfl⟩
                  clear hA
                  go_wp2
                  go_round
                  case rel => exact ⟨k + 1, by omega, by go_num⟩
                  case measure => simp [intOf]; omega
                · by_cases hkq : k = pm
                  · subst hkq
                    have hA2 := after_a L pc tid gN tn true hpc (by have := HPM.out; omega) ⟨hlt', rfl⟩
                    rw [show pc - 1 = k from by have := HPM.out; omega] at hA2
                    rw [hA2] at hA
                    have hy1 : (pc : Int) - 1 ≤ (k : Int) := by have := HPM.out; omega
                    have hy2 : (k : Int) ≤ (pc : Int) - 1 := by have := HPM.out; omega
                    generalize L.getD k 0 = x at hc hA x0 x1
                    have hv : (setA x tn != bits .or .u32 (bits .andNot .u32 x 66846720) (tn * 262144)) = false := by
                      rw [want_a x tn x0 x1 a0 a1]; simp
                    generalize setA x tn = vv at hv hA
                    clear hC3 hlen2 S3 hd0 hd1 hA2 hkp
                    go_wp2_with fail
                    refine hA.mono ?_
                    rintro e w' ⟨rfl, rfl⟩
                    clear hA
                    go_wp2
                    go_round
                    case rel => exact ⟨k + 1, by omega, by go_num⟩
                    case measure => simp [intOf]; omega
                  · rw [after_other L pc k tid gN tn true hkp (fun h => hkq (by have := h.2; have := HPM.out; omega))] at hA
                    generalize L.getD k 0 = x at hc hA x0 x1
                    have hkz : ¬ (k : Int) = (pc : Int) := by omega
                    have hky : ¬ (k : Int) = (pc : Int) - 1 := by have := HPM.out; omega
                    clear hC3 hlen2 S3 hd0 hd1
                    go_wp2_with fail
                    refine hA.mono ?_
                    rintro e w' ⟨rfl, rfl⟩
                    clear hA
                    go_wp2
                    go_round
                    case rel => exact ⟨k + 1, by omega, by go_num⟩
                    case measure => simp [intOf]; omega
              · have he : k = L.length := by omega
                have hQ0 := hasGoto_any wt.heap.size fc F gb gc cc gl cl (after L pc tid gN tn true) ls 2 true DL D1 (D2.del (kI 0)) nL n1 n2 0 wf hC3 (by decide)
                have hQ1 := hasGoto_any wt.heap.size fc F gb gc cc gl cl (after L pc tid gN tn true) ls 2 true DL D1 (D2.del (kI 0)) nL n1 n2 1 wf hC3 (by decide)
                rw [hd0] at hQ0
                rw [hd1] at hQ1
                subst he
                clear hlt c1 S3 hC3 hd0 hd1
                go_wp2_with fail
                refine hQ0.mono ?_
                rintro e w' ⟨rfl, rfl⟩
                clear hQ0
                go_wp2_with fail
                refine hQ1.mono ?_
                rintro e w' ⟨rfl, rfl⟩
                clear hQ1
                go_wp2
                go_ret
                exact ⟨rfl, hbel⟩
          | false =>
            have hno : ∀ {k : Nat}, ¬ ((tn < gN ∧ false = true) ∧ k = pc - 1) := fun h => by cases h.1.2
            clear hset
            have hbel := hTT.below (Nat.le_refl _) (fun _ h => h.elim)
            have S3 := ints_later hbel S
            have hd0 : Maps.has (D2.del (kI 0)) (kI 0) = false := has_del_same
            have hd1 : Maps.has (D2.del (kI 0)) (kI 1) = true := by rw [has_del_eq, hD2]; decide
            clear S hD2 hTT hlabs hg c4 H1
            go_wp2
            go_loop [24] (fun i => ∃ k : Nat, k ≤ L.length ∧ i = .int .i64 k) (fun i => L.length - (intOf i).toNat)
            case atStart => exact ⟨0, Nat.zero_le _, rfl⟩
            case round =>
              obtain ⟨k, hk, rfl⟩ := hrel
              have c1 := cell_of_blk hC3.blk 1 (.pointer (some ⟨F.c, 0, none⟩)) rfl
              by_cases hlt : k < L.length
              · obtain ⟨b, off, rfl, hc⟩ := S3 k hlt
                obtain ⟨x0, x1⟩ := hw k hlt
                have hlen2 : (after L pc tid gN tn false).length = L.length := after_len L pc tid gN tn false
                have hA := at_any wt.heap.size F.c gc cc gl cl (after L pc tid gN tn false) ls k wf hC3.code (by omega) (by omega)
                by_cases hkp : k = pc
                · subst hkp
                  rw [after_pc L k tid gN tn false hlt] at hA
                  generalize L.getD k 0 = x at hc hA x0 x1
                  have hv : (setBx x (tid + 131071) != bits .or .u32 (bits .andNot .u32 x 262143) (tid + 131071)) = false := by
                    rw [want_bx x tid x0 x1 t0 t1]; simp
                  generalize setBx x (tid + 131071) = vv at hv hA
                  clear hC3 hlen2 S3 hd0 hd1
                  go_wp2_with fail
                  refine hA.mono ?_
                  rintro e w' ⟨rfl, rfl⟩
                  clear hA
                  go_wp2
                  go_round
                  case rel => exact ⟨k + 1, by omega, by go_num⟩
                  case measure => simp [intOf]; omega
                · rw [after_other L pc k tid gN tn false hkp hno] at hA
                  generalize L.getD k 0 = x at hc hA x0 x1
                  have hkz : ¬ (k : Int) = (pc : Int) := by omega
                  clear hC3 hlen2 S3 hd0 hd1
                  go_wp2_with fail
                  refine hA.mono ?_
                  rintro e w' ⟨rfl, rfl⟩
                  clear hA
                  go_wp2
                  go_round
                  case rel => exact ⟨k + 1, by omega, by go_num⟩
                  case measure => simp [intOf]; omega
              · have he : k = L.length := by omega
                have hQ0 := hasGoto_any wt.heap.size fc F gb gc cc gl cl (after L pc tid gN tn false) ls 2 false DL D1 (D2.del (kI 0)) nL n1 n2 0 wf hC3 (by decide)
                have hQ1 := hasGoto_any wt.heap.size fc F gb gc cc gl cl (after L pc tid gN tn false) ls 2 false DL D1 (D2.del (kI 0)) nL n1 n2 1 wf hC3 (by decide)
                rw [hd0] at hQ0
                rw [hd1] at hQ1
                subst he
                clear hlt c1 S3 hC3 hd0 hd1
                go_wp2_with fail
                refine hQ0.mono ?_
                rintro e w' ⟨rfl, rfl⟩
                clear hQ0
                go_wp2_with fail
                refine hQ1.mono ?_
                rintro e w' ⟨rfl, rfl⟩
                clear hQ1
                go_wp2
                go_ret
                exact ⟨rfl, hbel⟩
        · have hno : ∀ {k : Nat}, ¬ ((tn < gN ∧ refUp = true) ∧ k = pc - 1) := fun h => hlt' h.1.1
          have hle : gN ≤ tn := by omega
          clear hset
          have hbel := hTT.below (Nat.le_refl _) (fun _ h => h.elim)
          have S3 := ints_later hbel S
          have hd0 : Maps.has (D2.del (kI 0)) (kI 0) = false := has_del_same
          have hd1 : Maps.has (D2.del (kI 0)) (kI 1) = true := by rw [has_del_eq, hD2]; decide
          clear S hD2 hTT hlabs hg c4 H1
          go_wp2
          go_loop [24] (fun i => ∃ k : Nat, k ≤ L.length ∧ i = .int .i64 k) (fun i => L.length - (intOf i).toNat)
          case atStart => exact ⟨0, Nat.zero_le _, rfl⟩
          case round =>
            obtain ⟨k, hk, rfl⟩ := hrel
            have c1 := cell_of_blk hC3.blk 1 (.pointer (some ⟨F.c, 0, none⟩)) rfl
            by_cases hlt : k < L.length
            · obtain ⟨b, off, rfl, hc⟩ := S3 k hlt
              obtain ⟨x0, x1⟩ := hw k hlt
              have hlen2 : (after L pc tid gN tn refUp).length = L.length := after_len L pc tid gN tn refUp
              have hA := at_any wt.heap.size F.c gc cc gl cl (after L pc tid gN tn refUp) ls k wf hC3.code (by omega) (by omega)
              by_cases hkp : k = pc
              · subst hkp
                rw [after_pc L k tid gN tn refUp hlt] at hA
                generalize L.getD k 0 = x at hc hA x0 x1
                have hv : (setBx x (tid + 131071) != bits .or .u32 (bits .andNot .u32 x 262143) (tid + 131071)) = false := by
                  rw [want_bx x tid x0 x1 t0 t1]; simp
                generalize setBx x (tid + 131071) = vv at hv hA
                clear hC3 hlen2 S3 hd0 hd1
                go_wp2_with fail
                refine hA.mono ?_
                rintro e w' ⟨rfl, rfl⟩
                clear hA
                go_wp2
                go_round
                case rel => exact ⟨k + 1, by omega, by go_num⟩
                case measure => simp [intOf]; omega
              · rw [after_other L pc k tid gN tn refUp hkp hno] at hA
                generalize L.getD k 0 = x at hc hA x0 x1
                have hkz : ¬ (k : Int) = (pc : Int) := by omega
                clear hC3 hlen2 S3 hd0 hd1
                go_wp2_with fail
                refine hA.mono ?_
                rintro e w' ⟨rfl, rfl⟩
                clear hA
                go_wp2
                go_round
                case rel => exact ⟨k + 1, by omega, by go_num⟩
                case measure => simp [intOf]; omega
            · have he : k = L.length := by omega
              have hQ0 := hasGoto_any wt.heap.size fc F gb gc cc gl cl (after L pc tid gN tn refUp) ls 2 refUp DL D1 (D2.del (kI 0)) nL n1 n2 0 wf hC3 (by decide)
              have hQ1 := hasGoto_any wt.heap.size fc F gb gc cc gl cl (after L pc tid gN tn refUp) ls 2 refUp DL D1 (D2.del (kI 0)) nL n1 n2 1 wf hC3 (by decide)
              rw [hd0] at hQ0
              rw [hd1] at hQ1
              subst he
              clear hlt c1 S3 hC3 hd0 hd1
              go_wp2_with fail
              refine hQ0.mono ?_
              rintro e w' ⟨rfl, rfl⟩
              clear hQ0
              go_wp2_with fail
              refine hQ1.mono ?_
              rintro e w' ⟨rfl, rfl⟩
              clear hQ1
              go_wp2
              go_ret
              exact ⟨rfl, hbel⟩
      · have HNO := Lib.hid hno
        clear hpre hno
        go_wp2_with fail
        refine (flCtx_any na nc names ia ic ids sa sc ns a c L s gpc gN refUp _ Sn2 Si2 Ss2 S2 (by omega) (by omega) (by omega) (by omega) m HM.out zn zi).mono ?_
        rintro e w1 ⟨fc, F, gb, gc, cc, gl, cl, ls, DL, D1, D2, nL, n1, n2, K, g, rfl, hC, hg, hlabs, hlook, hdist, hF, hD2, hT1⟩
        have hTT := hTt.trans hT1
        have hCall := findLabel_none wt.heap.size fc F gb gc cc gl cl L ls 2 refUp DL D1 D2 nL n1 n2 0 g s w1 hC w4 (cell_of_blk hg 1 (.string s) rfl) (hlook.none s (no_lab hF HNO.out))
        have c4 := cell_of_blk hC.blk 4 (.pointer (some ⟨F.b + 1, 0, none⟩)) rfl
        have H1 := Lib.hid hC
        clear Sn2 Si2 Ss2 S2 hlook hF hdist hTt hT1 zn zi HM HNO hC hg hlabs
        go_wp2_with fail
        refine hCall.mono ?_
        rintro e wf ⟨rfl, hT2⟩
        have hC3 := H1.out.same hT2
        have hbel := (hTT.trans hT2).below (Nat.le_refl _) (fun _ h => h.elim)
        have S3 := ints_later hbel S
        have hd0 : Maps.has D2 (kI 0) = true := by rw [hD2]; decide
        have hd1 : Maps.has D2 (kI 1) = true := by rw [hD2]; decide
        clear S hD2 hTT c4 H1 hT2 hCall
        go_wp2
        go_loop [24] (fun i => ∃ k : Nat, k ≤ L.length ∧ i = .int .i64 k) (fun i => L.length - (intOf i).toNat)
        case atStart => exact ⟨0, Nat.zero_le _, rfl⟩
        case round =>
          obtain ⟨k, hk, rfl⟩ := hrel
          have c1 := cell_of_blk hC3.blk 1 (.pointer (some ⟨F.c, 0, none⟩)) rfl
          by_cases hlt : k < L.length
          · obtain ⟨b, off, rfl, hc⟩ := S3 k hlt
            obtain ⟨x0, x1⟩ := hw k hlt
            have hA := at_any wt.heap.size F.c gc cc gl cl L ls k wf hC3.code (by omega) (by omega)
            generalize L.getD k 0 = x at hc hA x0 x1
            clear hC3 S3 hd0 hd1
            go_wp2_with fail
            refine hA.mono ?_
            rintro e w' ⟨rfl, rfl⟩
            clear hA
            go_wp2
            go_round
            case rel => exact ⟨k + 1, by omega, by go_num⟩
            case measure => simp [intOf]; omega
          · have he : k = L.length := by omega
            have hQ0 := hasGoto_any wt.heap.size fc F gb gc cc gl cl L ls 2 refUp DL D1 D2 nL n1 n2 0 wf hC3 (by decide)
            have hQ1 := hasGoto_any wt.heap.size fc F gb gc cc gl cl L ls 2 refUp DL D1 D2 nL n1 n2 1 wf hC3 (by decide)
            rw [hd0] at hQ0
            rw [hd1] at hQ1
            subst he
            clear hlt c1 S3 hC3 hd0 hd1
            go_wp2_with fail
            refine hQ0.mono ?_
            rintro e w' ⟨rfl, rfl⟩
            clear hQ0
            go_wp2_with fail
            refine hQ1.mono ?_
            rintro e w' ⟨rfl, rfl⟩
            clear hQ1
            go_wp2
            go_ret
            exact ⟨rfl, hbel⟩
end Go.Proofs.YtdhmpfijdmlfoaaFmt
