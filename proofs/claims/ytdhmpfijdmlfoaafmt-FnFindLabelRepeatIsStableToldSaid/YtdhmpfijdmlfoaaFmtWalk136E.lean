/- The walk of FnFindLabelRepeatIsStable: it returns true. -/
import Derived.Test.YtdhmpfijdmlfoaaFmtWalk136D
namespace Go.Proofs.YtdhmpfijdmlfoaaFmt
open Go.RowKit Go.Maps
set_option linter.unusedVariables false

theorem target_or {names : List ByteArray} (m : Nat) (s : ByteArray) : (∃ i, IsTarget names m s i) ∨ ∀ t, t < m → names.getD t ByteArray.empty ≠ s := by
  induction m with
  | zero => exact .inr fun t ht => absurd ht (by omega)
  | succ m ih =>
    rcases ih with ⟨i, h⟩ | h
    · exact .inl ⟨i, by have := h.lt; omega, h.eq, h.first⟩
    · by_cases e : names.getD m ByteArray.empty = s
      · exact .inl ⟨m, by omega, e, h⟩
      · refine .inr fun t ht => ?_
        rcases Nat.lt_or_eq_of_le (Nat.le_of_lt_succ ht) with h' | h'
        · exact h t h'
        · subst h'; exact e

theorem setA_twice (x v : Int) : setA (setA x v) v = setA x v := by unfold setA; omega

theorem after_twice (L : List Int) (pc : Nat) (tid gN tn : Int) (refUp : Bool) (h : pc < L.length) (hs : (tn < gN ∧ refUp = true) → 1 ≤ pc) (k : Nat) : (after (after L pc tid gN tn refUp) pc tid gN tn refUp).getD k 0 = (after L pc tid gN tn refUp).getD k 0 := by
  have hl := after_len L pc tid gN tn refUp
  by_cases e : k = pc
  · subst e
    rw [after_pc _ _ _ _ _ _ (by omega), after_pc L k tid gN tn refUp h, setBx_twice]
  · by_cases q : (tn < gN ∧ refUp = true) ∧ k = pc - 1
    · obtain ⟨q1, rfl⟩ := q
      rw [after_a _ _ _ _ _ _ (by omega) (hs q1) q1, after_a L pc tid gN tn refUp h (hs q1) q1, setA_twice]
    · rw [after_other _ _ _ _ _ _ _ e q]

theorem after_bd (L : List Int) (pc : Nat) (tid gN tn : Int) (refUp : Bool) (h : pc < L.length) (hs : (tn < gN ∧ refUp = true) → 1 ≤ pc) (hw : ∀ k, k < L.length → 0 ≤ L.getD k 0 ∧ L.getD k 0 < 4294967296) (k : Nat) (hk : k < (after L pc tid gN tn refUp).length) : 0 ≤ (after L pc tid gN tn refUp).getD k 0 ∧ (after L pc tid gN tn refUp).getD k 0 < 4294967296 := by
  have hl := after_len L pc tid gN tn refUp
  by_cases e : k = pc
  · subst e
    rw [after_pc L k tid gN tn refUp h]
    exact setBx_bd _ _ (hw k h).1 (hw k h).2
  · by_cases q : (tn < gN ∧ refUp = true) ∧ k = pc - 1
    · obtain ⟨q1, rfl⟩ := q
      rw [after_a L pc tid gN tn refUp h (hs q1) q1]
      exact setA_bd _ _ (hw _ (by omega)).1 (hw _ (by omega)).2
    · rw [after_other _ _ _ _ _ _ _ e q]
      exact hw k (by omega)

set_option maxRecDepth 100000 in
set_option maxHeartbeats 4000000 in
theorem walk_FnFindLabelRepeatIsStable (na : Option Addr) (nlen nc : Nat) (nss : List ByteArray) (ia : Option Addr) (ilen ic : Nat) (izs : List Int) (sa : Option Addr) (slen sc : Nat) (szs : List Int) (a : Option Addr) (len c : Nat) (zs : List Int) (s : ByteArray) (gpc gN : Int) (refUp : Bool) (w : World)
    (hn : IsStrs w na nlen nc nss) (hi : IsRow .i64 w ia ilen ic izs) (hs : IsRow .i64 w sa slen sc szs) (hz : IsRow .u32 w a len c zs) (w4 : s.size ≤ maxLen) (w5 : (Lit.int .i64 gpc).wf = true) (w6 : (Lit.int .i64 gN).wf = true) :
    Calls Tryf.prog 4 #[.slice na nlen nc, .slice ia ilen ic, .slice sa slen sc, .slice a len c, .string s, .int .i64 gpc, .int .i64 gN, .bool refUp] w fun e w' => e = .returned (.bool true) ∧ Below w.heap.size w w' := by
  obtain ⟨names, rfl, Sn, zn, mn, _⟩ := hn.open
  obtain ⟨ids, rfl, Si, zi, mi, _⟩ := hi.open
  obtain ⟨ns, rfl, Ss, zs', ms, _⟩ := hs.open
  obtain ⟨L, rfl, S, hwf, hm, _⟩ := hz.open
  have hw := getD_mem_u32 hwf
  clear hn hi hs hz hwf
  go_enter Tryf.func4, Tryf.ntmps4
  go_wp2_with fail
  refine (zzB_FnFindLabelRepeatIsStable na nc names ia ids.length ic sa ns.length sc a L.length c s gpc gN refUp _ Sn mn zn mi ms hm w4).mono ?_
  rintro e w' ⟨b, rfl, hb, rfl⟩
  cases b with
  | false =>
    go_wp2
    go_ret
    exact ⟨rfl, Below.refl _ _⟩
  | true =>
    have hb1 := hb rfl
    clear hb
    by_cases q1 : 4096 < names.length
    · go_wp2
      go_ret
      exact ⟨rfl, Below.refl _ _⟩
    by_cases q2 : 4096 < ids.length
    · go_wp2
      go_ret
      exact ⟨rfl, Below.refl _ _⟩
    by_cases q3 : 4096 < ns.length
    · go_wp2
      go_ret
      exact ⟨rfl, Below.refl _ _⟩
    by_cases q4 : 65536 < L.length
    · go_wp2
      go_ret
      exact ⟨rfl, Below.refl _ _⟩
    go_wp2_with fail
    refine (stringsBytes_any na nc names _ Sn (by omega) (by omega)).mono ?_
    rintro e w' ⟨rfl, rfl⟩
    have hN : s.size ≤ 1048576 := by omega
    generalize hsz : sumSizes names = sz at hb1 ⊢
    have HSZ := Lib.hid hsz
    clear hsz
    by_cases q5 : 1048576 < 16 * names.length + sz + 8 * ids.length + 8 * ns.length + 4 * L.length + s.size
    · have q5' : (1048576 : Int) < 16 * (names.length : Int) + (sz : Int) + 8 * (ids.length : Int) + 8 * (ns.length : Int) + 4 * (L.length : Int) + (s.size : Int) := by omega
      go_wp2
      go_ret
      exact ⟨rfl, Below.refl _ _⟩
    have q5' : ¬ (1048576 : Int) < 16 * (names.length : Int) + (sz : Int) + 8 * (ids.length : Int) + 8 * (ns.length : Int) + 4 * (L.length : Int) + (s.size : Int) := by omega
    obtain ⟨m, hmm⟩ : ∃ m, m = min (min names.length ids.length) ns.length := ⟨_, rfl⟩
    have HM := Lib.hid hmm
    clear hmm q5
    go_wp2_with fail
    refine (flPremise_any na nc names ia ic ids sa sc ns a L.length c s gpc gN refUp _ Sn Si Ss (by omega) (by omega) (by omega) (by omega) m HM.out).mono ?_
    rintro e wp ⟨b, rfl, hb, hTp⟩
    have hbp := hTp.below (Nat.le_refl _) (fun _ h => h.elim)
    cases b with
    | true =>
      go_wp2
      go_ret
      exact ⟨rfl, hbp⟩
    | false =>
      have hpre := hb rfl
      clear hb
      have Sn1 := strs_later hbp Sn
      have Si1 := ints_later hbp Si
      have Ss1 := ints_later hbp Ss
      have S1 := ints_later hbp S
      clear Sn Si Ss q5'
      go_wp2_with fail
      refine (flCtx_any na nc names ia ic ids sa sc ns a c L s gpc gN refUp _ Sn1 Si1 Ss1 S1 (by omega) (by omega) (by omega) (by omega) m HM.out zn zi).mono ?_
      rintro e w1 ⟨fc, F, gb, gc, cc, gl, cl, ls, DL, D1, D2, nL, n1, n2, K, g, rfl, hC, hg, hlabs, hlook, hdist, hF, hD2, hT1⟩
      have hTT := hTp.trans hT1
      have hwt := hTp.size
      have c4 := cell_of_blk hC.blk 4 (.pointer (some ⟨F.b + 1, 0, none⟩)) rfl
      clear Sn1 Si1 Ss1 S1 hdist hTp hbp hT1 zn zi HM
      rcases target_or (names := names) m s with ⟨i, hi⟩ | hno
      · have hp := hpre i hi
        clear hpre
        obtain ⟨pc, rfl⟩ : ∃ n : Nat, gpc = n := ⟨gpc.toNat, by have := hp.p0; omega⟩
        have hCall := find_hit hC hg hlabs hlook hF hi hp w4 (by omega) hw
        have hges := hC.ges
        have H1 := Lib.hid hC
        have HG := Lib.hid hg
        have HLB := Lib.hid hlabs
        clear hC hg hlabs
        go_wp2_with fail
        refine hCall.mono ?_
        rintro e wf ⟨rfl, ⟨is', his, hC2⟩, hT2⟩
        rw [← his] at hC2
        have hC3 : Ctx wf wp.heap.size fc F gb gc cc gl cl (after L pc (ids.getD i 0) gN (ns.getD i 0) refUp) ls 2 refUp DL D1 (D2.del (kI 0)) nL n1 n2 := hC2
        have hnn := hp.nn
        have hset := hp.set
        have hpc : pc < L.length := by have := hp.p1; omega
        have hset' : ((ns.getD i 0) < gN ∧ refUp = true) → 1 ≤ pc := fun h => by have := (hset h).1; omega
        obtain ⟨M, hM⟩ : ∃ M, M = after L pc (ids.getD i 0) gN (ns.getD i 0) refUp := ⟨_, rfl⟩
        have hMl : M.length = L.length := by rw [hM]; exact after_len _ _ _ _ _ _
        have hMw := after_bd L pc (ids.getD i 0) gN (ns.getD i 0) refUp hpc hset' hw
        have hM2 := after_twice L pc (ids.getD i 0) gN (ns.getD i 0) refUp hpc hset'
        rw [← hM] at hMw hM2 hC3
        have hp2 : FlPre M.length pc gN (ids.getD i 0) (ns.getD i 0) refUp := by rw [hMl]; exact hp
        obtain ⟨i0, hi0, hz0, hz1, hz2⟩ := info_parts infoU32
        obtain ⟨_, _, m2, _⟩ := H1.out.own2
        obtain ⟨cu, hcu⟩ := owned_elem H1.out.code.codes
        have nlab : ∀ (b : Nat) (X : Array Value), w1.heap[b]? = some (.cells X 29 (0, 0)) → ¬ (b = gc ∨ b = F.M2) := by
          intro b X hb h
          rcases h with h | h
          · exact blocks_ne hb hcu (by simp) h
          · exact blocks_ne hb m2 (by simp) h
        have hg3 := hT2.heap HG.out (nlab _ _ HG.out)
        have hlabs3 := HLB.out.kept hT2 (fun j hj => nlab _ _ (HLB.out j hj))
        have hTT := hTT.trans' hT2 (fun j hj h => by
          have h1 : wp.heap.size ≤ gc := hges.2.2.1
          have h2 : wp.heap.size ≤ F.M2 := hges.2.2.2.2.2.2.2
          omega)
        have HLK := Lib.hid hlook
        have HFR := Lib.hid hF
        have HI := Lib.hid hi
        have HP2 := Lib.hid hp2
        have HM2 := Lib.hid hM2
        have HM0 := Lib.hid hM
        have HMW := Lib.hid hMw
        have hge0 : w.heap.size ≤ wf.heap.size := hTT.size
        clear hlook hF hi hp2 hM2 hM hMw hp hset hset' hC2 hT2 his nlab HG HLB H1 m2 hcu hges c4
        go_wp2_with (at_make; refine wpList_make_full _ rfl _ _ 22 rfl wf.heap.size 31 i0 (.int .u32 0) 1 Tryf.underlying22 hi0 hz0 hz1 .i64 .i64 _ _ L.length rfl rfl rfl rfl ?c2 ?c3 (Nat.le_refl _) ?_)
        case c2 => rw [hz2]; omega
        case c3 => exact hm
        intro wk hown hgrow
        have T4 : Turn wf wk (fun _ => False) := (Turn.refl wf _).grown hgrow (fun k hk _ => by cases hk)
        have hC4 := hC3.same T4
        have hg4 := T4.heap hg3 id
        have hlabs4 := hlabs3.kept T4 (fun _ _ => id)
        have hTT4 := hTT.trans T4
        have hCl := hC3.lt
        have hgl := lt_of_block hg3
        have hll : ∀ j, j < K.length → (K.getD j Lab.zero).b < wf.heap.size := fun j hj => lt_of_block (hlabs3 j hj)
        obtain ⟨Xs, hXl, hown⟩ : ∃ Xs : List Value, Xs.length = L.length * 1 ∧ wk.ownsRow wf.heap.size 31 1 (.slice (some ⟨wf.heap.size, 0, none⟩) L.length L.length) L.length Xs := ⟨_, hown.1, hown⟩
        generalize hq : wf.heap.size = q at *
        have HC4 := Lib.hid hC4
        have HG4 := Lib.hid hg4
        have HL4 := Lib.hid hlabs4
        have HT4 := Lib.hid hTT4
        have HO4 := Lib.hid hown
        clear hC3 hg3 hlabs3 hTT T4 hgrow hC4 hg4 hlabs4 hTT4 hown
        go_wp2
        go_loopw [21] (fun i wr => ∃ (k : Nat) (Xs : List Value), k ≤ L.length ∧ i = .int .i64 k ∧ Xs.length = L.length * 1 ∧ wr.ownsRow q 31 1 (.slice (some ⟨q, 0, none⟩) L.length L.length) L.length Xs ∧ (∀ j, j < k → Xs[j]? = some (.int .u32 (M.getD j 0))) ∧
          Ctx wr wp.heap.size fc F gb gc cc gl cl M ls 2 refUp DL D1 (D2.del (kI 0)) nL n1 n2 ∧ wr.heap[g]? = some (.cells #[.int .i64 0, .string s, .int .i64 pc, .int .i64 1, .int .i64 gN] 29 (0, 0)) ∧ LabsAt wr K ∧ Turn w wr (fun _ => False)) (fun i _ => L.length - (intOf i).toNat)
        case atStart => exact ⟨0, Xs, Nat.zero_le _, rfl, hXl, HO4.out, fun j hj => absurd hj (by omega), HC4.out, HG4.out, HL4.out, HT4.out⟩
        case round =>
          clear HC4 HG4 HL4 HT4 HO4 hXl
          obtain ⟨k, Ys, hk, rfl, hYl, hrow, hY, hC, hg, hlabs, hT⟩ := hrel
          have c1 := cell_of_blk hC.blk 1 (.pointer (some ⟨F.c, 0, none⟩)) rfl
          by_cases hlt : k < L.length
          · have hA := at_any wp.heap.size F.c gc cc gl cl M ls k wr hC.code (by omega) (by omega)
            have hcell := hrow.cellAt k (by omega)
            rw [List.getElem?_eq_getElem (by omega)] at hcell
            have hfr := hrow.frozenAt k
            obtain ⟨x, hx⟩ : ∃ x, x = M.getD k 0 := ⟨_, rfl⟩
            rw [← hx] at hA
            generalize Ys[k]'(by omega) = y at hcell
            have hrow2 := (hrow.stored k (.int .u32 x)).1
            have T := (Turn.refl wr (fun b => b = q)).setCell (p := ⟨q, k, none⟩) (fun _ => rfl) (.int .u32 x)
            have hC2 := hC.kept T (hCl.mono (fun b (hb : b < q) (h : b = q) => by omega))
            have hg2 := T.heap hg (fun h => by omega)
            have hlabs2 := hlabs.kept T (fun j hj h => by have := hll j hj; omega)
            have hT2 := hT.trans' T (fun j hj h => by omega)
            have hY2 : ∀ j, j < k + 1 → (Ys.set k (.int .u32 x))[j]? = some (.int .u32 (M.getD j 0)) := by
              intro j hj
              by_cases e : j = k
              · subst e; rw [← hx, List.getElem?_set_self (by omega)]
              · rw [List.getElem?_set_ne (fun h => e h.symm)]; exact hY j (by omega)
            have R1 := Lib.hid hrow2
            have R2 := Lib.hid hC2
            have R3 := Lib.hid hg2
            have R4 := Lib.hid hlabs2
            have R5 := Lib.hid hT2
            have R6 := Lib.hid hY2
            have R7 : (Ys.set k (.int .u32 x)).length = L.length * 1 := by simpa using hYl
            have R8 := Lib.hid R7
            clear hrow hrow2 T hC hC2 hg hg2 hlabs hlabs2 hT hT2 hY hY2 hx R7 hYl
            go_wp2_with fail
            refine hA.mono ?_
            rintro e w' ⟨rfl, rfl⟩
            clear hA
            go_wp2
            go_roundw
            case rel => exact ⟨k + 1, _, by omega, by go_num, R8.out, R1.out, R6.out, R2.out, R3.out, R4.out, R5.out⟩
            case measure => simp [intOf]; omega
          · have he : k = L.length := by omega
            subst he
            clear hlt c1
            have c4 := cell_of_blk hC.blk 4 (.pointer (some ⟨F.b + 1, 0, none⟩)) rfl
            have hCall := find_hit hC hg hlabs HLK.out HFR.out HI.out HP2.out w4 (by omega) HMW.out
            have hbq : ∀ b, b < q → ¬ b = q := fun b hb => by omega
            obtain ⟨_, _, _, _⟩ := hC.own2
            have hq2 : ¬ (q = gc ∨ q = F.M2) := fun h => by
              have h1 : gc < q := hCl.2.2.1
              have h2 : F.M2 < q := hCl.2.2.2.2.2.2.2
              omega
            have hges := hC.ges
            have R1 := Lib.hid hrow
            have R2 := Lib.hid hY
            have R3 := Lib.hid hT
            clear hC hg hlabs hrow hY hT
            go_wp2_with fail
            refine hCall.mono ?_
            rintro e wg ⟨rfl, ⟨is', his, hC2⟩, hT2⟩
            rw [← his] at hC2
            have hC3 : Ctx wg wp.heap.size fc F gb gc cc gl cl (after M pc (ids.getD i 0) gN (ns.getD i 0) refUp) ls 2 refUp DL D1 ((D2.del (kI 0)).del (kI 0)) nL n1 n2 := hC2
            have hrow := hT2.ownsRow R1.out (fun b hb => by cases hb; exact hq2)
            have hY := R2.out
            have hTT := R3.out.trans' hT2 (fun j hj h => by
              have h1 : wp.heap.size ≤ gc := hges.2.2.1
              have h2 : wp.heap.size ≤ F.M2 := hges.2.2.2.2.2.2.2
              omega)
            have hbel := hTT.below (Nat.le_refl _) (fun _ h => h.elim)
            have hM2 := HM2.out
            obtain ⟨N, hN⟩ : ∃ N, N = after M pc (ids.getD i 0) gN (ns.getD i 0) refUp := ⟨_, rfl⟩
            have hNl : N.length = M.length := by rw [hN]; exact after_len _ _ _ _ _ _
            have hd0 : Maps.has ((D2.del (kI 0)).del (kI 0)) (kI 0) = false := has_del_same
            rw [← hN] at hC3 hM2
            have HX := Lib.hid hM2
            clear hC2 hT2 his R1 R2 R3 hTT hges hq2 hbq c4 hM2 hN HM2 HMW HM0 HP2 HI HFR HLK
            go_wp2
            go_loopw [23] (fun i wr => (∃ k : Nat, k ≤ L.length ∧ i = .int .i64 k) ∧ Turn wg wr (fun _ => False)) (fun i _ => L.length - (intOf i).toNat)
            case atStart => exact ⟨⟨0, Nat.zero_le _, rfl⟩, Turn.refl _ _⟩
            case round =>
              obtain ⟨⟨k, hk, rfl⟩, hTz⟩ := hrel
              have hCz := hC3.same hTz
              have hrz := hTz.ownsRow hrow (fun _ _ => id)
              have hbz := hbel.trans (hTz.below hbel.size (fun _ h => h.elim))
              clear hC3 hrow hbel
              have c1 := cell_of_blk hCz.blk 1 (.pointer (some ⟨F.c, 0, none⟩)) rfl
              by_cases hlt : k < L.length
              · have hcell := hrz.cellAt k (by omega)
                rw [hY k hlt] at hcell
                have hA := fun n => at_any wp.heap.size F.c gc cc gl cl N ls k (wr.drewN n) (hCz.same (drewN_turn wr n _)).code (by omega) (by omega)
                rw [HX.out k] at hA
                have hQ := fun n => quiet_at (hA n)
                generalize M.getD k 0 = x at hQ hcell
                clear hCz hrz hY hd0 hA
                go_wp2_with fail
                go_quiet (exact hQ _)
                clear hQ
                go_wp2
                go_roundw
                case rel => exact ⟨⟨k + 1, by omega, by go_num⟩, hTz.trans (drewN_turn _ _ _)⟩
                case measure => simp [intOf]; omega
              · have he : k = L.length := by omega
                have hQ0 := hasGoto_any wp.heap.size fc F gb gc cc gl cl N ls 2 refUp DL D1 ((D2.del (kI 0)).del (kI 0)) nL n1 n2 0 wr hCz (by decide)
                rw [hd0] at hQ0
                subst he
                clear hlt c1 hCz hd0 hrz hY
                go_wp2_with fail
                refine hQ0.mono ?_
                rintro e w' ⟨rfl, rfl⟩
                clear hQ0
                go_wp2
                go_ret
                exact ⟨rfl, hbz⟩
      · have hnl := hlook.none s (no_lab hF hno)
        have hCall := findLabel_none wp.heap.size fc F gb gc cc gl cl L ls 2 refUp DL D1 D2 nL n1 n2 0 g s w1 hC w4 (cell_of_blk hg 1 (.string s) rfl) hnl
        have H1 := Lib.hid hC
        have HG := Lib.hid hg
        have HLB := Lib.hid hlabs
        clear hC hg hlabs hpre hlook hF hno
        go_wp2_with fail
        refine hCall.mono ?_
        rintro e wf ⟨rfl, hT2⟩
        have hC3 := H1.out.same hT2
        have hg3 := hT2.heap HG.out id
        have hlabs3 := HLB.out.kept hT2 (fun _ _ => id)
        have hTT := hTT.trans hT2
        obtain ⟨i0, hi0, hz0, hz1, hz2⟩ := info_parts infoU32
        have HNL := Lib.hid hnl
        have hge0 : w.heap.size ≤ wf.heap.size := hTT.size
        have hd0 : Maps.has D2 (kI 0) = true := by rw [hD2]; decide
        clear hT2 HG HLB H1 c4 hnl hD2 hCall
        go_wp2_with (at_make; refine wpList_make_full _ rfl _ _ 22 rfl wf.heap.size 31 i0 (.int .u32 0) 1 Tryf.underlying22 hi0 hz0 hz1 .i64 .i64 _ _ L.length rfl rfl rfl rfl ?c2 ?c3 (Nat.le_refl _) ?_)
        case c2 => rw [hz2]; omega
        case c3 => exact hm
        intro wk hown hgrow
        have T4 : Turn wf wk (fun _ => False) := (Turn.refl wf _).grown hgrow (fun k hk _ => by cases hk)
        have hC4 := hC3.same T4
        have hg4 := T4.heap hg3 id
        have hlabs4 := hlabs3.kept T4 (fun _ _ => id)
        have hTT4 := hTT.trans T4
        have hCl := hC3.lt
        have hgl := lt_of_block hg3
        have hll : ∀ j, j < K.length → (K.getD j Lab.zero).b < wf.heap.size := fun j hj => lt_of_block (hlabs3 j hj)
        obtain ⟨Xs, hXl, hown⟩ : ∃ Xs : List Value, Xs.length = L.length * 1 ∧ wk.ownsRow wf.heap.size 31 1 (.slice (some ⟨wf.heap.size, 0, none⟩) L.length L.length) L.length Xs := ⟨_, hown.1, hown⟩
        generalize hq : wf.heap.size = q at *
        have HC4 := Lib.hid hC4
        have HG4 := Lib.hid hg4
        have HL4 := Lib.hid hlabs4
        have HT4 := Lib.hid hTT4
        have HO4 := Lib.hid hown
        clear hC3 hg3 hlabs3 hTT T4 hgrow hC4 hg4 hlabs4 hTT4 hown
        go_wp2
        go_loopw [21] (fun i wr => ∃ (k : Nat) (Xs : List Value), k ≤ L.length ∧ i = .int .i64 k ∧ Xs.length = L.length * 1 ∧ wr.ownsRow q 31 1 (.slice (some ⟨q, 0, none⟩) L.length L.length) L.length Xs ∧ (∀ j, j < k → Xs[j]? = some (.int .u32 (L.getD j 0))) ∧
          Ctx wr wp.heap.size fc F gb gc cc gl cl L ls 2 refUp DL D1 D2 nL n1 n2 ∧ wr.heap[g]? = some (.cells #[.int .i64 0, .string s, .int .i64 gpc, .int .i64 1, .int .i64 gN] 29 (0, 0)) ∧ LabsAt wr K ∧ Turn w wr (fun _ => False)) (fun i _ => L.length - (intOf i).toNat)
        case atStart => exact ⟨0, Xs, Nat.zero_le _, rfl, hXl, HO4.out, fun j hj => absurd hj (by omega), HC4.out, HG4.out, HL4.out, HT4.out⟩
        case round =>
          clear HC4 HG4 HL4 HT4 HO4 hXl
          obtain ⟨k, Ys, hk, rfl, hYl, hrow, hY, hC, hg, hlabs, hT⟩ := hrel
          have c1 := cell_of_blk hC.blk 1 (.pointer (some ⟨F.c, 0, none⟩)) rfl
          by_cases hlt : k < L.length
          · have hA := at_any wp.heap.size F.c gc cc gl cl L ls k wr hC.code (by omega) (by omega)
            have hcell := hrow.cellAt k (by omega)
            rw [List.getElem?_eq_getElem (by omega)] at hcell
            have hfr := hrow.frozenAt k
            obtain ⟨x, hx⟩ : ∃ x, x = L.getD k 0 := ⟨_, rfl⟩
            rw [← hx] at hA
            generalize Ys[k]'(by omega) = y at hcell
            have hrow2 := (hrow.stored k (.int .u32 x)).1
            have T := (Turn.refl wr (fun b => b = q)).setCell (p := ⟨q, k, none⟩) (fun _ => rfl) (.int .u32 x)
            have hC2 := hC.kept T (hCl.mono (fun b (hb : b < q) (h : b = q) => by omega))
            have hg2 := T.heap hg (fun h => by omega)
            have hlabs2 := hlabs.kept T (fun j hj h => by have := hll j hj; omega)
            have hT2 := hT.trans' T (fun j hj h => by omega)
            have hY2 : ∀ j, j < k + 1 → (Ys.set k (.int .u32 x))[j]? = some (.int .u32 (L.getD j 0)) := by
              intro j hj
              by_cases e : j = k
              · subst e; rw [← hx, List.getElem?_set_self (by omega)]
              · rw [List.getElem?_set_ne (fun h => e h.symm)]; exact hY j (by omega)
            have R1 := Lib.hid hrow2
            have R2 := Lib.hid hC2
            have R3 := Lib.hid hg2
            have R4 := Lib.hid hlabs2
            have R5 := Lib.hid hT2
            have R6 := Lib.hid hY2
            have R7 : (Ys.set k (.int .u32 x)).length = L.length * 1 := by simpa using hYl
            have R8 := Lib.hid R7
            clear hrow hrow2 T hC hC2 hg hg2 hlabs hlabs2 hT hT2 hY hY2 hx R7 hYl
            go_wp2_with fail
            refine hA.mono ?_
            rintro e w' ⟨rfl, rfl⟩
            clear hA
            go_wp2
            go_roundw
            case rel => exact ⟨k + 1, _, by omega, by go_num, R8.out, R1.out, R6.out, R2.out, R3.out, R4.out, R5.out⟩
            case measure => simp [intOf]; omega
          · have he : k = L.length := by omega
            subst he
            clear hlt c1
            have c4 := cell_of_blk hC.blk 4 (.pointer (some ⟨F.b + 1, 0, none⟩)) rfl
            have hCall := findLabel_none wp.heap.size fc F gb gc cc gl cl L ls 2 refUp DL D1 D2 nL n1 n2 0 g s wr hC w4 (cell_of_blk hg 1 (.string s) rfl) HNL.out
            have R1 := Lib.hid hrow
            have R2 := Lib.hid hY
            have R3 := Lib.hid hT
            have R4 := Lib.hid hC
            clear hC hg hlabs hrow hY hT
            go_wp2_with fail
            refine hCall.mono ?_
            rintro e wg ⟨rfl, hT2⟩
            have hC3 := R4.out.same hT2
            have hrow := hT2.ownsRow R1.out (fun _ _ => id)
            have hY := R2.out
            have hbel := (R3.out.trans hT2).below (Nat.le_refl _) (fun _ h => h.elim)
            clear hT2 R1 R2 R3 R4 c4 hCall
            go_wp2
            go_loopw [23] (fun i wr => (∃ k : Nat, k ≤ L.length ∧ i = .int .i64 k) ∧ Turn wg wr (fun _ => False)) (fun i _ => L.length - (intOf i).toNat)
            case atStart => exact ⟨⟨0, Nat.zero_le _, rfl⟩, Turn.refl _ _⟩
            case round =>
              obtain ⟨⟨k, hk, rfl⟩, hTz⟩ := hrel
              have hCz := hC3.same hTz
              have hrz := hTz.ownsRow hrow (fun _ _ => id)
              have hbz := hbel.trans (hTz.below hbel.size (fun _ h => h.elim))
              clear hC3 hrow hbel
              have c1 := cell_of_blk hCz.blk 1 (.pointer (some ⟨F.c, 0, none⟩)) rfl
              by_cases hlt : k < L.length
              · have hcell := hrz.cellAt k (by omega)
                rw [hY k hlt] at hcell
                have hA := fun n => at_any wp.heap.size F.c gc cc gl cl L ls k (wr.drewN n) (hCz.same (drewN_turn wr n _)).code (by omega) (by omega)
                have hQ := fun n => quiet_at (hA n)
                generalize L.getD k 0 = x at hQ hcell
                clear hCz hrz hY hd0 hA
                go_wp2_with fail
                go_quiet (exact hQ _)
                clear hQ
                go_wp2
                go_roundw
                case rel => exact ⟨⟨k + 1, by omega, by go_num⟩, hTz.trans (drewN_turn _ _ _)⟩
                case measure => simp [intOf]; omega
              · have he : k = L.length := by omega
                have hQ0 := hasGoto_any wp.heap.size fc F gb gc cc gl cl L ls 2 refUp DL D1 D2 nL n1 n2 0 wr hCz (by decide)
                rw [hd0] at hQ0
                subst he
                clear hlt c1 hCz hd0 hrz hY
                go_wp2_with fail
                refine hQ0.mono ?_
                rintro e w' ⟨rfl, rfl⟩
                clear hQ0
                go_wp2
                go_ret
                exact ⟨rfl, hbz⟩
end Go.Proofs.YtdhmpfijdmlfoaaFmt
