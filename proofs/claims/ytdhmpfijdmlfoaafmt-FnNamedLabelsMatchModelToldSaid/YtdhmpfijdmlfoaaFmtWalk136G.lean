/- The walk of FnNamedLabelsMatchModel: it returns true. -/
import Derived.Test.YtdhmpfijdmlfoaaFmtWalk136F
import Derived.Test.YtdhmpfijdmlfoaaFmtWalk136A
import Derived.BigQuiet
namespace Go.Proofs.YtdhmpfijdmlfoaaFmt
open Go.RowKit Go.Maps
set_option linter.unusedVariables false

set_option maxRecDepth 100000 in
set_option maxHeartbeats 4000000 in
theorem walk_FnNamedLabelsMatchModel (na : Option Addr) (nlen nc : Nat) (nss : List ByteArray) (ia : Option Addr) (ilen ic : Nat) (izs : List Int) (pa : Option Addr) (plen pc : Nat) (pzs : List Int) (qa : Option Addr) (qlen qc : Nat) (qss : List ByteArray) (w : World)
    (hn : IsStrs w na nlen nc nss) (hi : IsRow .i64 w ia ilen ic izs) (hp : IsRow .i64 w pa plen pc pzs) (hq : IsStrs w qa qlen qc qss) :
    Calls Tryf.prog 7 #[.slice na nlen nc, .slice ia ilen ic, .slice pa plen pc, .slice qa qlen qc] w fun e w' => e = .returned (.bool true) ∧ Below w.heap.size w w' := by
  obtain ⟨names, rfl, Sn, zn, mn, _⟩ := hn.open
  obtain ⟨ids, rfl, Si, zi, mi, _⟩ := hi.open
  obtain ⟨pcs, rfl, Sp, zp, mp, _⟩ := hp.open
  obtain ⟨Q, rfl, Sq, zq, mq, _⟩ := hq.open
  clear hn hi hp hq
  go_enter Tryf.func7, Tryf.ntmps7
  go_wp2_with fail
  refine (zzB_FnNamedLabelsMatchModel na nc names ia ids.length ic pa pcs.length pc qa qc Q _ Sn mn zn mi mp Sq mq zq).mono ?_
  rintro e w' ⟨b, rfl, hb, rfl⟩
  cases b with
  | false =>
    go_wp2
    go_ret
    exact ⟨rfl, Below.refl _ _⟩
  | true =>
    have hb1 := hb rfl
    clear hb
    by_cases q1 : 4096 < names.length
    · go_wp2
      go_ret
      exact ⟨rfl, Below.refl _ _⟩
    by_cases q2 : 4096 < ids.length
    · go_wp2
      go_ret
      exact ⟨rfl, Below.refl _ _⟩
    by_cases q3 : 4096 < pcs.length
    · go_wp2
      go_ret
      exact ⟨rfl, Below.refl _ _⟩
    by_cases q4 : 4096 < Q.length
    · go_wp2
      go_ret
      exact ⟨rfl, Below.refl _ _⟩
    go_wp2_with fail
    refine (stringsBytes_any na nc names _ Sn (by omega) (by omega)).mono ?_
    rintro e w' ⟨rfl, rfl⟩
    go_wp2_with fail
    refine (stringsBytes_any qa qc Q _ Sq (by omega) (by omega)).mono ?_
    rintro e w' ⟨rfl, rfl⟩
    generalize hsz : sumSizes names = sz at hb1 ⊢
    generalize hsq : sumSizes Q = sq at hb1 ⊢
    have HSZ := Lib.hid hsz
    have HSQ := Lib.hid hsq
    clear hsz hsq
    by_cases q5 : 1048576 < 16 * names.length + sz + (16 * Q.length + sq) + 8 * ids.length + 8 * pcs.length
    · have q5' : (1048576 : Int) < 16 * (names.length : Int) + (sz : Int) + (16 * (Q.length : Int) + (sq : Int)) + 8 * (ids.length : Int) + 8 * (pcs.length : Int) := by omega
      go_wp2
      go_ret
      exact ⟨rfl, Below.refl _ _⟩
    have q5' : ¬ (1048576 : Int) < 16 * (names.length : Int) + (sz : Int) + (16 * (Q.length : Int) + (sq : Int)) + 8 * (ids.length : Int) + 8 * (pcs.length : Int) := by omega
    go_wp2_with fail
    refine (zzMin3_any names.length ids.length pcs.length _).mono ?_
    rintro e w' ⟨rfl, rfl⟩
    obtain ⟨m, hmm⟩ : ∃ m, m = min (min names.length ids.length) pcs.length := ⟨_, rfl⟩
    rw [← hmm]
    have hmn : m ≤ names.length := by omega
    clear hmm q5 q5'
    go_wp2_with fail
    refine (ZZnewFc_any _ _).mono ?_
    intro e w1 hmade
    obtain ⟨fc, F, g, rfl, hC, hT, _⟩ := hmade.ctx
    clear hmade
    have hb1' := hT.below (Nat.le_refl _) (fun _ h => h.elim)
    have Sn1 := strs_later hb1' Sn
    have Si1 := ints_later hb1' Si
    have Sp1 := ints_later hb1' Sp
    go_wp2_with fail
    refine (addDistinct_any w.heap.size fc F (.slice (some ⟨g, 0, none⟩) 1 1, none) F.gc 1024 F.gl 1024 [] [] 0 false (.map []) (.map []) (.map []) 0 0 0 na nc names ia ic ids pa pc pcs none 0 [] m _ hC (fun s => rfl) hT.size Sn1 Si1 Sp1 (fun k hk => absurd hk (by simp)) (by omega) (by omega) (by omega) (by omega) (by simp) (by omega) (by omega) zn zi zp).mono ?_
    rintro e w2 ⟨gk, capk, K, DL, D1, nL, n1, rfl, hD, hF, hnL, hn1⟩
    have hT2 : Turn w w2 (fun _ => False) := hT.trans' hD.turn (fun j hj h => by
      have := hC.bge
      have := hC.m1ge
      omega)
    have hC2 := hD.ctx
    have hrow := hD.row
    have hlabs := hD.labs
    have hKl := hF.len
    have HLK := Lib.hid hD.look
    have HDI := Lib.hid hD.dist
    have HPC := Lib.hid hD.pcs
    have hKn : ∀ j, j < K.length → (K.getD j Lab.zero).name.size ≤ maxLen := fun j hj => by
      obtain ⟨i, h1, _, h3, _⟩ := hF.src j hj
      rw [h3]
      exact zn _ (by simp [List.getD, show i < names.length from by omega])
    have hKi : ∀ j, j < K.length → (Lit.int .i64 (K.getD j Lab.zero).id).wf = true := fun j hj => by
      obtain ⟨i, h1, _, _, h4, _⟩ := hF.src j hj
      rw [h4]
      exact getD_wf zi i
    clear hC hT hD hb1' Sn1 Si1 Sp1 Sn Si Sp hF zn zi zp
    go_wp2
    go_loopw [12] (fun i wr => (∃ k : Nat, k ≤ K.length ∧ i = .int .i64 k) ∧ Turn w2 wr (fun _ => False)) (fun i _ => K.length - (intOf i).toNat)
    case atStart => exact ⟨⟨0, Nat.zero_le _, rfl⟩, Turn.refl _ _⟩
    case round =>
      obtain ⟨⟨k, hk, rfl⟩, hTz⟩ := hrel
      have hCz := hC2.same hTz
      have hrz := hTz.ownsRow hrow (fun _ _ => id)
      have hlz := hlabs.kept hTz (fun _ _ => id)
      have hTw := hT2.trans hTz
      by_cases hlt : k < K.length
      · have hc := row_cell hrz k hlt
        have hd := cell_of_blk (hlz k hlt) 1 (.string (K.getD k Lab.zero).name) rfl
        have hQ := fun n => getNamed_quiet w.heap.size fc F (.slice (some ⟨g, 0, none⟩) 1 1, none) F.gc 1024 F.gl 1024 [] [] 0 false DL D1 (.map []) nL n1 0 (K.getD k Lab.zero).name wr hCz (hKn k hlt) n
        rw [look_ptr HLK.out k hlt] at hQ
        generalize (K.getD k Lab.zero).name = x at hd hQ
        generalize (K.getD k Lab.zero).b = bk at hc hd hQ
        clear hCz hrz hlz hC2 hrow hlabs hKn hKi
        go_wp2_with fail
        go_quiet (exact hQ _)
        clear hQ
        go_wp2
        go_roundw
        case rel => exact ⟨⟨k + 1, by omega, by go_num⟩, hTz.trans (drewN_turn _ _ _)⟩
        case measure => simp [intOf]; omega
      · have he : k = K.length := by omega
        subst he
        clear hlt hC2 hrow hlabs hT2
        go_wp2
        go_loopw [13] (fun i wr' => (∃ k : Nat, k ≤ Q.length ∧ i = .int .i64 k) ∧ Turn wr wr' (fun _ => False)) (fun i _ => Q.length - (intOf i).toNat)
        case atStart => exact ⟨⟨0, Nat.zero_le _, rfl⟩, Turn.refl _ _⟩
        case round =>
          rename_i wq _
          obtain ⟨⟨k, hk, rfl⟩, hTy⟩ := hrel
          have hCy := hCz.same hTy
          have hry := hTy.ownsRow hrz (fun _ _ => id)
          have hly := hlz.kept hTy (fun _ _ => id)
          have hTw' := hTw.trans hTy
          have hbel := hTw'.below (Nat.le_refl _) (fun _ h => h.elim)
          by_cases hlt : k < Q.length
          · obtain ⟨bq, oq, rfl, hc⟩ := strs_later hbel Sq k hlt
            have hxs : (Q.getD k ByteArray.empty).size ≤ maxLen := zq _ (by simp [List.getD, hlt])
            generalize Q.getD k ByteArray.empty = x at hc hxs
            have hQ1 := fun n => getNamed_quiet w.heap.size fc F (.slice (some ⟨g, 0, none⟩) 1 1, none) F.gc 1024 F.gl 1024 [] [] 0 false DL D1 (.map []) nL n1 0 x wr hCy hxs n
            have hQ2 := fun n => find_quiet (DL := DL) x hry hly (by omega) HLK.out HDI.out n
            have hpt := ptr_or HLK.out HDI.out x
            generalize ptrOf (DL.atKey (kS x) .nil) = v at hQ1 hQ2 hpt
            clear hCy hry hly hCz hrz hlz Sq hKn hKi hbel hTw' hTw
            rcases hpt with rfl | ⟨b, rfl⟩
            · go_wp2_with fail
              go_quiet ((first | (go_at_call 24; exact hQ1 _) | (go_at_call 26; exact hQ2 _)))
              clear hQ1 hQ2
              go_wp2
              go_roundw
              case rel => exact ⟨⟨k + 1, by omega, by go_num⟩, hTy.trans (drewN_turn _ _ _)⟩
              case measure => simp [intOf]; omega
            · go_wp2_with fail
              go_quiet ((first | (go_at_call 24; exact hQ1 _) | (go_at_call 26; exact hQ2 _)))
              clear hQ1 hQ2
              go_wp2
              go_roundw
              case rel => exact ⟨⟨k + 1, by omega, by go_num⟩, hTy.trans (drewN_turn _ _ _)⟩
              case measure => simp [intOf]; omega
          · have he : k = Q.length := by omega
            subst he
            clear hlt hCz hrz hlz hTw Sq hTz hTy hbel
            go_wp2
            go_loopw [14] (fun i wr' => (∃ k : Nat, k ≤ K.length ∧ i = .int .i64 k) ∧ Turn wr wr' (fun _ => False)) (fun i _ => K.length - (intOf i).toNat)
            case atStart => exact ⟨⟨0, Nat.zero_le _, rfl⟩, Turn.refl _ _⟩
            case round =>
              obtain ⟨⟨j, hj, rfl⟩, hTx⟩ := hrel
              have hCx := hCy.same hTx
              have hrx := hTx.ownsRow hry (fun _ _ => id)
              have hlx := hly.kept hTx (fun _ _ => id)
              have hTw := hTw'.trans hTx
              by_cases hlt : j < K.length
              · have hcj := row_cell hrx j hlt
                have hdj := cell_of_blk (hlx j hlt) 0 (.int .i64 (K.getD j Lab.zero).id) rfl
                obtain ⟨xj, hxj⟩ : ∃ x, x = (K.getD j Lab.zero).id := ⟨_, rfl⟩
                obtain ⟨bj, hbj⟩ : ∃ x, x = (K.getD j Lab.zero).b := ⟨_, rfl⟩
                have wj : (Lit.int .i64 xj).wf = true := by rw [hxj]; exact hKi j hlt
                rw [← hxj, ← hbj] at hdj
                rw [← hbj] at hcj
                have HXJ := Lib.hid hxj
                clear hxj hbj hCy hry hly hTw' hKn hKi
                go_wp2
                go_loopw [15, 16] (fun v i wr' => (∃ k : Nat, k ≤ K.length ∧ v = .int .i64 0 ∧ i = .int .i64 ((k : Int) - 1) ∧ ∀ t, k ≤ t → t < K.length → (K.getD t Lab.zero).id ≠ xj) ∧ Turn wr wr' (fun _ => False)) (fun _ i _ => (intOf i + 1).toNat)
                case atStart => exact ⟨⟨K.length, Nat.le_refl _, rfl, rfl, fun t h1 h2 => absurd h2 (by omega)⟩, Turn.refl _ _⟩
                case round =>
                  obtain ⟨⟨k, hk, rfl, rfl, hne⟩, hTv⟩ := hrel
                  have HNE := Lib.hid hne
                  clear hne
                  cases k with
                  | zero => exact absurd HXJ.out.symm (HNE.out j (by omega) hlt)
                  | succ k =>
                    have e1 : ((k + 1 : Nat) : Int) - 1 = (k : Int) := by omega
                    rw [e1]
                    have hCv := hCx.same hTv
                    have hrv := hTv.ownsRow hrx (fun _ _ => id)
                    have hlv := hlx.kept hTv (fun _ _ => id)
                    have hTv2 := hTw.trans hTv
                    have hcj' := hTv.cell hcj id
                    have hdj' := hTv.cell hdj id
                    have hck := row_cell hrv k (by omega)
                    have hdk := cell_of_blk (hlv k (by omega)) 0 (.int .i64 (K.getD k Lab.zero).id) rfl
                    have hpk := cell_of_blk (hlv k (by omega)) 2 (.int .i64 (K.getD k Lab.zero).pc) rfl
                    obtain ⟨xk, hxk⟩ : ∃ x, x = (K.getD k Lab.zero).id := ⟨_, rfl⟩
                    obtain ⟨pk, hpk'⟩ : ∃ x, x = (K.getD k Lab.zero).pc := ⟨_, rfl⟩
                    obtain ⟨bk, hbk⟩ : ∃ x, x = (K.getD k Lab.zero).b := ⟨_, rfl⟩
                    rw [← hxk, ← hbk] at hdk
                    rw [← hpk', ← hbk] at hpk
                    rw [← hbk] at hck
                    have hkl : k < K.length := by omega
                    clear hcj hdj hrx hlx hrv hlv e1
                    by_cases heq : xk = xj
                    · have hpc : ∀ z, D1.atKey (kI xj) z = .lit (.int .i64 pk) := by
                        intro z
                        have := HPC.out k hkl (fun t h1 h2 => by rw [← hxk, heq]; exact HNE.out t h1 h2) z
                        rwa [← hxk, ← hpk', heq] at this
                      subst heq
                      have HP := Lib.hid hpc
                      clear hxk hpk' hbk hpc hCx
                      go_wp2_with fail
                      go_quiet (fail)
                      have hCq := hCv.same (drewN_turn wr nq _)
                      have hTq := hTv.trans (drewN_turn wr nq _)
                      have hcq : (wr.drewN nq).cell? ⟨gk, j, none⟩ = some (.pointer (some ⟨bj, 0, none⟩)) := hcj'
                      have hdq : (wr.drewN nq).cell? ⟨bj, 0, none⟩ = some (.int .i64 xk) := hdj'
                      have hck2 : (wr.drewN nq).cell? ⟨gk, k, none⟩ = some (.pointer (some ⟨bk, 0, none⟩)) := hck
                      have hpk2 : (wr.drewN nq).cell? ⟨bk, 2, none⟩ = some (.int .i64 pk) := hpk
                      have hG := getLabelPc_any w.heap.size fc F (.slice (some ⟨g, 0, none⟩) 1 1, none) F.gc 1024 F.gl 1024 [] [] 0 false DL D1 (.map []) nL n1 0 xk (wr.drewN nq) hCq wj
                      clear hCv hTv hcj' hdj' hck hpk hdk hCq hTv2
                      generalize wr.drewN nq = wv at *
                      go_wp2_with fail
                      refine hG.mono ?_
                      rintro e w' ⟨⟨cc, rfl, hat⟩, rfl⟩
                      have hcp : cc = pk := by
                        rw [HP.out] at hat
                        have h1 : (Lit.int .i64 pk) = .int .i64 cc := by injection hat
                        have h2 : pk = cc := by injection h1
                        exact h2.symm
                      subst hcp
                      clear hG hat
                      go_wp2
                      go_roundw
                      case rel => exact ⟨⟨j + 1, by omega, by go_num⟩, hTx.trans hTq⟩
                      case measure => simp [intOf]; omega
                    · have HXK := Lib.hid hxk
                      have HQ := Lib.hid heq
                      have hb := (show (xk == xj) = false from by simpa using heq)
                      clear hxk hpk' hbk hCx hCv heq
                      go_wp2_with fail
                      go_quiet (fail)
                      go_wp2
                      go_roundw
                      case rel =>
                        refine ⟨⟨k, by omega, rfl, by go_num, ?_⟩, hTv.trans (drewN_turn _ _ _)⟩
                        intro t h1 h2
                        rcases Nat.lt_or_eq_of_le h1 with h | h
                        · exact HNE.out t h h2
                        · rw [← h, ← HXK.out]; exact HQ.out
                      case measure => simp [intOf] <;> omega
              · have he : j = K.length := by omega
                subst he
                clear hlt hCy hry hly hTw' hCx hrx hlx
                have hbel := hTw.below (Nat.le_refl _) (fun _ h => h.elim)
                go_wp2
                go_ret
                exact ⟨rfl, hbel⟩
end Go.Proofs.YtdhmpfijdmlfoaaFmt
