/- The walk of FnInnerBlockLabelsShadowOuter: it returns true. -/
import Derived.Test.YtdhmpfijdmlfoaaFmtEnter136
import Derived.Test.YtdhmpfijdmlfoaaFmtWalk136A
import Derived.BigQuiet
namespace Go.Proofs.YtdhmpfijdmlfoaaFmt
open Go.RowKit Go.Maps
set_option linter.unusedVariables false

theorem sizes_of {names : List ByteArray} {ids pcs ns : List Int} {m : Nat} {K : List Lab} (hF : From names ids pcs ns m K) (hm : m ≤ names.length) (z : ∀ s ∈ names, s.size ≤ maxLen) : ∀ j, j < K.length → (K.getD j Lab.zero).name.size ≤ maxLen := fun j hj => by
  obtain ⟨i, h1, _, h3, _⟩ := hF.src j hj
  rw [h3]
  exact z _ (by simp [List.getD, show i < names.length from by omega])

set_option maxRecDepth 100000 in
set_option maxHeartbeats 4000000 in
theorem walk_FnInnerBlockLabelsShadowOuter (oa : Option Addr) (olen oc : Nat) (oss : List ByteArray) (ia : Option Addr) (ilen ic : Nat) (iss : List ByteArray) (qa : Option Addr) (qlen qc : Nat) (qss : List ByteArray) (w : World)
    (ho : IsStrs w oa olen oc oss) (hi : IsStrs w ia ilen ic iss) (hq : IsStrs w qa qlen qc qss) :
    Calls Tryf.prog 6 #[.slice oa olen oc, .slice ia ilen ic, .slice qa qlen qc] w fun e w' => e = .returned (.bool true) ∧ Below w.heap.size w w' := by
  obtain ⟨O, rfl, So, zo, mo, _⟩ := ho.open
  obtain ⟨I, rfl, Si, zi, mi, _⟩ := hi.open
  obtain ⟨Q, rfl, Sq, zq, mq, _⟩ := hq.open
  clear ho hi hq
  go_enter Tryf.func6, Tryf.ntmps6
  go_wp2_with fail
  refine (zzB_FnInnerBlockLabelsShadowOuter oa oc O ia ic I qa qc Q _ So mo zo Si mi zi Sq mq zq).mono ?_
  rintro e w' ⟨b, rfl, hb, rfl⟩
  cases b with
  | false =>
    go_wp2
    go_ret
    exact ⟨rfl, Below.refl _ _⟩
  | true =>
    have hb1 := hb rfl
    clear hb
    by_cases q1 : 4096 < O.length
    · go_wp2
      go_ret
      exact ⟨rfl, Below.refl _ _⟩
    by_cases q2 : 4096 < I.length
    · go_wp2
      go_ret
      exact ⟨rfl, Below.refl _ _⟩
    by_cases q3 : 4096 < Q.length
    · go_wp2
      go_ret
      exact ⟨rfl, Below.refl _ _⟩
    go_wp2_with fail
    refine (stringsBytes_any oa oc O _ So (by omega) (by omega)).mono ?_
    rintro e w' ⟨rfl, rfl⟩
    go_wp2_with fail
    refine (stringsBytes_any ia ic I _ Si (by omega) (by omega)).mono ?_
    rintro e w' ⟨rfl, rfl⟩
    go_wp2_with fail
    refine (stringsBytes_any qa qc Q _ Sq (by omega) (by omega)).mono ?_
    rintro e w' ⟨rfl, rfl⟩
    generalize hso : sumSizes O = so at hb1 ⊢
    generalize hsi : sumSizes I = si at hb1 ⊢
    generalize hsq : sumSizes Q = sq at hb1 ⊢
    have H1 := Lib.hid hso
    have H2 := Lib.hid hsi
    have H3 := Lib.hid hsq
    clear hso hsi hsq
    by_cases q5 : 1048576 < 16 * O.length + so + (16 * I.length + si) + (16 * Q.length + sq)
    · have q5' : (1048576 : Int) < 16 * (O.length : Int) + (so : Int) + (16 * (I.length : Int) + (si : Int)) + (16 * (Q.length : Int) + (sq : Int)) := by omega
      go_wp2
      go_ret
      exact ⟨rfl, Below.refl _ _⟩
    have q5' : ¬ (1048576 : Int) < 16 * (O.length : Int) + (so : Int) + (16 * (I.length : Int) + (si : Int)) + (16 * (Q.length : Int) + (sq : Int)) := by omega
    clear q5
    go_wp2_with fail
    refine (ZZnewFc_any _ _).mono ?_
    intro e w1 hmade
    obtain ⟨fc, F, g, rfl, hC, hT, hgw, hgb⟩ := hmade.ctx
    clear hmade q5' H1 H2 H3
    have So1 := strs_later (hT.below (Nat.le_refl _) (fun _ h => h.elim)) So
    go_wp2_with fail
    refine (addDistinct_any w.heap.size fc F (.slice (some ⟨g, 0, none⟩) 1 1, none) F.gc 1024 F.gl 1024 [] [] 0 false (.map []) (.map []) (.map []) 0 0 0 oa oc O none 0 [] none 0 [] none 0 [] O.length _ hC (fun s => rfl) hT.size So1 (fun k hk => absurd hk (by simp)) (fun k hk => absurd hk (by simp)) (fun k hk => absurd hk (by simp)) (Nat.le_refl _) (by omega) (by simp) (by simp) (by simp) (by omega) (by omega) zo (by simp) (by simp)).mono ?_
    rintro e w2 ⟨gk, capk, K, DL, D1, nL, n1, rfl, hD, hF, hnL, hn1⟩
    have hT2 : Turn w w2 (fun _ => False) := hT.trans' hD.turn (fun j hj h => by
      have := hC.bge
      have := hC.m1ge
      omega)
    have hC2 := hD.ctx
    have hrow := hD.row
    have hlabs := hD.labs
    have hKl := hF.len
    have HLK := Lib.hid hD.look
    have hgm : ¬ (g = F.b ∨ g = F.M1) := hC.maps ⟨g, 0, none⟩ _ (cell_of_blk hgb 0 (.pointer (some ⟨F.b + 1, 0, none⟩)) rfl)
    have hg2 := hD.turn.heap hgb hgm
    have hKn := sizes_of hF (Nat.le_refl _) zo
    clear hC hT hD So1 So hF zo hgb hgm
    go_wp2
    go_loopw [9] (fun i wr => (∃ k : Nat, k ≤ K.length ∧ i = .int .i64 k) ∧ Turn w2 wr (fun _ => False)) (fun i _ => K.length - (intOf i).toNat)
    case atStart => exact ⟨⟨0, Nat.zero_le _, rfl⟩, Turn.refl _ _⟩
    case round =>
      obtain ⟨⟨k, hk, rfl⟩, hTz⟩ := hrel
      have hCz := hC2.same hTz
      have hrz := hTz.ownsRow hrow (fun _ _ => id)
      have hlz := hlabs.kept hTz (fun _ _ => id)
      by_cases hlt : k < K.length
      · have hc := row_cell hrz k hlt
        have hd := cell_of_blk (hlz k hlt) 1 (.string (K.getD k Lab.zero).name) rfl
        have hQ := fun n => getNamed_quiet w.heap.size fc F (.slice (some ⟨g, 0, none⟩) 1 1, none) F.gc 1024 F.gl 1024 [] [] 0 false DL D1 (.map []) nL n1 0 (K.getD k Lab.zero).name wr hCz (hKn k hlt) n
        rw [look_ptr HLK.out k hlt] at hQ
        generalize (K.getD k Lab.zero).name = x at hd hQ
        generalize (K.getD k Lab.zero).b = bk at hc hd hQ
        clear hCz hrz hlz hC2 hrow hlabs
        go_wp2_with fail
        go_quiet (exact hQ _)
        clear hQ
        go_wp2
        go_roundw
        case rel => exact ⟨⟨k + 1, by omega, by go_num⟩, hTz.trans (drewN_turn _ _ _)⟩
        case measure => simp [intOf]; omega
      · have he : k = K.length := by omega
        subst he
        clear hlt
        have hTw := hT2.trans hTz
        have hg3 := hTz.heap hg2 id
        clear hC2 hrow hlabs hT2 hTz hg2
        go_wp2_with fail
        refine (enterBlock_any w.heap.size fc F g F.gc 1024 F.gl 1024 [] [] false DL D1 (.map []) nL n1 0 wr hCz hg3 hTw.size hgw).mono ?_
        rintro e w3 ⟨rfl, b, lv, gbv, hC3, hbw, hT3⟩
        obtain ⟨cu, hcu⟩ := owned_elem hrz
        have hrow3 := hT3.ownsRow hrz (fun x hx h => by
          cases hx
          rcases h with h | h
          · exact blocks_ne hcu hCz.blk (by simp) h
          · exact blocks_ne hcu hg3 (by simp) h)
        have hlabs3 := hlz.kept hT3 (fun j hj h => by
          rcases h with h | h
          · exact blocks_ne (hlz j hj) hCz.blk (by simp) h
          · exact blocks_ne (hlz j hj) hg3 (by simp) h)
        have hTw3 : Turn w w3 (fun _ => False) := hTw.trans' hT3 (fun j hj h => by
          have := hCz.ge
          omega)
        clear hCz hrz hlz hTw hg3 hT3 hcu HLK
        have Si1 := strs_later (hTw3.below (Nat.le_refl _) (fun _ h => h.elim)) Si
        go_wp2_with fail
        refine (addDistinct_any w.heap.size fc { F with b := b, lv := lv } gbv F.gc 1024 F.gl 1024 [] [] 0 false (.map []) D1 (.map []) 0 n1 0 ia ic I none 0 [] none 0 [] none 0 [] I.length _ hC3 (fun s => rfl) hTw3.size Si1 (fun k hk => absurd hk (by simp)) (fun k hk => absurd hk (by simp)) (fun k hk => absurd hk (by simp)) (Nat.le_refl _) (by omega) (by simp) (by simp) (by simp) (by omega) (by omega) zi (by simp) (by simp)).mono ?_
        rintro e w4 ⟨gi, capi, J, DI, D1', nI, n1', rfl, hD, hF, hnI, hn1'⟩
        have hmap := hC3.maps
        have hTw4 : Turn w w4 (fun _ => False) := hTw3.trans' hD.turn (fun j hj h => by
          have h1 : w.heap.size ≤ b := hC3.bge
          have h2 : w.heap.size ≤ F.M1 := hC3.m1ge
          have h' : j = b ∨ j = F.M1 := h
          omega)
        obtain ⟨cu, hcu⟩ := owned_elem hrow3
        obtain ⟨_, _, m1, _⟩ := hC3.ownL
        obtain ⟨_, _, m2, _⟩ := hC3.own1
        have hrow4 := hD.turn.ownsRow hrow3 (fun x hx h => by
          cases hx
          rcases h with h | h
          · exact blocks_ne hcu m1 (by simp) h
          · exact blocks_ne hcu m2 (by simp) h)
        have hlabs4 := hlabs3.kept hD.turn (fun j hj h => by
          rcases h with h | h
          · exact blocks_ne (hlabs3 j hj) m1 (by simp) h
          · exact blocks_ne (hlabs3 j hj) m2 (by simp) h)
        have hC4 := hD.ctx
        have hri := hD.row
        have hli := hD.labs
        have HLI := Lib.hid hD.look
        have HDI := Lib.hid hD.dist
        have hJl := hF.len
        have hJn := sizes_of hF (Nat.le_refl _) zi
        clear hC3 hrow3 hlabs3 hTw3 hD hF Si1 Si zi hmap m1 m2 hcu
        go_wp2
        go_loopw [11] (fun i wr => (∃ k : Nat, k ≤ J.length ∧ i = .int .i64 k) ∧ Turn w4 wr (fun _ => False)) (fun i _ => J.length - (intOf i).toNat)
        case atStart => exact ⟨⟨0, Nat.zero_le _, rfl⟩, Turn.refl _ _⟩
        case round =>
          obtain ⟨⟨k, hk, rfl⟩, hTz⟩ := hrel
          have hCz := hC4.same hTz
          have hrz := hTz.ownsRow hri (fun _ _ => id)
          have hlz := hli.kept hTz (fun _ _ => id)
          by_cases hlt : k < J.length
          · have hc := row_cell hrz k hlt
            have hd := cell_of_blk (hlz k hlt) 1 (.string (J.getD k Lab.zero).name) rfl
            have hQ := fun n => getNamed_quiet w.heap.size fc { F with b := b, lv := lv } gbv F.gc 1024 F.gl 1024 [] [] 0 false DI D1' (.map []) nI n1' 0 (J.getD k Lab.zero).name wr hCz (hJn k hlt) n
            rw [look_ptr HLI.out k hlt] at hQ
            generalize (J.getD k Lab.zero).name = x at hd hQ
            generalize (J.getD k Lab.zero).b = bk at hc hd hQ
            clear hCz hrz hlz hC4 hri hli hrow4 hlabs4 hKn
            go_wp2_with fail
            go_quiet (exact hQ _)
            clear hQ
            go_wp2
            go_roundw
            case rel => exact ⟨⟨k + 1, by omega, by go_num⟩, hTz.trans (drewN_turn _ _ _)⟩
            case measure => simp [intOf]; omega
          · have he : k = J.length := by omega
            subst he
            clear hlt
            have hTw5 := hTw4.trans hTz
            have hrow5 := hTz.ownsRow hrow4 (fun _ _ => id)
            have hlabs5 := hlabs4.kept hTz (fun _ _ => id)
            clear hC4 hri hli hrow4 hlabs4 hTw4 hTz
            go_wp2
            go_loopw [12] (fun i wr' => (∃ k : Nat, k ≤ Q.length ∧ i = .int .i64 k) ∧ Turn wr wr' (fun _ => False)) (fun i _ => Q.length - (intOf i).toNat)
            case atStart => exact ⟨⟨0, Nat.zero_le _, rfl⟩, Turn.refl _ _⟩
            case round =>
              obtain ⟨⟨k, hk, rfl⟩, hTy⟩ := hrel
              have hCy := hCz.same hTy
              have hry := hTy.ownsRow hrz (fun _ _ => id)
              have hly := hlz.kept hTy (fun _ _ => id)
              have hTw6 := hTw5.trans hTy
              by_cases hlt : k < Q.length
              · obtain ⟨bq, oq, rfl, hc⟩ := strs_later (hTw6.below (Nat.le_refl _) (fun _ h => h.elim)) Sq k hlt
                have hxs : (Q.getD k ByteArray.empty).size ≤ maxLen := zq _ (by simp [List.getD, hlt])
                generalize Q.getD k ByteArray.empty = x at hc hxs
                have hQ1 := fun n => getNamed_quiet w.heap.size fc { F with b := b, lv := lv } gbv F.gc 1024 F.gl 1024 [] [] 0 false DI D1' (.map []) nI n1' 0 x wr hCy hxs n
                have hQ2 := fun n => find_quiet (DL := DI) x hry hly (by omega) HLI.out HDI.out n
                have hpt := ptr_or HLI.out HDI.out x
                generalize ptrOf (DI.atKey (kS x) .nil) = v at hQ1 hQ2 hpt
                clear hCy hry hly hCz hrz hlz Sq hKn hJn hTw6 hTw5 hrow5 hlabs5
                rcases hpt with rfl | ⟨bx, rfl⟩
                · go_wp2_with fail
                  go_quiet ((first | (go_at_call 24; exact hQ1 _) | (go_at_call 26; exact hQ2 _)))
                  clear hQ1 hQ2
                  go_wp2
                  go_roundw
                  case rel => exact ⟨⟨k + 1, by omega, by go_num⟩, hTy.trans (drewN_turn _ _ _)⟩
                  case measure => simp [intOf]; omega
                · go_wp2_with fail
                  go_quiet ((first | (go_at_call 24; exact hQ1 _) | (go_at_call 26; exact hQ2 _)))
                  clear hQ1 hQ2
                  go_wp2
                  go_roundw
                  case rel => exact ⟨⟨k + 1, by omega, by go_num⟩, hTy.trans (drewN_turn _ _ _)⟩
                  case measure => simp [intOf]; omega
              · have he : k = Q.length := by omega
                subst he
                have hrow6 := hTy.ownsRow hrow5 (fun _ _ => id)
                have hlabs6 := hlabs5.kept hTy (fun _ _ => id)
                clear hlt hCz hrz hlz hTw5 hrow5 hlabs5 hTy Sq
                go_wp2
                go_loopw [13] (fun i wr' => (∃ k : Nat, k ≤ K.length ∧ i = .int .i64 k) ∧ Turn wr wr' (fun _ => False)) (fun i _ => K.length - (intOf i).toNat)
                case atStart => exact ⟨⟨0, Nat.zero_le _, rfl⟩, Turn.refl _ _⟩
                case round =>
                  obtain ⟨⟨k, hk, rfl⟩, hTx⟩ := hrel
                  have hCx := hCy.same hTx
                  have hrx := hTx.ownsRow hry (fun _ _ => id)
                  have hlx := hly.kept hTx (fun _ _ => id)
                  have hrk := hTx.ownsRow hrow6 (fun _ _ => id)
                  have hlk := hlabs6.kept hTx (fun _ _ => id)
                  have hTw7 := hTw6.trans hTx
                  by_cases hlt : k < K.length
                  · have hc := row_cell hrk k hlt
                    have hd := cell_of_blk (hlk k hlt) 1 (.string (K.getD k Lab.zero).name) rfl
                    have hxs := hKn k hlt
                    generalize (K.getD k Lab.zero).name = x at hd hxs
                    generalize (K.getD k Lab.zero).b = bk at hc hd
                    have hQ1 := fun n => getNamed_quiet w.heap.size fc { F with b := b, lv := lv } gbv F.gc 1024 F.gl 1024 [] [] 0 false DI D1' (.map []) nI n1' 0 x wr hCx hxs n
                    have hQ2 := fun n => find_quiet (DL := DI) x hrx hlx (by omega) HLI.out HDI.out n
                    have hpt := ptr_or HLI.out HDI.out x
                    generalize ptrOf (DI.atKey (kS x) .nil) = v at hQ1 hQ2 hpt
                    clear hCx hrx hlx hCy hry hly hKn hJn hTw6 hTw7 hrow6 hlabs6 hrk hlk
                    rcases hpt with rfl | ⟨bx, rfl⟩
                    · go_wp2_with fail
                      go_quiet ((first | (go_at_call 24; exact hQ1 _) | (go_at_call 26; exact hQ2 _)))
                      clear hQ1 hQ2
                      go_wp2
                      go_roundw
                      case rel => exact ⟨⟨k + 1, by omega, by go_num⟩, hTx.trans (drewN_turn _ _ _)⟩
                      case measure => simp [intOf]; omega
                    · go_wp2_with fail
                      go_quiet ((first | (go_at_call 24; exact hQ1 _) | (go_at_call 26; exact hQ2 _)))
                      clear hQ1 hQ2
                      go_wp2
                      go_roundw
                      case rel => exact ⟨⟨k + 1, by omega, by go_num⟩, hTx.trans (drewN_turn _ _ _)⟩
                      case measure => simp [intOf]; omega
                  · have he : k = K.length := by omega
                    subst he
                    have hbel := hTw7.below (Nat.le_refl _) (fun _ h => h.elim)
                    clear hlt hCx hrx hlx hCy hry hly hrow6 hlabs6 hrk hlk hTw6 hTw7
                    go_wp2
                    go_ret
                    exact ⟨rfl, hbel⟩
end Go.Proofs.YtdhmpfijdmlfoaaFmt
