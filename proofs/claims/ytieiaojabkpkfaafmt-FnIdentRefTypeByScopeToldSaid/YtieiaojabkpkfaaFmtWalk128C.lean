/- The walk of FnIdentRefTypeByScope: it returns true. Printed by wip/gen128c.py. -/
import Derived.Test.YtieiaojabkpkfaaFmtWalk128A
namespace Go.Proofs.YtieiaojabkpkfaaFmt
open Go.RowKit
set_option linter.unusedVariables false

open Classical in
set_option maxRecDepth 100000 in
set_option maxHeartbeats 4000000 in
theorem walk_FnIdentRefTypeByScope (oa : Option Addr) (olen oc : Nat) (oss : List ByteArray) (ma : Option Addr) (mlen mc : Nat) (mss : List ByteArray) (ia : Option Addr) (ilen ic : Nat) (iss : List ByteArray) (q : ByteArray) (w : World) (ho : IsStrs w oa olen oc oss) (hm : IsStrs w ma mlen mc mss) (hi : IsStrs w ia ilen ic iss) (hq : q.size ≤ maxLen) :
    Calls Tryf.prog 6 #[.slice oa olen oc, .slice ma mlen mc, .slice ia ilen ic, .string q] w fun e w' => e = .returned (.bool true) ∧ Below w.heap.size w w' := by
  obtain ⟨O, rfl, So, zo, mo, hno⟩ := ho.open
  obtain ⟨M, rfl, Sm, zm, mm, hnm⟩ := hm.open
  obtain ⟨I, rfl, Si, zi, mi, hni⟩ := hi.open
  clear ho hm hi
  go_enter Tryf.func6, Tryf.ntmps6
  go_wp2_with fail
  refine (zzB_FnIdentRefTypeByScope oa oc O ma mc M ia ic I q _ So mo zo Sm mm zm Si mi zi hq).mono ?_
  rintro e w' ⟨b, rfl, hb, rfl⟩
  cases b with
  | false =>
    go_wp2
    go_ret
    exact ⟨rfl, Below.refl _ _⟩
  | true =>
    have hb1 := hb rfl
    clear hb
    by_cases q1 : 200 < O.length
    · go_wp2
      go_ret
      exact ⟨rfl, Below.refl _ _⟩
    by_cases q2 : 200 < M.length
    · go_wp2
      go_ret
      exact ⟨rfl, Below.refl _ _⟩
    by_cases q3 : 200 < I.length
    · go_wp2
      go_ret
      exact ⟨rfl, Below.refl _ _⟩
    go_wp2_with fail
    refine (stringsBytes_any oa oc O _ So (by omega) (by omega)).mono ?_
    rintro e w' ⟨rfl, rfl⟩
    go_wp2_with fail
    refine (stringsBytes_any ma mc M _ Sm (by omega) (by omega)).mono ?_
    rintro e w' ⟨rfl, rfl⟩
    go_wp2_with fail
    refine (stringsBytes_any ia ic I _ Si (by omega) (by omega)).mono ?_
    rintro e w' ⟨rfl, rfl⟩
    generalize hso : sumSizes O = so at hb1 ⊢
    generalize hsm : sumSizes M = sm at hb1 ⊢
    generalize hsi : sumSizes I = si at hb1 ⊢
    have H1 := Lib.hid hso
    have H2 := Lib.hid hsi
    have H3 := Lib.hid hsm
    clear hso hsi hsm
    have hqs : q.size ≤ 1048576 := by omega
    by_cases q5 : 1048576 < 16 * O.length + so + (16 * M.length + sm) + (16 * I.length + si) + q.size
    · have q5' : (1048576 : Int) < 16 * (O.length : Int) + (so : Int) + (16 * (M.length : Int) + (sm : Int)) + (16 * (I.length : Int) + (si : Int)) + (q.size : Int) := by omega
      go_wp2
      go_ret
      exact ⟨rfl, Below.refl _ _⟩
    have q5' : ¬ (1048576 : Int) < 16 * (O.length : Int) + (so : Int) + (16 * (M.length : Int) + (sm : Int)) + (16 * (I.length : Int) + (si : Int)) + (q.size : Int) := by omega
    clear q5
    go_wp2_with fail
    refine (clone_any oa oc O _ So (by omega) hno).mono ?_
    rintro e w1 ⟨oa', oc', rfl, So1, _, hB1⟩
    have Sm1 := strs_later hB1 Sm
    have Si1 := strs_later hB1 Si
    go_wp2_with fail
    refine (clone_any ma mc M _ Sm1 (by omega) hnm).mono ?_
    rintro e w2 ⟨ma', mc', rfl, Sm2, _, hB2⟩
    have So2 := strs_later hB2 So1
    have Si2 := strs_later hB2 Si1
    go_wp2_with fail
    refine (clone_any ia ic I _ Si2 (by omega) hni).mono ?_
    rintro e w3 ⟨ia', ic', rfl, Si3, _, hB3⟩
    have So3 := strs_later hB3 So2
    have Sm3 := strs_later hB3 Sm2
    have hB4 : Below w.heap.size w w3 := (hB1.trans (hB2.mono hB1.size)).trans (hB3.mono (Nat.le_trans hB1.size hB2.size))
    clear So Sm Si So1 Sm1 Si1 So2 Sm2 Si2 hno hnm hni H1 H2 H3 q5' hB1 hB2 hB3
    go_wp2_with fail
    refine (ZZnewFc_any _ none _).mono ?_
    intro e w4 hm
    obtain ⟨fo, A, gA, pA, vA, xA, rfl, hparA, hA, aA, hT4⟩ := hm.loc
    clear hm
    go_wp2_with fail
    refine (ZZnewFc_any _ (some ⟨fo, 0, none⟩) _).mono ?_
    intro e w5 hm
    obtain ⟨fm, B, gB, pB, vB, xB, rfl, hparB, hB, aB, hT5⟩ := hm.loc
    clear hm
    go_wp2_with fail
    refine (ZZnewFc_any _ (some ⟨fm, 0, none⟩) _).mono ?_
    intro e w6 hm
    obtain ⟨fi, C, gC, pC, vC, xC, rfl, hparC, hC, aC, hT6⟩ := hm.loc
    clear hm
    have hA6 := (hA.same hT5).same hT6
    have hB6 := hB.same hT6
    have aA6 : LocAll fo A pA vA (fun x => w3.heap.size ≤ x ∧ (x < w4.heap.size ∨ w6.heap.size ≤ x)) := by
      obtain ⟨a1, a2, a3, a4, a5, a6, a7⟩ := aA
      obtain ⟨b1, b2, b3, b4, b5, b6, b7⟩ := hA.lt
      exact ⟨⟨a1, .inl b1⟩, ⟨a2, .inl b2⟩, ⟨a3, .inl b3⟩, ⟨a4, .inl b4⟩, ⟨a5, .inl b5⟩, fun k hk => ⟨a6 k hk, .inl (b6 k hk)⟩, fun k hk => ⟨a7 k hk, .inl (b7 k hk)⟩⟩
    have aB6 : LocAll fm B pB vB (fun x => w4.heap.size ≤ x ∧ x < w5.heap.size) := by
      obtain ⟨a1, a2, a3, a4, a5, a6, a7⟩ := aB
      obtain ⟨b1, b2, b3, b4, b5, b6, b7⟩ := hB.lt
      exact ⟨⟨a1, b1⟩, ⟨a2, b2⟩, ⟨a3, b3⟩, ⟨a4, b4⟩, ⟨a5, b5⟩, fun k hk => ⟨a6 k hk, b6 k hk⟩, fun k hk => ⟨a7 k hk, b7 k hk⟩⟩
    have aC6 : LocAll fi C pC vC (fun x => w5.heap.size ≤ x ∧ x < w6.heap.size) := by
      obtain ⟨a1, a2, a3, a4, a5, a6, a7⟩ := aC
      obtain ⟨b1, b2, b3, b4, b5, b6, b7⟩ := hC.lt
      exact ⟨⟨a1, b1⟩, ⟨a2, b2⟩, ⟨a3, b3⟩, ⟨a4, b4⟩, ⟨a5, b5⟩, fun k hk => ⟨a6 k hk, b6 k hk⟩, fun k hk => ⟨a7 k hk, b7 k hk⟩⟩
    have hT46 := (hT4.trans hT5).trans hT6
    have s34 := hT4.size
    have s45 := hT5.size
    have s56 := hT6.size
    have HA := Lib.hid hA6
    have HAA := Lib.hid aA6
    have HB := Lib.hid hB6
    have HC := Lib.hid hC
    clear hA hA6 hB hB6 hC aA aB aC aA6 hT4 hT5 hT6
    go_wp2
    go_loopw [12] (fun i wr => ∃ (k : Nat) (pv : Value) (v : Nat → Value) (xs : List Value), k ≤ O.length ∧ i = .int .i64 k ∧ Loc wr w3.heap.size fo A gA pv v xs (O.take k) ∧ LocAll fo A pv v (fun x => w3.heap.size ≤ x ∧ (x < w4.heap.size ∨ w6.heap.size ≤ x)) ∧ Loc wr w4.heap.size fm B gB pB vB xB [] ∧ Loc wr w5.heap.size fi C gC pC vC xC [] ∧ Turn w3 wr (fun _ => False) ∧ w6.heap.size ≤ wr.heap.size) (fun i _ => O.length - (intOf i).toNat)
    case atStart => exact ⟨0, pA, vA, xA, Nat.zero_le _, rfl, HA.out, HAA.out, HB.out, HC.out, hT46, Nat.le_refl _⟩
    case round =>
      clear HA HAA HB HC hT46
      obtain ⟨k, pv, v, xs, hk, rfl, hA, aA, hB, hC, hT, hs6⟩ := hrel
      by_cases hlt : k < O.length
      · obtain ⟨b, of, rfl, hc⟩ := strs_later (hT.below (Nat.le_refl _) (fun _ h => h.elim)) So3 k hlt
        have htk : O.take (k + 1) = O.take k ++ [O.getD k ByteArray.empty] := by
          rw [List.take_succ_eq_append_getElem hlt]; simp [List.getD, hlt]
        generalize O.getD k ByteArray.empty = x at hc htk
        have HK := Lib.hid htk
        have hlen : (O.take k).length < 200 := by simp; omega
        clear htk
        go_wp2_with fail
        refine (ZZreg_any w3.heap.size fo A gA pv v xs (O.take k) x _ hA hT.size hlen).mono ?_
        intro e w7 hm
        obtain ⟨pv', v', xs', rfl, hA7, aA7, hT7⟩ := hm.all aA (fun j hj => by omega)
        have hB7 := hB.kept hT7 (aB6.mono (fun j hj h => by omega))
        have hC7 := hC.kept hT7 (aC6.mono (fun j hj h => by omega))
        have hT8 := hT.trans' hT7 (fun j hj h => by omega)
        have hs7 := hT7.size
        rw [← HK.out] at hA7
        clear hm hA aA hB hC hT hT7 hc hlen
        go_wp2
        go_roundw
        case rel => exact ⟨k + 1, pv', v', xs', by omega, by go_num, hA7, aA7, hB7, hC7, hT8, by omega⟩
        case measure => simp [intOf]; omega
      · have he : k = O.length := by omega
        subst he
        rw [List.take_length] at hA
        clear hlt
        have aA5 : LocAll fo A pv v (fun x => (w3.heap.size ≤ x ∧ (x < w4.heap.size ∨ w6.heap.size ≤ x)) ∧ x < wr.heap.size) := by
          obtain ⟨a1, a2, a3, a4, a5, a6, a7⟩ := aA
          obtain ⟨b1, b2, b3, b4, b5, b6, b7⟩ := hA.lt
          exact ⟨⟨a1, b1⟩, ⟨a2, b2⟩, ⟨a3, b3⟩, ⟨a4, b4⟩, ⟨a5, b5⟩, fun k hk => ⟨a6 k hk, b6 k hk⟩, fun k hk => ⟨a7 k hk, b7 k hk⟩⟩
        have aB5 : LocAll fm B pB vB (fun x => w4.heap.size ≤ x ∧ (x < w5.heap.size ∨ wr.heap.size ≤ x)) := aB6.mono (fun x h => ⟨h.1, .inl h.2⟩)
        have HA := Lib.hid hA
        have HB := Lib.hid hB
        have HC := Lib.hid hC
        have HBB := Lib.hid aB5
        clear hA hB hC aA aB6 aB5
        go_wp2
        generalize hW5 : wr = w7 at *
        clear hW5
        go_loopw [13] (fun i wr => ∃ (k : Nat) (pv2 : Value) (v2 : Nat → Value) (xs2 : List Value), k ≤ M.length ∧ i = .int .i64 k ∧ Loc wr w4.heap.size fm B gB pv2 v2 xs2 (M.take k) ∧ LocAll fm B pv2 v2 (fun x => w4.heap.size ≤ x ∧ (x < w5.heap.size ∨ w7.heap.size ≤ x)) ∧ Loc wr w3.heap.size fo A gA pv v xs O ∧ Loc wr w5.heap.size fi C gC pC vC xC [] ∧ Turn w3 wr (fun _ => False) ∧ w7.heap.size ≤ wr.heap.size) (fun i _ => M.length - (intOf i).toNat)
        case atStart => exact ⟨0, pB, vB, xB, Nat.zero_le _, rfl, HB.out, HBB.out, HA.out, HC.out, hT, Nat.le_refl _⟩
        case round =>
          clear HA HB HC HBB hT
          obtain ⟨k, pv2, v2, xs2, hk, rfl, hB, aB, hA, hC, hT, hs7⟩ := hrel
          by_cases hlt : k < M.length
          · obtain ⟨b, of, rfl, hc⟩ := strs_later (hT.below (Nat.le_refl _) (fun _ h => h.elim)) Sm3 k hlt
            have htk : M.take (k + 1) = M.take k ++ [M.getD k ByteArray.empty] := by
              rw [List.take_succ_eq_append_getElem hlt]; simp [List.getD, hlt]
            generalize M.getD k ByteArray.empty = x at hc htk
            have HK := Lib.hid htk
            have hlen : (M.take k).length < 200 := by simp; omega
            clear htk
            go_wp2_with fail
            refine (ZZreg_any w4.heap.size fm B gB pv2 v2 xs2 (M.take k) x _ hB (by omega) hlen).mono ?_
            intro e w8 hm
            obtain ⟨pv', v', xs', rfl, hB8, aB8, hT8⟩ := hm.all aB (fun j hj => by omega)
            have hA8 := hA.kept hT8 (aA5.mono (fun j hj h => by omega))
            have hC8 := hC.kept hT8 (aC6.mono (fun j hj h => by omega))
            have hT9 := hT.trans' hT8 (fun j hj h => by omega)
            have hs8 := hT8.size
            rw [← HK.out] at hB8
            clear hm hA aB hB hC hT hT8 hc hlen
            go_wp2
            go_roundw
            case rel => exact ⟨k + 1, pv', v', xs', by omega, by go_num, hB8, aB8, hA8, hC8, hT9, by omega⟩
            case measure => simp [intOf]; omega
          · have he : k = M.length := by omega
            subst he
            rw [List.take_length] at hB
            clear hlt
            have aB7 : LocAll fm B pv2 v2 (fun x => (w4.heap.size ≤ x ∧ (x < w5.heap.size ∨ w7.heap.size ≤ x)) ∧ x < wr.heap.size) := by
              obtain ⟨a1, a2, a3, a4, a5, a6, a7⟩ := aB
              obtain ⟨b1, b2, b3, b4, b5, b6, b7⟩ := hB.lt
              exact ⟨⟨a1, b1⟩, ⟨a2, b2⟩, ⟨a3, b3⟩, ⟨a4, b4⟩, ⟨a5, b5⟩, fun k hk => ⟨a6 k hk, b6 k hk⟩, fun k hk => ⟨a7 k hk, b7 k hk⟩⟩
            have aC7 : LocAll fi C pC vC (fun x => w5.heap.size ≤ x ∧ (x < w6.heap.size ∨ wr.heap.size ≤ x)) := aC6.mono (fun x h => ⟨h.1, .inl h.2⟩)
            have HA := Lib.hid hA
            have HB := Lib.hid hB
            have HC := Lib.hid hC
            have HCC := Lib.hid aC7
            clear hA hB hC aB aC6 aC7
            go_wp2
            generalize hW5 : wr = w8 at *
            clear hW5
            go_loopw [14] (fun i wr => ∃ (k : Nat) (pv3 : Value) (v3 : Nat → Value) (xs3 : List Value), k ≤ I.length ∧ i = .int .i64 k ∧ Loc wr w5.heap.size fi C gC pv3 v3 xs3 (I.take k) ∧ LocAll fi C pv3 v3 (fun x => w5.heap.size ≤ x ∧ (x < w6.heap.size ∨ w8.heap.size ≤ x)) ∧ Loc wr w3.heap.size fo A gA pv v xs O ∧ Loc wr w4.heap.size fm B gB pv2 v2 xs2 M ∧ Turn w3 wr (fun _ => False) ∧ w8.heap.size ≤ wr.heap.size) (fun i _ => I.length - (intOf i).toNat)
            case atStart => exact ⟨0, pC, vC, xC, Nat.zero_le _, rfl, HC.out, HCC.out, HA.out, HB.out, hT, Nat.le_refl _⟩
            case round =>
              clear HA HB HC HCC hT
              obtain ⟨k, pv3, v3, xs3, hk, rfl, hC, aC, hA, hB, hT, hs8⟩ := hrel
              by_cases hlt : k < I.length
              · obtain ⟨b, of, rfl, hc⟩ := strs_later (hT.below (Nat.le_refl _) (fun _ h => h.elim)) Si3 k hlt
                have htk : I.take (k + 1) = I.take k ++ [I.getD k ByteArray.empty] := by
                  rw [List.take_succ_eq_append_getElem hlt]; simp [List.getD, hlt]
                generalize I.getD k ByteArray.empty = x at hc htk
                have HK := Lib.hid htk
                have hlen : (I.take k).length < 200 := by simp; omega
                clear htk
                go_wp2_with fail
                refine (ZZreg_any w5.heap.size fi C gC pv3 v3 xs3 (I.take k) x _ hC (by omega) hlen).mono ?_
                intro e w9 hm
                obtain ⟨pv', v', xs', rfl, hC9, aC9, hT9⟩ := hm.all aC (fun j hj => by omega)
                have hA9 := hA.kept hT9 (aA5.mono (fun j hj h => by omega))
                have hB9 := hB.kept hT9 (aB7.mono (fun j hj h => by omega))
                have hT10 := hT.trans' hT9 (fun j hj h => by omega)
                have hs9 := hT9.size
                rw [← HK.out] at hC9
                clear hm hA aC hB hC hT hT9 hc hlen
                go_wp2
                go_roundw
                case rel => exact ⟨k + 1, pv', v', xs', by omega, by go_num, hC9, aC9, hA9, hB9, hT10, by omega⟩
                case measure => simp [intOf]; omega
              · have he : k = I.length := by omega
                subst he
                rw [List.take_length] at hC
                clear hlt
                have nom : fo ≠ fm := fun e => by
                  have h1 := aA5.1
                  have h2 := aB7.1
                  omega
                have noi : fo ≠ fi := fun e => by
                  have h1 := aA5.1
                  have h2 := aC.1
                  omega
                have nmi : fm ≠ fi := fun e => by
                  have h1 := aB7.1
                  have h2 := aC.1
                  omega
                have two : ∀ (p : Prop) [Decidable p] (x y : Int), 0 ≤ x ∧ x ≤ 2 → 0 ≤ y ∧ y ≤ 2 → 0 ≤ (if p then x else y) ∧ (if p then x else y) ≤ 2 := by
                  intro p _ x y a b
                  split
                  · exact a
                  · exact b
                have cO := fun (wz : World) (T : Turn wr wz (fun _ => False)) => ZZident_any (some ⟨fo, 0, none⟩) (some ⟨fo, 0, none⟩) q (if Has O q then 2 else 0) (two _ _ _ (by omega) (by omega)).1 (two _ _ _ (by omega) (by omega)).2 wz
                  (fun x w1 T1 hx => ident_self 0 (hA.same (T.trans T1)) (by omega) hx (fun w6 T6 => by rw [hparA]; exact identRef_none _ x w6))
                have cM := fun (wz : World) (T : Turn wr wz (fun _ => False)) => ZZident_any (some ⟨fm, 0, none⟩) (some ⟨fm, 0, none⟩) q (if Has M q then 2 else (if Has O q then 1 else 0)) (two _ _ _ (by omega) (two _ _ _ (by omega) (by omega))).1 (two _ _ _ (by omega) (two _ _ _ (by omega) (by omega))).2 wz
                  (fun x w1 T1 hx => ident_self _ (hB.same (T.trans T1)) (by omega) hx (fun w6 T6 => by
                    rw [hparB]
                    exact ident_for 0 (hA.same ((T.trans T1).trans T6)) (by omega) (T6.cell hx id) (hB.same ((T.trans T1).trans T6)).blk nom (fun w7 T7 => by rw [hparA]; exact identRef_none _ x w7)))
                have cI := fun (wz : World) (T : Turn wr wz (fun _ => False)) => ZZident_any (some ⟨fi, 0, none⟩) (some ⟨fi, 0, none⟩) q (if Has I q then 2 else (if Has M q then 1 else (if Has O q then 1 else 0))) (two _ _ _ (by omega) (two _ _ _ (by omega) (two _ _ _ (by omega) (by omega)))).1 (two _ _ _ (by omega) (two _ _ _ (by omega) (two _ _ _ (by omega) (by omega)))).2 wz
                  (fun x w1 T1 hx => ident_self _ (hC.same (T.trans T1)) (by omega) hx (fun w6 T6 => by
                    rw [hparC]
                    exact ident_for _ (hB.same ((T.trans T1).trans T6)) (by omega) (T6.cell hx id) (hC.same ((T.trans T1).trans T6)).blk nmi (fun w7 T7 => by
                      rw [hparB]
                      exact ident_for 0 (hA.same (((T.trans T1).trans T6).trans T7)) (by omega) (T7.cell (T6.cell hx id) id) (hC.same (((T.trans T1).trans T6).trans T7)).blk noi (fun w8 T8 => by rw [hparA]; exact identRef_none _ x w8))))
                clear two
                have Bel := fun {wz : World} (T : Turn wr wz (fun _ => False)) => hB4.trans ((hT.trans T).below hB4.size (fun _ h => h.elim))
                have hb0 := hT.below (Nat.le_refl _) (fun _ h => h.elim)
                have So4 := strs_later hb0 So3
                have Sm4 := strs_later hb0 Sm3
                have Si4 := strs_later hb0 Si3
                clear hb0 So3 Sm3 Si3
                by_cases hO : Has O q
                · skip
                  by_cases hM : Has M q
                  · skip
                    by_cases hI : Has I q
                    · skip
                      skip
                      rw [if_pos hO] at cO
                      rw [if_pos hM] at cM
                      rw [if_pos hI] at cI
                      go_wp2_with fail
                      refine (hasString_any oa' oc' O q _ So4 (by omega)).mono ?_
                      rintro e w' ⟨⟨bb, rfl, hbb⟩, rfl⟩
                      obtain rfl : bb = true := hbb.2 hO
                      clear hbb
                      go_wp2_with fail
                      refine (hasString_any oa' oc' O q _ So4 (by omega)).mono ?_
                      rintro e w' ⟨⟨bb, rfl, hbb⟩, rfl⟩
                      obtain rfl : bb = true := hbb.2 hO
                      clear hbb
                      go_wp2_with fail
                      refine (hasString_any ma' mc' M q _ Sm4 (by omega)).mono ?_
                      rintro e w' ⟨⟨bb, rfl, hbb⟩, rfl⟩
                      obtain rfl : bb = true := hbb.2 hM
                      clear hbb
                      go_wp2_with fail
                      refine (hasString_any oa' oc' O q _ So4 (by omega)).mono ?_
                      rintro e w' ⟨⟨bb, rfl, hbb⟩, rfl⟩
                      obtain rfl : bb = true := hbb.2 hO
                      clear hbb
                      go_wp2_with fail
                      refine (hasString_any ia' ic' I q _ Si4 (by omega)).mono ?_
                      rintro e w' ⟨⟨bb, rfl, hbb⟩, rfl⟩
                      obtain rfl : bb = true := hbb.2 hI
                      clear hbb
                      clear So4 Sm4 Si4 hA hB hC hO hM hI
                      go_wp2_with fail
                      refine (cO wr (Turn.refl _ _)).mono ?_
                      rintro e wa ⟨rfl, Ta⟩
                      go_wp2_with fail
                      refine (cM wa Ta).mono ?_
                      rintro e wb ⟨rfl, Tb⟩
                      have Tab := Ta.trans Tb
                      go_wp2_with fail
                      refine (cI wb Tab).mono ?_
                      rintro e wc ⟨rfl, Tc⟩
                      have Hb := Bel (Tab.trans Tc)
                      clear cO cM cI Bel Ta Tb Tc Tab
                      go_wp2
                      go_ret
                      exact ⟨rfl, Hb⟩
                    · skip
                      skip
                      rw [if_pos hO] at cO
                      rw [if_pos hM] at cM
                      rw [if_neg hI] at cI
                      rw [if_pos hM] at cI
                      go_wp2_with fail
                      refine (hasString_any oa' oc' O q _ So4 (by omega)).mono ?_
                      rintro e w' ⟨⟨bb, rfl, hbb⟩, rfl⟩
                      obtain rfl : bb = true := hbb.2 hO
                      clear hbb
                      go_wp2_with fail
                      refine (hasString_any oa' oc' O q _ So4 (by omega)).mono ?_
                      rintro e w' ⟨⟨bb, rfl, hbb⟩, rfl⟩
                      obtain rfl : bb = true := hbb.2 hO
                      clear hbb
                      go_wp2_with fail
                      refine (hasString_any ma' mc' M q _ Sm4 (by omega)).mono ?_
                      rintro e w' ⟨⟨bb, rfl, hbb⟩, rfl⟩
                      obtain rfl : bb = true := hbb.2 hM
                      clear hbb
                      go_wp2_with fail
                      refine (hasString_any oa' oc' O q _ So4 (by omega)).mono ?_
                      rintro e w' ⟨⟨bb, rfl, hbb⟩, rfl⟩
                      obtain rfl : bb = true := hbb.2 hO
                      clear hbb
                      go_wp2_with fail
                      refine (hasString_any ia' ic' I q _ Si4 (by omega)).mono ?_
                      rintro e w' ⟨⟨bb, rfl, hbb⟩, rfl⟩
                      obtain rfl : bb = false := by
                        cases bb with
                        | false => rfl
                        | true => exact absurd (hbb.1 rfl) hI
                      clear hbb
                      clear So4 Sm4 Si4 hA hB hC hO hM hI
                      go_wp2_with fail
                      refine (cO wr (Turn.refl _ _)).mono ?_
                      rintro e wa ⟨rfl, Ta⟩
                      go_wp2_with fail
                      refine (cM wa Ta).mono ?_
                      rintro e wb ⟨rfl, Tb⟩
                      have Tab := Ta.trans Tb
                      go_wp2_with fail
                      refine (cI wb Tab).mono ?_
                      rintro e wc ⟨rfl, Tc⟩
                      have Hb := Bel (Tab.trans Tc)
                      clear cO cM cI Bel Ta Tb Tc Tab
                      go_wp2
                      go_ret
                      exact ⟨rfl, Hb⟩
                  · skip
                    by_cases hI : Has I q
                    · skip
                      skip
                      rw [if_pos hO] at cO
                      rw [if_neg hM] at cM
                      rw [if_pos hO] at cM
                      rw [if_pos hI] at cI
                      go_wp2_with fail
                      refine (hasString_any oa' oc' O q _ So4 (by omega)).mono ?_
                      rintro e w' ⟨⟨bb, rfl, hbb⟩, rfl⟩
                      obtain rfl : bb = true := hbb.2 hO
                      clear hbb
                      go_wp2_with fail
                      refine (hasString_any oa' oc' O q _ So4 (by omega)).mono ?_
                      rintro e w' ⟨⟨bb, rfl, hbb⟩, rfl⟩
                      obtain rfl : bb = true := hbb.2 hO
                      clear hbb
                      go_wp2_with fail
                      refine (hasString_any ma' mc' M q _ Sm4 (by omega)).mono ?_
                      rintro e w' ⟨⟨bb, rfl, hbb⟩, rfl⟩
                      obtain rfl : bb = false := by
                        cases bb with
                        | false => rfl
                        | true => exact absurd (hbb.1 rfl) hM
                      clear hbb
                      go_wp2_with fail
                      refine (hasString_any oa' oc' O q _ So4 (by omega)).mono ?_
                      rintro e w' ⟨⟨bb, rfl, hbb⟩, rfl⟩
                      obtain rfl : bb = true := hbb.2 hO
                      clear hbb
                      go_wp2_with fail
                      refine (hasString_any ia' ic' I q _ Si4 (by omega)).mono ?_
                      rintro e w' ⟨⟨bb, rfl, hbb⟩, rfl⟩
                      obtain rfl : bb = true := hbb.2 hI
                      clear hbb
                      clear So4 Sm4 Si4 hA hB hC hO hM hI
                      go_wp2_with fail
                      refine (cO wr (Turn.refl _ _)).mono ?_
                      rintro e wa ⟨rfl, Ta⟩
                      go_wp2_with fail
                      refine (cM wa Ta).mono ?_
                      rintro e wb ⟨rfl, Tb⟩
                      have Tab := Ta.trans Tb
                      go_wp2_with fail
                      refine (cI wb Tab).mono ?_
                      rintro e wc ⟨rfl, Tc⟩
                      have Hb := Bel (Tab.trans Tc)
                      clear cO cM cI Bel Ta Tb Tc Tab
                      go_wp2
                      go_ret
                      exact ⟨rfl, Hb⟩
                    · skip
                      skip
                      rw [if_pos hO] at cO
                      rw [if_neg hM] at cM
                      rw [if_pos hO] at cM
                      rw [if_neg hI] at cI
                      rw [if_neg hM] at cI
                      rw [if_pos hO] at cI
                      go_wp2_with fail
                      refine (hasString_any oa' oc' O q _ So4 (by omega)).mono ?_
                      rintro e w' ⟨⟨bb, rfl, hbb⟩, rfl⟩
                      obtain rfl : bb = true := hbb.2 hO
                      clear hbb
                      go_wp2_with fail
                      refine (hasString_any oa' oc' O q _ So4 (by omega)).mono ?_
                      rintro e w' ⟨⟨bb, rfl, hbb⟩, rfl⟩
                      obtain rfl : bb = true := hbb.2 hO
                      clear hbb
                      go_wp2_with fail
                      refine (hasString_any ma' mc' M q _ Sm4 (by omega)).mono ?_
                      rintro e w' ⟨⟨bb, rfl, hbb⟩, rfl⟩
                      obtain rfl : bb = false := by
                        cases bb with
                        | false => rfl
                        | true => exact absurd (hbb.1 rfl) hM
                      clear hbb
                      go_wp2_with fail
                      refine (hasString_any oa' oc' O q _ So4 (by omega)).mono ?_
                      rintro e w' ⟨⟨bb, rfl, hbb⟩, rfl⟩
                      obtain rfl : bb = true := hbb.2 hO
                      clear hbb
                      go_wp2_with fail
                      refine (hasString_any ia' ic' I q _ Si4 (by omega)).mono ?_
                      rintro e w' ⟨⟨bb, rfl, hbb⟩, rfl⟩
                      obtain rfl : bb = false := by
                        cases bb with
                        | false => rfl
                        | true => exact absurd (hbb.1 rfl) hI
                      clear hbb
                      clear So4 Sm4 Si4 hA hB hC hO hM hI
                      go_wp2_with fail
                      refine (cO wr (Turn.refl _ _)).mono ?_
                      rintro e wa ⟨rfl, Ta⟩
                      go_wp2_with fail
                      refine (cM wa Ta).mono ?_
                      rintro e wb ⟨rfl, Tb⟩
                      have Tab := Ta.trans Tb
                      go_wp2_with fail
                      refine (cI wb Tab).mono ?_
                      rintro e wc ⟨rfl, Tc⟩
                      have Hb := Bel (Tab.trans Tc)
                      clear cO cM cI Bel Ta Tb Tc Tab
                      go_wp2
                      go_ret
                      exact ⟨rfl, Hb⟩
                · skip
                  by_cases hM : Has M q
                  · skip
                    by_cases hI : Has I q
                    · skip
                      skip
                      rw [if_neg hO] at cO
                      rw [if_pos hM] at cM
                      rw [if_pos hI] at cI
                      go_wp2_with fail
                      refine (hasString_any oa' oc' O q _ So4 (by omega)).mono ?_
                      rintro e w' ⟨⟨bb, rfl, hbb⟩, rfl⟩
                      obtain rfl : bb = false := by
                        cases bb with
                        | false => rfl
                        | true => exact absurd (hbb.1 rfl) hO
                      clear hbb
                      go_wp2_with fail
                      refine (hasString_any oa' oc' O q _ So4 (by omega)).mono ?_
                      rintro e w' ⟨⟨bb, rfl, hbb⟩, rfl⟩
                      obtain rfl : bb = false := by
                        cases bb with
                        | false => rfl
                        | true => exact absurd (hbb.1 rfl) hO
                      clear hbb
                      go_wp2_with fail
                      refine (hasString_any ma' mc' M q _ Sm4 (by omega)).mono ?_
                      rintro e w' ⟨⟨bb, rfl, hbb⟩, rfl⟩
                      obtain rfl : bb = true := hbb.2 hM
                      clear hbb
                      go_wp2_with fail
                      refine (hasString_any oa' oc' O q _ So4 (by omega)).mono ?_
                      rintro e w' ⟨⟨bb, rfl, hbb⟩, rfl⟩
                      obtain rfl : bb = false := by
                        cases bb with
                        | false => rfl
                        | true => exact absurd (hbb.1 rfl) hO
                      clear hbb
                      go_wp2_with fail
                      refine (hasString_any ma' mc' M q _ Sm4 (by omega)).mono ?_
                      rintro e w' ⟨⟨bb, rfl, hbb⟩, rfl⟩
                      obtain rfl : bb = true := hbb.2 hM
                      clear hbb
                      go_wp2_with fail
                      refine (hasString_any ia' ic' I q _ Si4 (by omega)).mono ?_
                      rintro e w' ⟨⟨bb, rfl, hbb⟩, rfl⟩
                      obtain rfl : bb = true := hbb.2 hI
                      clear hbb
                      clear So4 Sm4 Si4 hA hB hC hO hM hI
                      go_wp2_with fail
                      refine (cO wr (Turn.refl _ _)).mono ?_
                      rintro e wa ⟨rfl, Ta⟩
                      go_wp2_with fail
                      refine (cM wa Ta).mono ?_
                      rintro e wb ⟨rfl, Tb⟩
                      have Tab := Ta.trans Tb
                      go_wp2_with fail
                      refine (cI wb Tab).mono ?_
                      rintro e wc ⟨rfl, Tc⟩
                      have Hb := Bel (Tab.trans Tc)
                      clear cO cM cI Bel Ta Tb Tc Tab
                      go_wp2
                      go_ret
                      exact ⟨rfl, Hb⟩
                    · skip
                      skip
                      rw [if_neg hO] at cO
                      rw [if_pos hM] at cM
                      rw [if_neg hI] at cI
                      rw [if_pos hM] at cI
                      go_wp2_with fail
                      refine (hasString_any oa' oc' O q _ So4 (by omega)).mono ?_
                      rintro e w' ⟨⟨bb, rfl, hbb⟩, rfl⟩
                      obtain rfl : bb = false := by
                        cases bb with
                        | false => rfl
                        | true => exact absurd (hbb.1 rfl) hO
                      clear hbb
                      go_wp2_with fail
                      refine (hasString_any oa' oc' O q _ So4 (by omega)).mono ?_
                      rintro e w' ⟨⟨bb, rfl, hbb⟩, rfl⟩
                      obtain rfl : bb = false := by
                        cases bb with
                        | false => rfl
                        | true => exact absurd (hbb.1 rfl) hO
                      clear hbb
                      go_wp2_with fail
                      refine (hasString_any ma' mc' M q _ Sm4 (by omega)).mono ?_
                      rintro e w' ⟨⟨bb, rfl, hbb⟩, rfl⟩
                      obtain rfl : bb = true := hbb.2 hM
                      clear hbb
                      go_wp2_with fail
                      refine (hasString_any oa' oc' O q _ So4 (by omega)).mono ?_
                      rintro e w' ⟨⟨bb, rfl, hbb⟩, rfl⟩
                      obtain rfl : bb = false := by
                        cases bb with
                        | false => rfl
                        | true => exact absurd (hbb.1 rfl) hO
                      clear hbb
                      go_wp2_with fail
                      refine (hasString_any ma' mc' M q _ Sm4 (by omega)).mono ?_
                      rintro e w' ⟨⟨bb, rfl, hbb⟩, rfl⟩
                      obtain rfl : bb = true := hbb.2 hM
                      clear hbb
                      go_wp2_with fail
                      refine (hasString_any ia' ic' I q _ Si4 (by omega)).mono ?_
                      rintro e w' ⟨⟨bb, rfl, hbb⟩, rfl⟩
                      obtain rfl : bb = false := by
                        cases bb with
                        | false => rfl
                        | true => exact absurd (hbb.1 rfl) hI
                      clear hbb
                      clear So4 Sm4 Si4 hA hB hC hO hM hI
                      go_wp2_with fail
                      refine (cO wr (Turn.refl _ _)).mono ?_
                      rintro e wa ⟨rfl, Ta⟩
                      go_wp2_with fail
                      refine (cM wa Ta).mono ?_
                      rintro e wb ⟨rfl, Tb⟩
                      have Tab := Ta.trans Tb
                      go_wp2_with fail
                      refine (cI wb Tab).mono ?_
                      rintro e wc ⟨rfl, Tc⟩
                      have Hb := Bel (Tab.trans Tc)
                      clear cO cM cI Bel Ta Tb Tc Tab
                      go_wp2
                      go_ret
                      exact ⟨rfl, Hb⟩
                  · skip
                    by_cases hI : Has I q
                    · skip
                      skip
                      rw [if_neg hO] at cO
                      rw [if_neg hM] at cM
                      rw [if_neg hO] at cM
                      rw [if_pos hI] at cI
                      go_wp2_with fail
                      refine (hasString_any oa' oc' O q _ So4 (by omega)).mono ?_
                      rintro e w' ⟨⟨bb, rfl, hbb⟩, rfl⟩
                      obtain rfl : bb = false := by
                        cases bb with
                        | false => rfl
                        | true => exact absurd (hbb.1 rfl) hO
                      clear hbb
                      go_wp2_with fail
                      refine (hasString_any oa' oc' O q _ So4 (by omega)).mono ?_
                      rintro e w' ⟨⟨bb, rfl, hbb⟩, rfl⟩
                      obtain rfl : bb = false := by
                        cases bb with
                        | false => rfl
                        | true => exact absurd (hbb.1 rfl) hO
                      clear hbb
                      go_wp2_with fail
                      refine (hasString_any ma' mc' M q _ Sm4 (by omega)).mono ?_
                      rintro e w' ⟨⟨bb, rfl, hbb⟩, rfl⟩
                      obtain rfl : bb = false := by
                        cases bb with
                        | false => rfl
                        | true => exact absurd (hbb.1 rfl) hM
                      clear hbb
                      go_wp2_with fail
                      refine (hasString_any oa' oc' O q _ So4 (by omega)).mono ?_
                      rintro e w' ⟨⟨bb, rfl, hbb⟩, rfl⟩
                      obtain rfl : bb = false := by
                        cases bb with
                        | false => rfl
                        | true => exact absurd (hbb.1 rfl) hO
                      clear hbb
                      go_wp2_with fail
                      refine (hasString_any ma' mc' M q _ Sm4 (by omega)).mono ?_
                      rintro e w' ⟨⟨bb, rfl, hbb⟩, rfl⟩
                      obtain rfl : bb = false := by
                        cases bb with
                        | false => rfl
                        | true => exact absurd (hbb.1 rfl) hM
                      clear hbb
                      go_wp2_with fail
                      refine (hasString_any ia' ic' I q _ Si4 (by omega)).mono ?_
                      rintro e w' ⟨⟨bb, rfl, hbb⟩, rfl⟩
                      obtain rfl : bb = true := hbb.2 hI
                      clear hbb
                      clear So4 Sm4 Si4 hA hB hC hO hM hI
                      go_wp2_with fail
                      refine (cO wr (Turn.refl _ _)).mono ?_
                      rintro e wa ⟨rfl, Ta⟩
                      go_wp2_with fail
                      refine (cM wa Ta).mono ?_
                      rintro e wb ⟨rfl, Tb⟩
                      have Tab := Ta.trans Tb
                      go_wp2_with fail
                      refine (cI wb Tab).mono ?_
                      rintro e wc ⟨rfl, Tc⟩
                      have Hb := Bel (Tab.trans Tc)
                      clear cO cM cI Bel Ta Tb Tc Tab
                      go_wp2
                      go_ret
                      exact ⟨rfl, Hb⟩
                    · skip
                      skip
                      rw [if_neg hO] at cO
                      rw [if_neg hM] at cM
                      rw [if_neg hO] at cM
                      rw [if_neg hI] at cI
                      rw [if_neg hM] at cI
                      rw [if_neg hO] at cI
                      go_wp2_with fail
                      refine (hasString_any oa' oc' O q _ So4 (by omega)).mono ?_
                      rintro e w' ⟨⟨bb, rfl, hbb⟩, rfl⟩
                      obtain rfl : bb = false := by
                        cases bb with
                        | false => rfl
                        | true => exact absurd (hbb.1 rfl) hO
                      clear hbb
                      go_wp2_with fail
                      refine (hasString_any oa' oc' O q _ So4 (by omega)).mono ?_
                      rintro e w' ⟨⟨bb, rfl, hbb⟩, rfl⟩
                      obtain rfl : bb = false := by
                        cases bb with
                        | false => rfl
                        | true => exact absurd (hbb.1 rfl) hO
                      clear hbb
                      go_wp2_with fail
                      refine (hasString_any ma' mc' M q _ Sm4 (by omega)).mono ?_
                      rintro e w' ⟨⟨bb, rfl, hbb⟩, rfl⟩
                      obtain rfl : bb = false := by
                        cases bb with
                        | false => rfl
                        | true => exact absurd (hbb.1 rfl) hM
                      clear hbb
                      go_wp2_with fail
                      refine (hasString_any oa' oc' O q _ So4 (by omega)).mono ?_
                      rintro e w' ⟨⟨bb, rfl, hbb⟩, rfl⟩
                      obtain rfl : bb = false := by
                        cases bb with
                        | false => rfl
                        | true => exact absurd (hbb.1 rfl) hO
                      clear hbb
                      go_wp2_with fail
                      refine (hasString_any ma' mc' M q _ Sm4 (by omega)).mono ?_
                      rintro e w' ⟨⟨bb, rfl, hbb⟩, rfl⟩
                      obtain rfl : bb = false := by
                        cases bb with
                        | false => rfl
                        | true => exact absurd (hbb.1 rfl) hM
                      clear hbb
                      go_wp2_with fail
                      refine (hasString_any ia' ic' I q _ Si4 (by omega)).mono ?_
                      rintro e w' ⟨⟨bb, rfl, hbb⟩, rfl⟩
                      obtain rfl : bb = false := by
                        cases bb with
                        | false => rfl
                        | true => exact absurd (hbb.1 rfl) hI
                      clear hbb
                      clear So4 Sm4 Si4 hA hB hC hO hM hI
                      go_wp2_with fail
                      refine (cO wr (Turn.refl _ _)).mono ?_
                      rintro e wa ⟨rfl, Ta⟩
                      go_wp2_with fail
                      refine (cM wa Ta).mono ?_
                      rintro e wb ⟨rfl, Tb⟩
                      have Tab := Ta.trans Tb
                      go_wp2_with fail
                      refine (cI wb Tab).mono ?_
                      rintro e wc ⟨rfl, Tc⟩
                      have Hb := Bel (Tab.trans Tc)
                      clear cO cM cI Bel Ta Tb Tc Tab
                      go_wp2
                      go_ret
                      exact ⟨rfl, Hb⟩
end Go.Proofs.YtieiaojabkpkfaaFmt
