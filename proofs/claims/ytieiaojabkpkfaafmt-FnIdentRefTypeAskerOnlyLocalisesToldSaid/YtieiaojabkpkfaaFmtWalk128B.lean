/- The walk of FnIdentRefTypeAskerOnlyLocalises: it returns true. -/
import Derived.Test.YtieiaojabkpkfaaFmtWalk128A
namespace Go.Proofs.YtieiaojabkpkfaaFmt
open Go.RowKit
set_option linter.unusedVariables false

open Classical in
set_option maxRecDepth 100000 in
set_option maxHeartbeats 4000000 in
theorem walk_FnIdentRefTypeAskerOnlyLocalises (oa : Option Addr) (olen oc : Nat) (oss : List ByteArray) (ia : Option Addr) (ilen ic : Nat) (iss : List ByteArray) (q : ByteArray) (w : World) (ho : IsStrs w oa olen oc oss) (hi : IsStrs w ia ilen ic iss) (hq : q.size ≤ maxLen) :
    Calls Tryf.prog 4 #[.slice oa olen oc, .slice ia ilen ic, .string q] w fun e w' => e = .returned (.bool true) ∧ Below w.heap.size w w' := by
  obtain ⟨O, rfl, So, zo, mo, hno⟩ := ho.open
  obtain ⟨I, rfl, Si, zi, mi, hni⟩ := hi.open
  clear ho hi
  go_enter Tryf.func4, Tryf.ntmps4
  go_wp2_with fail
  refine (zzB_FnIdentRefTypeAskerOnlyLocalises oa oc O ia ic I q _ So mo zo Si mi zi hq).mono ?_
  rintro e w' ⟨b, rfl, hb, rfl⟩
  cases b with
  | false =>
    go_wp2
    go_ret
    exact ⟨rfl, Below.refl _ _⟩
  | true =>
    have hb1 := hb rfl
    clear hb
    by_cases q1 : 200 < O.length
    · go_wp2
      go_ret
      exact ⟨rfl, Below.refl _ _⟩
    by_cases q2 : 200 < I.length
    · go_wp2
      go_ret
      exact ⟨rfl, Below.refl _ _⟩
    go_wp2_with fail
    refine (stringsBytes_any oa oc O _ So (by omega) (by omega)).mono ?_
    rintro e w' ⟨rfl, rfl⟩
    go_wp2_with fail
    refine (stringsBytes_any ia ic I _ Si (by omega) (by omega)).mono ?_
    rintro e w' ⟨rfl, rfl⟩
    generalize hso : sumSizes O = so at hb1 ⊢
    generalize hsi : sumSizes I = si at hb1 ⊢
    have H1 := Lib.hid hso
    have H2 := Lib.hid hsi
    clear hso hsi
    have hqs : q.size ≤ 1048576 := by omega
    by_cases q5 : 1048576 < 16 * O.length + so + (16 * I.length + si) + q.size
    · have q5' : (1048576 : Int) < 16 * (O.length : Int) + (so : Int) + (16 * (I.length : Int) + (si : Int)) + (q.size : Int) := by omega
      go_wp2
      go_ret
      exact ⟨rfl, Below.refl _ _⟩
    have q5' : ¬ (1048576 : Int) < 16 * (O.length : Int) + (so : Int) + (16 * (I.length : Int) + (si : Int)) + (q.size : Int) := by omega
    clear q5
    go_wp2_with fail
    refine (clone_any oa oc O _ So (by omega) hno).mono ?_
    rintro e w1 ⟨oa', oc', rfl, So1, _, hB1⟩
    have Si1 := strs_later hB1 Si
    go_wp2_with fail
    refine (clone_any ia ic I _ Si1 (by omega) hni).mono ?_
    rintro e w2 ⟨ia', ic', rfl, Si2, _, hB2⟩
    have So2 := strs_later hB2 So1
    have hB3 : Below w.heap.size w w2 := hB1.trans (hB2.mono hB1.size)
    clear So Si So1 Si1 hno hni H1 H2 q5' hB1 hB2
    go_wp2_with fail
    refine (ZZnewFc_any _ none _).mono ?_
    intro e w3 hm
    obtain ⟨fo, A, gA, pA, vA, xA, rfl, hparA, hA, aA, hT3⟩ := hm.loc
    clear hm
    go_wp2_with fail
    refine (ZZnewFc_any _ (some ⟨fo, 0, none⟩) _).mono ?_
    intro e w4 hm
    obtain ⟨fi, B, gB, pB, vB, xB, rfl, hparB, hB, aB, hT4⟩ := hm.loc
    clear hm
    have hA4 := hA.same hT4
    have aA4 : LocAll fo A pA vA (fun x => w2.heap.size ≤ x ∧ (x < w3.heap.size ∨ w4.heap.size ≤ x)) := by
      obtain ⟨a1, a2, a3, a4, a5, a6, a7⟩ := aA
      obtain ⟨b1, b2, b3, b4, b5, b6, b7⟩ := hA.lt
      exact ⟨⟨a1, .inl b1⟩, ⟨a2, .inl b2⟩, ⟨a3, .inl b3⟩, ⟨a4, .inl b4⟩, ⟨a5, .inl b5⟩, fun k hk => ⟨a6 k hk, .inl (b6 k hk)⟩, fun k hk => ⟨a7 k hk, .inl (b7 k hk)⟩⟩
    have aB4 : LocAll fi B pB vB (fun x => w3.heap.size ≤ x ∧ x < w4.heap.size) := by
      obtain ⟨a1, a2, a3, a4, a5, a6, a7⟩ := aB
      obtain ⟨b1, b2, b3, b4, b5, b6, b7⟩ := hB.lt
      exact ⟨⟨a1, b1⟩, ⟨a2, b2⟩, ⟨a3, b3⟩, ⟨a4, b4⟩, ⟨a5, b5⟩, fun k hk => ⟨a6 k hk, b6 k hk⟩, fun k hk => ⟨a7 k hk, b7 k hk⟩⟩
    have hT24 := hT3.trans hT4
    have s23 := hT3.size
    have s34 := hT4.size
    have HA := Lib.hid hA4
    have HAA := Lib.hid aA4
    have HB := Lib.hid hB
    clear hA hA4 hB aA aB aA4 hT3 hT4
    go_wp2
    go_loopw [9] (fun i wr => ∃ (k : Nat) (pv : Value) (v : Nat → Value) (xs : List Value), k ≤ O.length ∧ i = .int .i64 k ∧ Loc wr w2.heap.size fo A gA pv v xs (O.take k) ∧ LocAll fo A pv v (fun x => w2.heap.size ≤ x ∧ (x < w3.heap.size ∨ w4.heap.size ≤ x)) ∧ Loc wr w3.heap.size fi B gB pB vB xB [] ∧ Turn w2 wr (fun _ => False) ∧ w4.heap.size ≤ wr.heap.size) (fun i _ => O.length - (intOf i).toNat)
    case atStart => exact ⟨0, pA, vA, xA, Nat.zero_le _, rfl, HA.out, HAA.out, HB.out, hT24, Nat.le_refl _⟩
    case round =>
      clear HA HAA HB hT24
      obtain ⟨k, pv, v, xs, hk, rfl, hA, aA, hB, hT, hs4⟩ := hrel
      by_cases hlt : k < O.length
      · obtain ⟨b, of, rfl, hc⟩ := strs_later (hT.below (Nat.le_refl _) (fun _ h => h.elim)) So2 k hlt
        have htk : O.take (k + 1) = O.take k ++ [O.getD k ByteArray.empty] := by
          rw [List.take_succ_eq_append_getElem hlt]; simp [List.getD, hlt]
        generalize O.getD k ByteArray.empty = x at hc htk
        have HK := Lib.hid htk
        have hlen : (O.take k).length < 200 := by simp; omega
        clear htk
        go_wp2_with fail
        refine (ZZreg_any w2.heap.size fo A gA pv v xs (O.take k) x _ hA hT.size hlen).mono ?_
        intro e w6 hm
        obtain ⟨pv', v', xs', rfl, hA6, aA6, hT6⟩ := hm.all aA (fun j hj => by omega)
        have hB6 := hB.kept hT6 (aB4.mono (fun j hj h => by omega))
        have hT7 := hT.trans' hT6 (fun j hj h => by omega)
        have hs6 := hT6.size
        rw [← HK.out] at hA6
        clear hm hA aA hB hT hT6 hc hlen
        go_wp2
        go_roundw
        case rel => exact ⟨k + 1, pv', v', xs', by omega, by go_num, hA6, aA6, hB6, hT7, by omega⟩
        case measure => simp [intOf]; omega
      · have he : k = O.length := by omega
        subst he
        rw [List.take_length] at hA
        clear hlt
        have aA5 : LocAll fo A pv v (fun x => (w2.heap.size ≤ x ∧ (x < w3.heap.size ∨ w4.heap.size ≤ x)) ∧ x < wr.heap.size) := by
          obtain ⟨a1, a2, a3, a4, a5, a6, a7⟩ := aA
          obtain ⟨b1, b2, b3, b4, b5, b6, b7⟩ := hA.lt
          exact ⟨⟨a1, b1⟩, ⟨a2, b2⟩, ⟨a3, b3⟩, ⟨a4, b4⟩, ⟨a5, b5⟩, fun k hk => ⟨a6 k hk, b6 k hk⟩, fun k hk => ⟨a7 k hk, b7 k hk⟩⟩
        have aB5 : LocAll fi B pB vB (fun x => w3.heap.size ≤ x ∧ (x < w4.heap.size ∨ wr.heap.size ≤ x)) := aB4.mono (fun x h => ⟨h.1, .inl h.2⟩)
        have HB := Lib.hid hB
        have HA := Lib.hid hA
        have HBB := Lib.hid aB5
        clear hA hB aA aB4 aB5 So2
        go_wp2
        generalize hW5 : wr = w5 at *
        clear hW5
        go_loopw [10] (fun i wr => ∃ (k : Nat) (pv2 : Value) (v2 : Nat → Value) (xs2 : List Value), k ≤ I.length ∧ i = .int .i64 k ∧ Loc wr w3.heap.size fi B gB pv2 v2 xs2 (I.take k) ∧ LocAll fi B pv2 v2 (fun x => w3.heap.size ≤ x ∧ (x < w4.heap.size ∨ w5.heap.size ≤ x)) ∧ Loc wr w2.heap.size fo A gA pv v xs O ∧ Turn w2 wr (fun _ => False) ∧ w5.heap.size ≤ wr.heap.size) (fun i _ => I.length - (intOf i).toNat)
        case atStart => exact ⟨0, pB, vB, xB, Nat.zero_le _, rfl, HB.out, HBB.out, HA.out, hT, Nat.le_refl _⟩
        case round =>
          clear HA HB HBB hT
          obtain ⟨k, pv2, v2, xs2, hk, rfl, hB, aB, hA, hT, hs5⟩ := hrel
          have Si5 := strs_later (hT.below (Nat.le_refl _) (fun _ h => h.elim)) Si2
          by_cases hlt : k < I.length
          · obtain ⟨b, of, rfl, hc⟩ := Si5 k hlt
            have htk : I.take (k + 1) = I.take k ++ [I.getD k ByteArray.empty] := by
              rw [List.take_succ_eq_append_getElem hlt]; simp [List.getD, hlt]
            generalize I.getD k ByteArray.empty = x at hc htk
            have HK := Lib.hid htk
            have hlen : (I.take k).length < 200 := by simp; omega
            clear htk Si5
            go_wp2_with fail
            refine (ZZreg_any w3.heap.size fi B gB pv2 v2 xs2 (I.take k) x _ hB (by omega) hlen).mono ?_
            intro e w6 hm
            obtain ⟨pv', v', xs', rfl, hB6, aB6, hT6⟩ := hm.all aB (fun j hj => by omega)
            have hA6 := hA.kept hT6 (aA5.mono (fun j hj h => by omega))
            have hT7 := hT.trans' hT6 (fun j hj h => by omega)
            have hs6 := hT6.size
            rw [← HK.out] at hB6
            clear hm hA aB hB hT hT6 hc hlen
            go_wp2
            go_roundw
            case rel => exact ⟨k + 1, pv', v', xs', by omega, by go_num, hB6, aB6, hA6, hT7, by omega⟩
            case measure => simp [intOf]; omega
          · have he : k = I.length := by omega
            subst he
            rw [List.take_length] at hB
            clear hlt
            have nfo : fo ≠ fi := fun e => by
              have h1 := aA5.1
              have h2 := aB.1
              omega
            have two : ∀ (p : Prop) [Decidable p] (x y : Int), 0 ≤ x → x ≤ 2 → 0 ≤ y → y ≤ 2 → 0 ≤ (if p then x else y) ∧ (if p then x else y) ≤ 2 := by
              intro p _ x y a b c d
              split <;> exact ⟨by assumption, by assumption⟩
            have Cb := fun (wz : World) (T : Turn wr wz (fun _ => False)) => ZZident_any (some ⟨fo, 0, none⟩) (some ⟨fo, 0, none⟩) q (if Has O q then 2 else 0) (two _ _ _ (by omega) (by omega) (by omega) (by omega)).1 (two _ _ _ (by omega) (by omega) (by omega) (by omega)).2 wz
              (fun x w1 T1 hx => ident_self 0 (hA.same (T.trans T1)) (by omega) hx (fun w6 T6 => by rw [hparA]; exact identRef_none _ x w6))
            have Cc := fun (wz : World) (T : Turn wr wz (fun _ => False)) => ZZident_any (some ⟨fi, 0, none⟩) (some ⟨fo, 0, none⟩) q (if Has O q then 1 else 0) (two _ _ _ (by omega) (by omega) (by omega) (by omega)).1 (two _ _ _ (by omega) (by omega) (by omega) (by omega)).2 wz
              (fun x w1 T1 hx => ident_for 0 (hA.same (T.trans T1)) (by omega) hx (hB.same (T.trans T1)).blk nfo (fun w6 T6 => by rw [hparA]; exact identRef_none _ x w6))
            have Ca := fun (wz : World) (T : Turn wr wz (fun _ => False)) => ZZident_any (some ⟨fi, 0, none⟩) (some ⟨fi, 0, none⟩) q (if Has I q then 2 else (if Has O q then 1 else 0)) (two _ _ _ (by omega) (by omega) (two _ _ _ (by omega) (by omega) (by omega) (by omega)).1 (two _ _ _ (by omega) (by omega) (by omega) (by omega)).2).1 (two _ _ _ (by omega) (by omega) (two _ _ _ (by omega) (by omega) (by omega) (by omega)).1 (two _ _ _ (by omega) (by omega) (by omega) (by omega)).2).2 wz
              (fun x w1 T1 hx => ident_self _ (hB.same (T.trans T1)) (by omega) hx (fun w6 T6 => by
                rw [hparB]
                exact ident_for 0 (hA.same ((T.trans T1).trans T6)) (by omega) (T6.cell hx id) (hB.same ((T.trans T1).trans T6)).blk nfo (fun w7 T7 => by rw [hparA]; exact identRef_none _ x w7)))
            clear two
            by_cases hO : Has O q
            · by_cases hI : Has I q
              · skip
                rw [if_pos hO] at Cb Cc
                rw [if_pos hI] at Ca
                go_wp2_with fail
                refine (Cb wr (Turn.refl _ _)).mono ?_
                rintro e wb ⟨rfl, Tb⟩
                go_wp2_with fail
                refine (Ca wb Tb).mono ?_
                rintro e wc ⟨rfl, Tc⟩
                have Tbc := Tb.trans Tc
                go_wp2_with fail
                refine (Cc wc Tbc).mono ?_
                rintro e wd ⟨rfl, Td⟩
                have Tbd := Tbc.trans Td
                have Si6 := strs_later ((hT.trans Tbd).below (Nat.le_refl _) (fun _ h => h.elim)) Si2
                have hbel := hB3.trans ((hT.trans Tbd).below hB3.size (fun _ h => h.elim))
                clear Ca Cb Cc hA hB Tb Tc Tbc Td Tbd Si5
                go_wp2_with fail
                refine (liftRef_any 2 _).mono ?_
                rintro e w' ⟨rfl, rfl⟩
                go_wp2_with fail
                refine (hasString_any ia' ic' I q _ Si6 (by omega)).mono ?_
                rintro e w' ⟨⟨bb, rfl, hbb⟩, rfl⟩
                obtain rfl : bb = true := hbb.2 hI
                clear hbb Si6
                go_wp2
                go_ret
                exact ⟨rfl, hbel⟩
              · skip
                rw [if_pos hO] at Cb Cc
                rw [if_neg hI] at Ca
                rw [if_pos hO] at Ca
                go_wp2_with fail
                refine (Cb wr (Turn.refl _ _)).mono ?_
                rintro e wb ⟨rfl, Tb⟩
                go_wp2_with fail
                refine (Ca wb Tb).mono ?_
                rintro e wc ⟨rfl, Tc⟩
                have Tbc := Tb.trans Tc
                go_wp2_with fail
                refine (Cc wc Tbc).mono ?_
                rintro e wd ⟨rfl, Td⟩
                have Tbd := Tbc.trans Td
                have Si6 := strs_later ((hT.trans Tbd).below (Nat.le_refl _) (fun _ h => h.elim)) Si2
                have hbel := hB3.trans ((hT.trans Tbd).below hB3.size (fun _ h => h.elim))
                clear Ca Cb Cc hA hB Tb Tc Tbc Td Tbd Si5
                go_wp2_with fail
                refine (liftRef_any 2 _).mono ?_
                rintro e w' ⟨rfl, rfl⟩
                go_wp2_with fail
                refine (hasString_any ia' ic' I q _ Si6 (by omega)).mono ?_
                rintro e w' ⟨⟨bb, rfl, hbb⟩, rfl⟩
                obtain rfl : bb = false := by
                  cases bb with
                  | false => rfl
                  | true => exact absurd (hbb.1 rfl) hI
                clear hbb Si6
                go_wp2_with fail
                refine (liftRef_any 2 _).mono ?_
                rintro e w' ⟨rfl, rfl⟩
                go_wp2
                go_ret
                exact ⟨rfl, hbel⟩
            · by_cases hI : Has I q
              · skip
                rw [if_neg hO] at Cb Cc
                rw [if_pos hI] at Ca
                go_wp2_with fail
                refine (Cb wr (Turn.refl _ _)).mono ?_
                rintro e wb ⟨rfl, Tb⟩
                go_wp2_with fail
                refine (Ca wb Tb).mono ?_
                rintro e wc ⟨rfl, Tc⟩
                have Tbc := Tb.trans Tc
                go_wp2_with fail
                refine (Cc wc Tbc).mono ?_
                rintro e wd ⟨rfl, Td⟩
                have Tbd := Tbc.trans Td
                have Si6 := strs_later ((hT.trans Tbd).below (Nat.le_refl _) (fun _ h => h.elim)) Si2
                have hbel := hB3.trans ((hT.trans Tbd).below hB3.size (fun _ h => h.elim))
                clear Ca Cb Cc hA hB Tb Tc Tbc Td Tbd Si5
                go_wp2_with fail
                refine (liftRef_any 0 _).mono ?_
                rintro e w' ⟨rfl, rfl⟩
                go_wp2_with fail
                refine (hasString_any ia' ic' I q _ Si6 (by omega)).mono ?_
                rintro e w' ⟨⟨bb, rfl, hbb⟩, rfl⟩
                obtain rfl : bb = true := hbb.2 hI
                clear hbb Si6
                go_wp2
                go_ret
                exact ⟨rfl, hbel⟩
              · skip
                rw [if_neg hO] at Cb Cc
                rw [if_neg hI] at Ca
                rw [if_neg hO] at Ca
                go_wp2_with fail
                refine (Cb wr (Turn.refl _ _)).mono ?_
                rintro e wb ⟨rfl, Tb⟩
                go_wp2_with fail
                refine (Ca wb Tb).mono ?_
                rintro e wc ⟨rfl, Tc⟩
                have Tbc := Tb.trans Tc
                go_wp2_with fail
                refine (Cc wc Tbc).mono ?_
                rintro e wd ⟨rfl, Td⟩
                have Tbd := Tbc.trans Td
                have Si6 := strs_later ((hT.trans Tbd).below (Nat.le_refl _) (fun _ h => h.elim)) Si2
                have hbel := hB3.trans ((hT.trans Tbd).below hB3.size (fun _ h => h.elim))
                clear Ca Cb Cc hA hB Tb Tc Tbc Td Tbd Si5
                go_wp2_with fail
                refine (liftRef_any 0 _).mono ?_
                rintro e w' ⟨rfl, rfl⟩
                go_wp2_with fail
                refine (hasString_any ia' ic' I q _ Si6 (by omega)).mono ?_
                rintro e w' ⟨⟨bb, rfl, hbb⟩, rfl⟩
                obtain rfl : bb = false := by
                  cases bb with
                  | false => rfl
                  | true => exact absurd (hbb.1 rfl) hI
                clear hbb Si6
                go_wp2_with fail
                refine (liftRef_any 0 _).mono ?_
                rintro e w' ⟨rfl, rfl⟩
                go_wp2
                go_ret
                exact ⟨rfl, hbel⟩
end Go.Proofs.YtieiaojabkpkfaaFmt
