/- The walk of FnPatchCodeFrameCoversWrites: it returns true. Printed by wip/genP.py. -/
import Derived.Test.YtieiaojabkpkfaaFmtWalkP
import Derived.Test.YtieiaojabkpkfaaFmtBytesP
import Derived.Test.YtieiaojabkpkfaaFmtWalkPM
namespace Go.Proofs.YtieiaojabkpkfaaFmt
open Go.RowKit
set_option linter.unusedVariables false

set_option maxRecDepth 100000 in
set_option maxHeartbeats 4000000 in
theorem walk_FnPatchCodeFrameCoversWrites (a : Option Addr) (len c : Nat) (zs : List Int) (np : Int) (w : World) (h : IsRow .u32 w a len c zs) (hnp : (Lit.int .u8 np).wf = true) :
    Calls Tryf.prog 7 #[.slice a len c, .int .u8 np] w fun e w' => e = .returned (.bool true) ∧ Below w.heap.size w w' := by
  obtain ⟨L, rfl, S, hwf, hm, hnil⟩ := h.open
  have h32 := all32_of hwf
  have hnp := u8_of hnp
  clear h hwf
  go_enter Tryf.func7, Tryf.ntmps7
  go_wp2_with fail
  refine (zzB_FnPatchCodeFrameCoversWrites a L.length c np _ hm).mono ?_
  rintro e w' ⟨b, rfl, hb, rfl⟩
  cases b with
  | false =>
    go_wp2
    go_ret
    exact ⟨rfl, Below.refl _ _⟩
  | true =>
    have hb1 := hb rfl
    clear hb hm
    by_cases q1 : 65536 < L.length
    · go_wp2
      go_ret
      exact ⟨rfl, Below.refl _ _⟩
    by_cases q2 : 199 < np
    · go_wp2
      go_ret
      exact ⟨rfl, Below.refl _ _⟩
    go_wp2_with fail
    refine (hasJump_any a c L _ S h32 (by omega)).mono ?_
    rintro e w' ⟨⟨b, rfl, hj⟩, rfl⟩
    cases b with
    | true =>
      clear hj
      go_wp2
      go_ret
      exact ⟨rfl, Below.refl _ _⟩
    | false =>
      have hj1 := hj rfl
      clear hj
      have HJ := Lib.hid hj1
      clear hj1
      go_wp2_with fail
      refine (fieldsSmall_any a c L _ S h32 (by omega)).mono ?_
      rintro e w' ⟨⟨b, rfl, hs⟩, rfl⟩
      cases b with
      | false =>
        clear hs
        go_wp2
        go_ret
        exact ⟨rfl, Below.refl _ _⟩
      | true =>
        have hs1 := hs rfl
        clear hs
        have HS := Lib.hid hs1
        clear hs1
        go_wp2_with fail
        refine (cloneW_any a c L _ S (by omega) hnil).mono ?_
        rintro e w1 ⟨a', c', rfl, S1, hB1, hn'⟩
        clear S hn' hnil
        have H32 := Lib.hid h32
        clear h32
        have hbd := regs_bd L np HS.out (by omega)
        have hrg := regs_reg L np
        have S2 : ∀ (w9 : World), Below w1.heap.size w1 w9 → Ints .u32 w9 a' L := fun w9 hB => ints_later hB S1
        go_wp2_with fail
        refine (countOf_any a' c' L np _ S1 (by omega) H32.out HJ.out HS.out (by omega) (by omega)).mono ?_
        intro e w2 hm
        obtain ⟨rfl, hB2⟩ := hm
        have S2 := ints_later hB2 S1
        have hB3 := hB1.trans (hB2.mono hB1.size)
        generalize hr : regs L np = r at hbd hrg ⊢
        have HRG := Lib.hid hrg
        clear hr hrg S1 hB1 hB2 HS HJ
        have k1 : ¬ 200 < r := by omega
        have k2 : ¬ r < 2 := by omega
        have k3 : ¬ r < np + 1 := by omega
        go_wp2
        go_loop [6] (fun s => ∃ i : Nat, i ≤ L.length ∧ s = .int .i64 i) (fun s => L.length - (intOf s).toNat)
        case atStart => exact ⟨0, Nat.zero_le _, rfl⟩
        case round =>
          obtain ⟨i, hi, rfl⟩ := hrel
          by_cases hlt : i < L.length
          · obtain ⟨b1, o1, rfl, hc1⟩ := S2 i hlt
            have hx32 := H32.out i hlt
            have hrg := HRG.out i hlt
            have zi : (i : Int) < (L.length : Int) := by omega
            generalize L.getD i 0 = x at hc1 hx32 hrg
            have hA := aI_bd x
            have hB := bI_bd x
            have hC := cI_bd x
            have hgen : ∀ o, opI x = o → opI x = o := fun _ h => h
            clear hgen S2
            go_wp2_with fail
            refine (argA_any x hx32 _).mono ?_
            rintro e w' ⟨rfl, rfl⟩
            go_wp2_with fail
            refine (argB_any x hx32 _).mono ?_
            rintro e w' ⟨rfl, rfl⟩
            go_wp2_with fail
            refine (argC_any x hx32 _).mono ?_
            rintro e w' ⟨rfl, rfl⟩
            go_wp2_with fail
            refine (opOf_any x hx32 _).mono ?_
            rintro e w' ⟨rfl, rfl⟩
            generalize ho : opI x = o
            have HO := Lib.hid ho
            clear ho
            have r1 := fun h => reg_else x h
            have r2 := reg_call x
            have r3 := reg_vararg x
            have r4 := reg_self x
            have r5 := reg_nil x
            rw [HO.out] at r1 r2 r3 r4 r5
            have R1 := Lib.hid r1
            have R2 := Lib.hid r2
            have R3 := Lib.hid r3
            have R4 := Lib.hid r4
            have R5 := Lib.hid r5
            clear r1 r2 r3 r4 r5
            generalize reg x = rg at hrg R1 R2 R3 R4 R5
            generalize aI x = ax at *
            generalize bI x = bx at *
            generalize cI x = cx at *
            by_cases h20 : o = 0 ∨ o = 1 ∨ o = 2 ∨ o = 3 ∨ o = 5 ∨ o = 6 ∨ o = 7 ∨ o = 8 ∨ o = 13 ∨ o = 15 ∨ o = 16 ∨ o = 17 ∨ o = 18 ∨ o = 19 ∨ o = 20 ∨ o = 21 ∨ o = 22 ∨ o = 23 ∨ o = 24 ∨ o = 30
            · rcases h20 with rfl | rfl | rfl | rfl | rfl | rfl | rfl | rfl | rfl | rfl | rfl | rfl | rfl | rfl | rfl | rfl | rfl | rfl | rfl | rfl
              all_goals
                have e1 : rg = ax := R1.out (by decide) (by decide) (by decide) (by decide) (by decide)
                subst e1
                have k4 : ¬ r < rg + 1 := by omega
                clear R1 R2 R3 R4 R5
                as_aux_lemma =>
                go_wp2
                go_round
                case rel => exact ⟨i + 1, by omega, by go_num⟩
                case measure => simp [intOf]; omega
            by_cases h14 : o = 14
            · subst h14
              have e1 : rg = ax + 1 := R4.out rfl
              have k4 : ¬ r < ax + 2 := by omega
              clear R1 R2 R3 R4 R5 h20 e1
              as_aux_lemma =>
              go_wp2
              go_round
              case rel => exact ⟨i + 1, by omega, by go_num⟩
              case measure => simp [intOf]; omega
            by_cases h4 : o = 4
            · subst h4
              have e1 : rg = bx := R5.out rfl
              subst e1
              by_cases q : ax ≤ rg
              · have k4 : ¬ r < rg + 1 := by omega
                clear R1 R2 R3 R4 R5 h20
                as_aux_lemma =>
                go_wp2
                go_round
                case rel => exact ⟨i + 1, by omega, by go_num⟩
                case measure => simp [intOf]; omega
              · have k4 : ¬ r < 0 := by omega
                clear R1 R2 R3 R4 R5 h20
                as_aux_lemma =>
                go_wp2
                go_round
                case rel => exact ⟨i + 1, by omega, by go_num⟩
                case measure => simp [intOf]; omega
            by_cases h31 : o = 31
            · subst h31
              have e1 : rg = ax + cx - 2 := R2.out rfl
              by_cases q : 2 ≤ cx
              · have k4 : ¬ r < ax + cx - 1 := by omega
                clear R1 R2 R3 R4 R5 h20 e1
                as_aux_lemma =>
                go_wp2
                go_round
                case rel => exact ⟨i + 1, by omega, by go_num⟩
                case measure => simp [intOf]; omega
              · have k4 : ¬ r < 0 := by omega
                clear R1 R2 R3 R4 R5 h20 e1
                as_aux_lemma =>
                go_wp2
                go_round
                case rel => exact ⟨i + 1, by omega, by go_num⟩
                case measure => simp [intOf]; omega
            by_cases h40 : o = 40
            · subst h40
              have e1 : rg = ax + bx - 1 := R3.out rfl
              by_cases q : 1 ≤ bx
              · have k4 : ¬ r < ax + bx := by omega
                clear R1 R2 R3 R4 R5 h20 e1
                as_aux_lemma =>
                go_wp2
                go_round
                case rel => exact ⟨i + 1, by omega, by go_num⟩
                case measure => simp [intOf]; omega
              · have k4 : ¬ r < 0 := by omega
                clear R1 R2 R3 R4 R5 h20 e1
                as_aux_lemma =>
                go_wp2
                go_round
                case rel => exact ⟨i + 1, by omega, by go_num⟩
                case measure => simp [intOf]; omega
            have b0 : (o == 0) = false := by rw [beq_eq_false_iff_ne]; intro e; exact h20 (by omega)
            have b1 : (o == 1) = false := by rw [beq_eq_false_iff_ne]; intro e; exact h20 (by omega)
            have b2 : (o == 2) = false := by rw [beq_eq_false_iff_ne]; intro e; exact h20 (by omega)
            have b3 : (o == 3) = false := by rw [beq_eq_false_iff_ne]; intro e; exact h20 (by omega)
            have b5 : (o == 5) = false := by rw [beq_eq_false_iff_ne]; intro e; exact h20 (by omega)
            have b6 : (o == 6) = false := by rw [beq_eq_false_iff_ne]; intro e; exact h20 (by omega)
            have b7 : (o == 7) = false := by rw [beq_eq_false_iff_ne]; intro e; exact h20 (by omega)
            have b8 : (o == 8) = false := by rw [beq_eq_false_iff_ne]; intro e; exact h20 (by omega)
            have b13 : (o == 13) = false := by rw [beq_eq_false_iff_ne]; intro e; exact h20 (by omega)
            have b15 : (o == 15) = false := by rw [beq_eq_false_iff_ne]; intro e; exact h20 (by omega)
            have b16 : (o == 16) = false := by rw [beq_eq_false_iff_ne]; intro e; exact h20 (by omega)
            have b17 : (o == 17) = false := by rw [beq_eq_false_iff_ne]; intro e; exact h20 (by omega)
            have b18 : (o == 18) = false := by rw [beq_eq_false_iff_ne]; intro e; exact h20 (by omega)
            have b19 : (o == 19) = false := by rw [beq_eq_false_iff_ne]; intro e; exact h20 (by omega)
            have b20 : (o == 20) = false := by rw [beq_eq_false_iff_ne]; intro e; exact h20 (by omega)
            have b21 : (o == 21) = false := by rw [beq_eq_false_iff_ne]; intro e; exact h20 (by omega)
            have b22 : (o == 22) = false := by rw [beq_eq_false_iff_ne]; intro e; exact h20 (by omega)
            have b23 : (o == 23) = false := by rw [beq_eq_false_iff_ne]; intro e; exact h20 (by omega)
            have b24 : (o == 24) = false := by rw [beq_eq_false_iff_ne]; intro e; exact h20 (by omega)
            have b30 : (o == 30) = false := by rw [beq_eq_false_iff_ne]; intro e; exact h20 (by omega)
            have b14 : (o == 14) = false := by rw [beq_eq_false_iff_ne]; exact h14
            have b4 : (o == 4) = false := by rw [beq_eq_false_iff_ne]; exact h4
            have b31 : (o == 31) = false := by rw [beq_eq_false_iff_ne]; exact h31
            have b40 : (o == 40) = false := by rw [beq_eq_false_iff_ne]; exact h40
            have k4 : ¬ r < 0 := by omega
            clear R1 R2 R3 R4 R5 h20 h14 h4 h31 h40
            as_aux_lemma =>
            go_wp2
            go_round
            case rel => exact ⟨i + 1, by omega, by go_num⟩
            case measure => simp [intOf]; omega
          · have he : i = L.length := by omega
            subst he
            clear hlt S2
            go_wp2
            go_ret
            exact ⟨rfl, hB3⟩
end Go.Proofs.YtieiaojabkpkfaaFmt
