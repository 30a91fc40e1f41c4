/- The walk of FnBreakTwiceSame: it returns true. Printed by wip/genW135.py. -/
import Derived.Test.YtabienikffakiaaFmtPre135
import Derived.LaidEqlPtr
namespace Go.Proofs.YtabienikffakiaaFmt
open Go.RowKit
set_option linter.unusedVariables false

set_option maxRecDepth 100000 in
set_option maxHeartbeats 16000000 in
theorem walk_FnBreakTwiceSame (r : Int) (a1 : Option Addr) (n1 c1 : Nat) (z1 : Nat → Bool) (a2 : Option Addr) (n2 c2 : Nat) (z2 : List Int) (a3 : Option Addr) (n3 c3 : Nat) (z3 : Nat → Bool) (bl : Int) (w : World) (hr : (Lit.int .i64 r).wf = true) (h1 : IsBools w a1 n1 c1 z1) (h2 : IsRow .i64 w a2 n2 c2 z2) (h3 : IsBools w a3 n3 c3 z3) (hbl : (Lit.int .i64 bl).wf = true) :
    Calls Tryf.prog 4 #[.int .i64 r, .slice a1 n1 c1, .slice a2 n2 c2, .slice a3 n3 c3, .int .i64 bl] w fun e w' => e = .returned (.bool true) ∧ Below w.heap.size w w' := by
  obtain ⟨loops, hl1, S1, m1, hn1⟩ := h1.open
  obtain ⟨ns, rfl, S2, hwf, m2, hn2⟩ := h2.open
  obtain ⟨refs, hl3, S3, m3, hn3⟩ := h3.open
  clear h1 h2 h3 hwf hr hbl
  obtain ⟨jj, hjj⟩ : ∃ j, Tryf.prog.info? 71 = some j := Option.isSome_iff_exists.1 (by kernel_rfl)
  go_enter Tryf.func4, Tryf.ntmps4
  go_wp2_with fail
  refine (zzB_FnBreakTwiceSame r a1 n1 c1 a2 ns.length c2 a3 n3 c3 bl _ m1 m2 m3).mono ?_
  rintro e w' ⟨b, rfl, hb, rfl⟩
  cases b with
  | false =>
    go_wp2
    go_ret
    exact ⟨rfl, Below.refl _ _⟩
  | true =>
  have hb1 := hb rfl
  clear hb m1 m2 m3
  go_wp2_with fail
  refine (breakGuards_any r a1 a2 a3 n1 c1 c2 n3 c3 ns _ S2 (by omega) (by omega) (by omega)).mono ?_
  rintro e w' ⟨b, rfl, hb, rfl⟩
  cases b with
  | false =>
    go_wp2
    go_ret
    exact ⟨rfl, Below.refl _ _⟩
  | true =>
  have hg := hb rfl
  clear hb hb1
  obtain ⟨g1, g3, hsm, hr0, hE, hS⟩ := hg
  subst g1 g3
  have HE := Lib.hid hE
  have HS := Lib.hid hS
  have HP := Lib.hid (psum_nonneg (fun k hk => (hE k hk).1))
  have HL1 := Lib.hid hl1
  have HL3 := Lib.hid hl3
  clear hE hS
  have q1 := copyBools_any a1 c1 loops w S1 (by omega) (by rw [hl1]; exact hn1)
  rw [hl1] at q1
  go_wp2_with fail
  refine q1.mono ?_
  rintro e w1 ⟨b1, d1, he, X1, B1, _⟩
  rw [hl1] at he
  subst he
  have T1 := Turn.of_below B1
  have S2' := ints_later B1 S2
  have S3' := bools_later B1 S3
  clear q1 B1 S1 S2 S3
  go_wp2_with fail
  refine (copyInts_any a2 c2 ns w1 S2' (by omega) hn2).mono ?_
  rintro e w2 ⟨b2, d2, rfl, X2, B2, _⟩
  have T2 := T1.trans (Turn.of_below B2)
  have X1' := bools_later B2 X1
  have S3'' := bools_later B2 S3'
  clear B2 S2' S3' X1 T1
  have q3 := copyBools_any a3 c3 refs w2 S3'' (by omega) (by rw [hl3]; exact hn3)
  rw [hl3] at q3
  go_wp2_with fail
  refine q3.mono ?_
  rintro e w3 ⟨b3, d3, he, X3, B3, _⟩
  rw [hl3] at he
  subst he
  have T3 := T2.trans (Turn.of_below B3)
  have X1'' := bools_later B3 X1'
  have X2' := ints_later B3 X2
  clear B3 q3 S3'' X1' X2 T2 hn1 hn2 hn3
  go_wp2_with fail
  refine (build_any r b1 b2 b3 ns.length d1 d2 d3 loops refs ns bl w3 hl1 rfl hl3 X1'' X2' X3 hsm hr0 HE.out HS.out HP.out).mono ?_
  rintro e w4 ⟨fc, F, gL, B, R, g, cap, ys, mm, v, xs, he, hB⟩
  rw [hl1] at he
  subst he
  have HB := Lib.hid hB
  have T4 := T3.trans' hB.turn (fun _ _ h => h)
  have Y2 := hB.turn.ints X2' (fun _ _ => id)
  have HX3 := Lib.hid X3
  have hw03 := T3.size
  have Y3 := hB.turn.bools X3 (fun _ _ => id)
  have hlab : ∀ k, k < ns.length → w4.cell? ⟨gL, k, none⟩ = some (.int .i64 (labAt loops k)) := fun k hk => hB.labels k (by omega)
  have HT4 := Lib.hid T4
  have HLAB := Lib.hid hlab
  have HY2 := Lib.hid Y2
  have HY3 := Lib.hid Y3
  clear hB T3 T4 X1'' X2' X3 Y2 Y3 hlab hl1 hl3
  generalize hn : ns.length = n at *
  have HN := Lib.hid hn
  clear hn
  go_wp2
  go_loop [13, 14] (fun t i => ∃ k : Nat, k ≤ n ∧ i = .int .i64 k ∧ t = .bool (decide (0 ≤ lastT loops k))) (fun _ i => n - (intOf i).toNat)
  case atStart => exact ⟨0, Nat.zero_le _, rfl, rfl⟩
  case round =>
    obtain ⟨k, hk, rfl, rfl⟩ := hrel
    by_cases hlt : k < n
    · have hc := HLAB.out k hlt
      have hstep : lastT loops (k + 1) = if loops.getD k false then (k : Int) else lastT loops k := rfl
      cases hbk : loops.getD k false with
      | true =>
        rw [hbk] at hstep
        rw [labAt_true hbk] at hc
        have z : (0 : Int) ≤ (cntT loops k : Int) := Int.natCast_nonneg _
        generalize (cntT loops k : Int) = ct at *
        generalize decide (0 ≤ lastT loops k) = dk at *
        have H1 := Lib.hid hstep
        clear hstep hbk
        go_wp2
        go_round
        case rel => exact ⟨k + 1, by omega, by go_num, by rw [H1.out]; simp⟩
        case measure => simp [intOf]; omega
      | false =>
        rw [hbk] at hstep
        rw [labAt_false hbk] at hc
        have H2 : decide (0 ≤ lastT loops k) = decide (0 ≤ lastT loops (k + 1)) := by rw [hstep]; rfl
        generalize decide (0 ≤ lastT loops k) = dk at *
        have H1 := Lib.hid H2
        clear hstep hbk H2
        go_wp2
        go_round
        case rel => exact ⟨k + 1, by omega, by go_num, by rw [H1.out]⟩
        case measure => simp [intOf]; omega
    · have he : k = n := by omega
      subst he
      rcases lastT_spec loops k with hl | ⟨t, ht, hl, htt, hz⟩
      · have hd : decide (0 ≤ lastT loops k) = false := by rw [hl]; rfl
        rw [hd]
        clear hl hd
        go_wp2
        go_ret
        exact ⟨rfl, HT4.out.below (Nat.le_refl _) (fun _ h => h.elim)⟩
      · have hd : decide (0 ≤ lastT loops k) = true := by rw [hl]; simp
        rw [hd]
        have hrd := HB.out.rdy t (by rw [HL1.out]; exact ht) htt (fun i i1 i2 => hz i i1 (by rw [HL1.out] at i2; exact i2)) (by have := HP.out t (by omega); omega) (HS.out t (by omega))
        rw [HL1.out] at hrd
        have hbge := HB.out.st.loc.cge
        have hFc := HB.out.st.loc.code
        have hFg : w3.heap.size ≤ F.gc ∧ w3.heap.size ≤ F.gl ∧ w3.heap.size ≤ F.c := ⟨(hFc.codes.lt _ rfl).1, (hFc.lines.lt _ rfl).1, hbge⟩
        generalize r + psum ns t = off at *
        generalize labAt loops t = lab at *
        generalize refs.getD t false = rf at *
        generalize 1 + (cntT loops k : Int) = lid at *
        generalize B.top = rt at *
        generalize B.b = bk at *
        have HF := Lib.hid (show Face w4 fc F.c bk (.slice (some ⟨F.gc, 0, none⟩) 0 1024) (.slice (some ⟨F.gl, 0, none⟩) 0 1024) 0 rt lid from by simpa using hrd.face 0 rfl)
        have hsz4 := HB.out.turn.size
        have HRD := Lib.hid hrd
        have HBT := Lib.hid HB.out.turn
        clear hd hl htt hz hlt hk hrd hFc HB HE HS HP HL1 HL3 HLAB HY2 HY3 HN HX3
        go_wp2_with fail
        refine (ZZpc_any HF.out).mono ?_
        rintro e w' ⟨rfl, rfl⟩
        go_wp2_with fail
        refine (ZZlabelID_any HF.out).mono ?_
        rintro e w' ⟨rfl, rfl⟩
        go_wp2_with fail
        refine (ZZregTop_any HF.out).mono ?_
        rintro e w' ⟨rfl, rfl⟩
        go_wp2_with fail
        refine (ZZblock_any HF.out).mono ?_
        rintro e w' ⟨rfl, rfl⟩
        go_wp2_with fail
        refine (setLine_any _ _ bl (.int .i64 0) _ (cell_of_blk (alloc_blk _ _) 0 (.int .i64 0) rfl) (free_of_blk (alloc_blk _ _) 0)).mono ?_
        rintro e w5 ⟨rfl, hw5⟩
        have hstb := blk_setCell (alloc_blk w4 (.cells #[.int .i64 0, .int .i64 0] 40)) 0 (.int .i64 bl)
        rw [hw5] at hstb
        have T5 : Turn w4 w5 (fun _ => False) := by
          rw [← hw5]
          exact ((Turn.refl w4 (fun _ => False)).alloc _).setCell (fun h => absurd h (Nat.lt_irrefl _)) _
        have hsz5 := T5.size
        have R5 := Lib.hid (HRD.out.same T5)
        clear hw5 HRD HF
        go_wp2_with fail
        refine (ZZbreak_any _ bl R5.out hstb (by omega) (by simp)).mono ?_
        rintro e w6 ⟨gc, cc, gl, cl, rfl, hR6, T6, hst6, n6, m6⟩
        have hbt := HBT.out.size
        have hww : w.heap.size ≤ w3.heap.size := hw03
        have hsz6 := T6.size
        have T46 : Turn w w6 (fun _ => False) := (HT4.out.trans T5).trans' T6 (fun q hq h => by omega)
        simp only [List.nil_append] at hR6
        have hgg : w3.heap.size ≤ gc ∧ w3.heap.size ≤ gl := by omega
        have HT6 := Lib.hid T46
        clear T46 T5 T6 R5 hstb HT4 n6 m6
        cases rf with
        | true =>
          have HF6 := Lib.hid (show Face w6 fc F.c bk (.slice (some ⟨gc, 0, none⟩) 2 cc) (.slice (some ⟨gl, 0, none⟩) 2 cl) 2 rt lid from by simpa using hR6.face 2 rfl)
          have R6 := Lib.hid hR6
          clear hR6
          go_wp2_with fail
          refine (ZZpc_any HF6.out).mono ?_
          rintro e w' ⟨rfl, rfl⟩
          go_wp2_with fail
          refine (ZZbreak_any _ bl R6.out hst6 (by omega) (by show (2 : Nat) ≤ 1000; omega)).mono ?_
          rintro e w7 ⟨gc2, cc2, gl2, cl2, rfl, hR7, T7, _, _, _⟩
          have HF7 := Lib.hid (show Face w7 fc F.c bk (.slice (some ⟨gc2, 0, none⟩) 4 cc2) (.slice (some ⟨gl2, 0, none⟩) 4 cl2) 4 rt lid from by simpa using hR7.face 4 rfl)
          have HT7 := Lib.hid (HT6.out.trans' T7 (fun q hq h => by omega))
          obtain ⟨u0, hu0⟩ : ∃ u, u = mkABC 38 off 0 0 := ⟨_, rfl⟩
          obtain ⟨u1, hu1⟩ : ∃ u, u = mkABx 25 0 (lab + 131071) := ⟨_, rfl⟩
          have x0 : w7.cell? ⟨gc2, 0, none⟩ = some (.int .u32 u0) := by rw [hu0]; exact hR7.code.cell 0 (by show (0 : Nat) < 4; omega)
          have x1 : w7.cell? ⟨gc2, 1, none⟩ = some (.int .u32 u1) := by rw [hu1]; exact hR7.code.cell 1 (by show (1 : Nat) < 4; omega)
          have x2 : w7.cell? ⟨gc2, 2, none⟩ = some (.int .u32 u0) := by rw [hu0]; exact hR7.code.cell 2 (by show (2 : Nat) < 4; omega)
          have x3 : w7.cell? ⟨gc2, 3, none⟩ = some (.int .u32 u1) := by rw [hu1]; exact hR7.code.cell 3 (by show (3 : Nat) < 4; omega)
          have Q0 := Lib.hid x0
          have Q1 := Lib.hid x1
          have Q2 := Lib.hid x2
          have Q3 := Lib.hid x3
          clear hu0 hu1 x0 x1 x2 x3 hR7 T7 HF6 R6 HT6
          go_wp2_with fail
          refine (ZZpc_any HF7.out).mono ?_
          rintro e w' ⟨rfl, rfl⟩
          go_wp2_with fail
          refine (ZZcodes_any HF7.out).mono ?_
          rintro e w' ⟨rfl, rfl⟩
          go_wp2
          go_loopw [24] (fun i wr => (i = .int .i64 0 ∨ i = .int .i64 1 ∨ i = .int .i64 2) ∧ Turn w7 wr (fun _ => False)) (fun i _ => 2 - (intOf i).toNat)
          case atStart => exact ⟨.inl rfl, Turn.refl _ _⟩
          case round =>
            obtain ⟨hi, TQ⟩ := hrel
            have HFq : Face wr fc F.c bk (.slice (some ⟨gc2, 0, none⟩) 4 cc2) (.slice (some ⟨gl2, 0, none⟩) 4 cl2) 4 rt lid := by
              have h := HF7.out
              exact ⟨TQ.cell h.c1 id, TQ.cell h.c4 id, TQ.cell h.c6 id, TQ.cell h.c7 id, TQ.cell h.d0 id, TQ.cell h.d1 id, TQ.cell h.d2 id⟩
            have HTq := Lib.hid (HT7.out.trans TQ)
            have y0 := TQ.cell Q0.out id
            have y1 := TQ.cell Q1.out id
            have y2 := TQ.cell Q2.out id
            have y3 := TQ.cell Q3.out id
            have HFQ := Lib.hid HFq
            have HTQ := Lib.hid TQ
            clear HFq TQ
            have e0 : IntKind.i64.wrap (0 : Int) = 0 := wrap_i64_small _ (by omega) (by omega)
            have e1 : IntKind.i64.wrap (1 : Int) = 1 := wrap_i64_small _ (by omega) (by omega)
            have e2 : IntKind.i64.wrap (2 : Int) = 2 := wrap_i64_small _ (by omega) (by omega)
            have e3 : IntKind.i64.wrap (3 : Int) = 3 := wrap_i64_small _ (by omega) (by omega)
            rcases hi with rfl | rfl | rfl
            · go_wp2_with fail
              refine wp_region_still_lit (by kernel_rfl) (by kernel_rfl) ?_
              repeat still_step
              refine wpStill_nil ?_
              go_wp2
              go_roundw
              case rel => exact ⟨.inr (.inl rfl), HTQ.out.drew⟩
              case measure => decide
            · go_wp2_with fail
              refine wp_region_still_lit (by kernel_rfl) (by kernel_rfl) ?_
              repeat still_step
              refine wpStill_nil ?_
              go_wp2
              go_roundw
              case rel => exact ⟨.inr (.inr (rfl)), HTQ.out.drew⟩
              case measure => decide
            · go_wp2_with fail
              refine (ZZlabelID_any HFQ.out).mono ?_
              rintro e w' ⟨rfl, rfl⟩
              go_wp2_with fail
              refine (ZZregTop_any HFQ.out).mono ?_
              rintro e w' ⟨rfl, rfl⟩
              go_wp2_with fail
              refine (ZZblock_any HFQ.out).mono ?_
              rintro e w' ⟨rfl, rfl⟩
              have hpe := fun wx : World => run_eql_ptr_same (P := Tryf.prog) wx (⟨bk, 0, none⟩ : Addr) Tryf.underlying32 hjj
              go_wp2
              go_ret
              exact ⟨rfl, HTq.out.below (Nat.le_refl _) (fun _ h => h.elim)⟩
        | false =>
          have HF6 := Lib.hid (show Face w6 fc F.c bk (.slice (some ⟨gc, 0, none⟩) 1 cc) (.slice (some ⟨gl, 0, none⟩) 1 cl) 1 rt lid from by simpa using hR6.face 1 rfl)
          have R6 := Lib.hid hR6
          clear hR6
          go_wp2_with fail
          refine (ZZpc_any HF6.out).mono ?_
          rintro e w' ⟨rfl, rfl⟩
          go_wp2_with fail
          refine (ZZbreak_any _ bl R6.out hst6 (by omega) (by show (1 : Nat) ≤ 1000; omega)).mono ?_
          rintro e w7 ⟨gc2, cc2, gl2, cl2, rfl, hR7, T7, _, _, _⟩
          have HF7 := Lib.hid (show Face w7 fc F.c bk (.slice (some ⟨gc2, 0, none⟩) 2 cc2) (.slice (some ⟨gl2, 0, none⟩) 2 cl2) 2 rt lid from by simpa using hR7.face 2 rfl)
          have HT7 := Lib.hid (HT6.out.trans' T7 (fun q hq h => by omega))
          obtain ⟨u0, hu0⟩ : ∃ u, u = mkABx 25 0 (lab + 131071) := ⟨_, rfl⟩
          have x0 : w7.cell? ⟨gc2, 0, none⟩ = some (.int .u32 u0) := by rw [hu0]; exact hR7.code.cell 0 (by show (0 : Nat) < 2; omega)
          have x1 : w7.cell? ⟨gc2, 1, none⟩ = some (.int .u32 u0) := by rw [hu0]; exact hR7.code.cell 1 (by show (1 : Nat) < 2; omega)
          have Q0 := Lib.hid x0
          have Q1 := Lib.hid x1
          clear hu0 x0 x1 hR7 T7 HF6 R6 HT6
          go_wp2_with fail
          refine (ZZpc_any HF7.out).mono ?_
          rintro e w' ⟨rfl, rfl⟩
          go_wp2_with fail
          refine (ZZcodes_any HF7.out).mono ?_
          rintro e w' ⟨rfl, rfl⟩
          go_wp2
          go_loopw [24] (fun i wr => (i = .int .i64 0 ∨ i = .int .i64 1) ∧ Turn w7 wr (fun _ => False)) (fun i _ => 1 - (intOf i).toNat)
          case atStart => exact ⟨.inl rfl, Turn.refl _ _⟩
          case round =>
            obtain ⟨hi, TQ⟩ := hrel
            have HFq : Face wr fc F.c bk (.slice (some ⟨gc2, 0, none⟩) 2 cc2) (.slice (some ⟨gl2, 0, none⟩) 2 cl2) 2 rt lid := by
              have h := HF7.out
              exact ⟨TQ.cell h.c1 id, TQ.cell h.c4 id, TQ.cell h.c6 id, TQ.cell h.c7 id, TQ.cell h.d0 id, TQ.cell h.d1 id, TQ.cell h.d2 id⟩
            have HTq := Lib.hid (HT7.out.trans TQ)
            have y0 := TQ.cell Q0.out id
            have y1 := TQ.cell Q1.out id
            have HFQ := Lib.hid HFq
            have HTQ := Lib.hid TQ
            clear HFq TQ
            have e0 : IntKind.i64.wrap (0 : Int) = 0 := wrap_i64_small _ (by omega) (by omega)
            have e1 : IntKind.i64.wrap (1 : Int) = 1 := wrap_i64_small _ (by omega) (by omega)
            have e2 : IntKind.i64.wrap (2 : Int) = 2 := wrap_i64_small _ (by omega) (by omega)
            have e3 : IntKind.i64.wrap (3 : Int) = 3 := wrap_i64_small _ (by omega) (by omega)
            rcases hi with rfl | rfl
            · go_wp2_with fail
              refine wp_region_still_lit (by kernel_rfl) (by kernel_rfl) ?_
              repeat still_step
              refine wpStill_nil ?_
              go_wp2
              go_roundw
              case rel => exact ⟨.inr (rfl), HTQ.out.drew⟩
              case measure => decide
            · go_wp2_with fail
              refine (ZZlabelID_any HFQ.out).mono ?_
              rintro e w' ⟨rfl, rfl⟩
              go_wp2_with fail
              refine (ZZregTop_any HFQ.out).mono ?_
              rintro e w' ⟨rfl, rfl⟩
              go_wp2_with fail
              refine (ZZblock_any HFQ.out).mono ?_
              rintro e w' ⟨rfl, rfl⟩
              have hpe := fun wx : World => run_eql_ptr_same (P := Tryf.prog) wx (⟨bk, 0, none⟩ : Addr) Tryf.underlying32 hjj
              go_wp2
              go_ret
              exact ⟨rfl, HTq.out.below (Nat.le_refl _) (fun _ h => h.elim)⟩
end Go.Proofs.YtabienikffakiaaFmt
