/- The walk of FnResolveGotoTwiceIsOnce: it returns true. -/
import Derived.Test.YtdhmpfijdmlfoaaFmtWalk136B
import Derived.BigQuiet
namespace Go.Proofs.YtdhmpfijdmlfoaaFmt
open Go.RowKit Go.Maps
set_option linter.unusedVariables false

/-- what stays of a context while blocks outside of it turn -/
theorem Ctx.outside {w w' : World} {β B : Nat} {G : Nat → Prop} {fc : Nat} {F : FcAt} {gb : Value × Option Addr} {gc cc gl cl : Nat} {is ls : List Int} {cnt : Int} {up : Bool} {DL D1 D2 : DataW Unit} {nL n1 n2 : Nat} (h : Ctx w β fc F gb gc cc gl cl is ls cnt up DL D1 D2 nL n1 n2)
    (t : Turn w w' G) (hlt : CtxAll fc F gc gl (fun k => k < B)) (hG : ∀ k, k < B → ¬ G k) : Ctx w' β fc F gb gc cc gl cl is ls cnt up DL D1 D2 nL n1 n2 :=
  h.kept t (hlt.mono hG)
theorem Ctx.above {w w' : World} {β : Nat} {G : Nat → Prop} {fc : Nat} {F : FcAt} {gb : Value × Option Addr} {gc cc gl cl : Nat} {is ls : List Int} {cnt : Int} {up : Bool} {DL D1 D2 : DataW Unit} {nL n1 n2 : Nat} (h : Ctx w β fc F gb gc cc gl cl is ls cnt up DL D1 D2 nL n1 n2)
    (t : Turn w w' G) (hG : ∀ k, β ≤ k → ¬ G k) : Ctx w' β fc F gb gc cc gl cl is ls cnt up DL D1 D2 nL n1 n2 :=
  h.kept t (h.ges.mono hG)

/-- two labels were made -/
theorem two_labels (w : World) (x y : Array Value) : (((w.alloc (.cells x 29)).alloc (.cells y 29)).heap[w.heap.size]? = some (.cells x 29 (0, 0))) ∧
    (((w.alloc (.cells x 29)).alloc (.cells y 29)).heap[w.heap.size + 1]? = some (.cells y 29 (0, 0))) ∧
    Turn w ((w.alloc (.cells x 29)).alloc (.cells y 29)) (fun _ => False) := by
  refine ⟨heap_alloc_old (alloc_blk w _) _, ?_, ((Turn.refl w _).alloc _).alloc _⟩
  have := alloc_blk (w.alloc (.cells x 29)) (.cells y 29)
  rwa [show (w.alloc (.cells x 29)).heap.size = w.heap.size + 1 from by simp] at this

theorem quiet_at {f : FuncId} {args : Array Value} {w : World} {n : Nat} {v : Value} (h : Calls Tryf.prog f args (w.drewN n) fun e w' => e = .returned v ∧ w.drewN n = w') : Calls Tryf.prog f args (w.drewN n) fun e w'' => e = .returned v ∧ ∃ m, w'' = w.drewN m :=
  h.mono fun _ _ ⟨he, hm⟩ => ⟨he, n, hm.symm⟩

theorem setBx_twice (x v : Int) : setBx (setBx x v) v = setBx x v := by unfold setBx; omega

theorem has_del_eq (D : DataW Unit) (i q : Int) : Maps.has (D.del (kI i)) (kI q) = (Maps.has D (kI q) && !(decide (q = i))) := by
  by_cases e : q = i
  · subst e
    rw [has_del_same]
    simp
  · rw [has_del_other (fun h => e (kI_inj h))]
    simp [e]

set_option maxRecDepth 100000 in
set_option maxHeartbeats 4000000 in
theorem walk_FnResolveGotoTwiceIsOnce (a : Option Addr) (len c : Nat) (zs : List Int) (fromPc fromN toId toN pend index : Int) (w : World) (hz : IsRow .u32 w a len c zs) (w1 : (Lit.int .i64 fromPc).wf = true) (w2 : (Lit.int .i64 fromN).wf = true) (w3 : (Lit.int .i64 toId).wf = true) (w4 : (Lit.int .i64 toN).wf = true) (w5 : (Lit.int .i64 pend).wf = true) (w6 : (Lit.int .i64 index).wf = true) :
    Calls Tryf.prog 3 #[.slice a len c, .int .i64 fromPc, .int .i64 fromN, .int .i64 toId, .int .i64 toN, .int .i64 pend, .int .i64 index] w fun e w' => e = .returned (.bool true) ∧ Below w.heap.size w w' := by
  obtain ⟨L, rfl, S, hwf, hm, _⟩ := hz.open
  clear hz
  have hwf' := getD_mem_u32 hwf
  clear hwf
  go_enter Tryf.func3, Tryf.ntmps3
  go_wp2_with fail
  refine (zzB_FnResolveGotoTwiceIsOnce a L.length c fromPc fromN toId toN pend index _ hm).mono ?_
  rintro e w' ⟨b, rfl, hb, rfl⟩
  cases b with
  | false =>
    go_wp2
    go_ret
    exact ⟨rfl, Below.refl _ _⟩
  | true =>
    have hb1 := hb rfl
    clear hb
    by_cases hL : 65536 < L.length
    · go_wp2
      go_ret
      exact ⟨rfl, Below.refl _ _⟩
    go_wp2_with fail
    refine (premise_any a L.length c fromPc fromN toId toN pend _ hb1).mono ?_
    rintro e w' ⟨b, rfl, hb, rfl⟩
    cases b with
    | true =>
      go_wp2
      go_ret
      exact ⟨rfl, Below.refl _ _⟩
    | false =>
      obtain ⟨p0, p1, t0, t1, nn, q0, q1⟩ := hb rfl
      clear hb
      obtain ⟨pn, rfl⟩ : ∃ n : Nat, pend = n := ⟨pend.toNat, by omega⟩
      obtain ⟨pc, rfl⟩ : ∃ n : Nat, fromPc = n := ⟨fromPc.toNat, by omega⟩
      have hpc : pc < L.length := by omega
      go_wp2_with fail
      refine (resCtx_any a c L pc fromN pn _ S (by omega) (by omega)).mono ?_
      rintro e wa ⟨fa, A, ab, ga, ca, la, da, ra, DA, na, rfl, hA, hDA, hTA⟩
      have S1 := hTA.ints S (fun _ _ => id)
      have aLt := hA.lt
      have hwa := hTA.size
      go_wp2_with fail
      refine (resCtx_any a c L pc fromN pn _ S1 (by omega) (by omega)).mono ?_
      rintro e wb ⟨fb, B, bb, gb, cb, lb, db, rb, DB, nb, rfl, hB, hDB, hTB⟩
      have hA1 := hA.same hTB
      have hT1 := hTA.trans hTB
      clear hA hTA S1
      obtain ⟨bx, byy, hT2⟩ := two_labels wb #[.int .i64 0, .string ⟨#[103]⟩, .int .i64 pc, .int .i64 1, .int .i64 fromN] #[.int .i64 toId, .string ⟨#[103]⟩, .int .i64 0, .int .i64 2, .int .i64 toN]
      have hA2 := hA1.same hT2
      have hB2 := hB.same hT2
      have hT3 := hT1.trans hT2
      have hsz := hT1.size
      have haw : wa.heap.size ≤ wb.heap.size := hTB.size
      clear hA1 hB hT1 hTB
      go_wp2_with fail
      generalize (wb.alloc (.cells #[.int .i64 0, .string ⟨#[103]⟩, .int .i64 pc, .int .i64 1, .int .i64 fromN] 29)).alloc (.cells #[.int .i64 toId, .string ⟨#[103]⟩, .int .i64 0, .int .i64 2, .int .i64 toN] 29) = wc at *
      refine (resolve_any w.heap.size fa A ab ga ca la da L ra pn false _ _ DA 0 0 na index wb.heap.size (wb.heap.size + 1) pc toId fromN toN _ hA2 w6 (cell_of_blk bx 2 (.int .i64 pc) rfl) (cell_of_blk bx 4 (.int .i64 fromN) rfl) (cell_of_blk byy 0 (.int .i64 toId) rfl) (cell_of_blk byy 4 (.int .i64 toN) rfl) (by omega) hpc hb1 (hwf' pc hpc).1 (hwf' pc hpc).2).mono ?_
      rintro e wd ⟨rfl, hA3, hTd⟩
      obtain ⟨v, hv⟩ : ∃ v, v = setBx (L.getD pc 0) (toId + 131071) := ⟨_, rfl⟩
      rw [← hv] at hA3
      have hvb : 0 ≤ v ∧ v < 4294967296 := by rw [hv]; exact setBx_bd _ _ (hwf' pc hpc).1 (hwf' pc hpc).2
      have hv2 : setBx v (toId + 131071) = v := by rw [hv]; exact setBx_twice _ _
      have aG : ∀ k, wa.heap.size ≤ k → ¬ (k = ga ∨ k = A.M2) := by
        intro k hk h
        have r2 : ga < wa.heap.size := aLt.2.2.1
        have r4 : A.M2 < wa.heap.size := aLt.2.2.2.2.2.2.2
        omega
      have hB3 := hB2.above hTd aG
      have bx3 := hTd.heap bx (aG _ haw)
      have by3 := hTd.heap byy (aG _ (by omega))
      have gesB := hB2.ges
      have bG : ∀ k, k < wa.heap.size → ¬ (k = lb ∨ k = B.M2) → True := fun _ _ _ => trivial
      have gesA := hA2.ges
      have hT4 := hT3.trans' hTd (fun j hj h => by
        have r2 : w.heap.size ≤ ga := gesA.2.2.1
        have r4 : w.heap.size ≤ A.M2 := gesA.2.2.2.2.2.2.2
        omega)
      clear hA2 hB2 hT3 hTd bx byy bG
      go_wp2_with fail
      refine (resolve_any wa.heap.size fb B bb gb cb lb db L rb pn false _ _ DB 0 0 nb index wb.heap.size (wb.heap.size + 1) pc toId fromN toN _ hB3 w6 (cell_of_blk bx3 2 (.int .i64 pc) rfl) (cell_of_blk bx3 4 (.int .i64 fromN) rfl) (cell_of_blk by3 0 (.int .i64 toId) rfl) (cell_of_blk by3 4 (.int .i64 toN) rfl) (by omega) hpc hb1 (hwf' pc hpc).1 (hwf' pc hpc).2).mono ?_
      rintro e we ⟨rfl, hB4, hTe⟩
      rw [← hv] at hB4
      have bG : ∀ k, k < wa.heap.size → ¬ (k = gb ∨ k = B.M2) := by
        intro k hk h
        have r2 : wa.heap.size ≤ gb := gesB.2.2.1
        have r4 : wa.heap.size ≤ B.M2 := gesB.2.2.2.2.2.2.2
        omega
      have hA4 := hA3.outside hTe aLt bG
      have gneB := hB3.nes
      have bx4 := hTe.heap bx3 (fun h => by
        obtain ⟨cu, hcu⟩ := owned_elem hB3.code.codes
        obtain ⟨_, _, q3, _⟩ := hB3.own2
        rcases h with h | h
        · exact blocks_ne bx3 hcu (by simp) h
        · exact blocks_ne bx3 q3 (by simp) h)
      have by4 := hTe.heap by3 (fun h => by
        obtain ⟨cu, hcu⟩ := owned_elem hB3.code.codes
        obtain ⟨_, _, q3, _⟩ := hB3.own2
        rcases h with h | h
        · exact blocks_ne by3 hcu (by simp) h
        · exact blocks_ne by3 q3 (by simp) h)
      have hT5 := hT4.trans' hTe (fun j hj h => by
        have := bG j (by omega)
        exact absurd h this)
      clear hA3 hB3 hT4 hTe bx3 by3
      go_wp2_with fail
      have hlen : (L.set pc v).length = L.length := by simp
      have hgv : (L.set pc v).getD pc 0 = v := getD_set_eq _ _ _ hpc
      refine (resolve_any wa.heap.size fb B bb gb cb lb db (L.set pc v) rb pn false _ _ _ 0 0 nb index wb.heap.size (wb.heap.size + 1) pc toId fromN toN _ hB4 w6 (cell_of_blk bx4 2 (.int .i64 pc) rfl) (cell_of_blk bx4 4 (.int .i64 fromN) rfl) (cell_of_blk by4 0 (.int .i64 toId) rfl) (cell_of_blk by4 4 (.int .i64 toN) rfl) (by omega) (by omega) (by omega) (by rw [hgv]; exact hvb.1) (by rw [hgv]; exact hvb.2)).mono ?_
      rintro e wf ⟨rfl, hB5, hTf⟩
      rw [hgv, hv2, List.set_set] at hB5
      have hA5 := hA4.outside hTf aLt bG
      have hT6 := hT5.trans' hTf (fun j hj h => by
        have := bG j (by omega)
        exact absurd h this)
      have hbel := hT6.below (Nat.le_refl _) (fun _ h => h.elim)
      have hmA : ∀ q : Int, Maps.has (DA.del (kI index)) (kI q) = (decide (0 ≤ q ∧ q < (pn : Int)) && !(decide (q = index))) := fun q => by rw [has_del_eq, hDA]
      have hmB : ∀ q : Int, Maps.has ((DB.del (kI index)).del (kI index)) (kI q) = (decide (0 ≤ q ∧ q < (pn : Int)) && !(decide (q = index))) := fun q => by
        rw [has_del_eq, has_del_eq, hDB, Bool.and_assoc, Bool.and_self]
      have hlen2 : (L.set pc v).length ≤ 1048576 := by omega
      clear hA4 hB4 hT5 hTf bx4 by4 hT6 gneB gesB bG aG aLt haw hsz gesA hDA hDB hgv hv2 hvb hv hwf' S
      generalize hLv : L.set pc v = Lv at *
      clear hLv
      go_wp2
      go_loopw [19] (fun i wz => (∃ k : Nat, k ≤ L.length ∧ i = .int .i64 k) ∧ Turn wf wz (fun _ => False)) (fun i _ => L.length - (intOf i).toNat)
      case atStart => exact ⟨⟨0, Nat.zero_le _, rfl⟩, Turn.refl _ _⟩
      case round =>
        obtain ⟨⟨k, hk, rfl⟩, hTz⟩ := hrel
        have hAz := hA5.same hTz
        have hBz := hB5.same hTz
        have hbz := hbel.trans (hTz.below hbel.size (fun _ h => h.elim))
        clear hA5 hB5 hbel
        have c1 := cell_of_blk hAz.blk 1 (.pointer (some ⟨A.c, 0, none⟩)) rfl
        have c2 := cell_of_blk hBz.blk 1 (.pointer (some ⟨B.c, 0, none⟩)) rfl
        by_cases hlt : k < L.length
        · have hkl : k < Lv.length := by omega
          have hQ1 := fun n => quiet_at (at_any w.heap.size A.c ga ca la da Lv ra k (wr.drewN n) (hAz.same (drewN_turn wr n _)).code hkl hlen2)
          have hQ2 := fun n => quiet_at (at_any wa.heap.size B.c gb cb lb db Lv rb k (wr.drewN n) (hBz.same (drewN_turn wr n _)).code hkl hlen2)
          generalize Lv.getD k 0 = x at hQ1 hQ2
          clear hAz hBz hmA hmB hlen hlen2 hkl
          go_wp2_with fail
          refine wp_region_quiet_lit (by kernel_rfl) (by kernel_rfl) ?_
          iterate 6 (go_big_quiet_step (exact hQ1 _))
          iterate 7 (go_big_quiet_step (exact hQ2 _))
          refine wpQuiet_nil ?_
          intro _ hw'
          obtain ⟨nq, hw''⟩ := hw'
          subst hw''
          clear hQ1 hQ2
          go_wp2
          go_roundw
          case rel => exact ⟨⟨k + 1, by omega, by go_num⟩, hTz.trans (drewN_turn _ _ _)⟩
          case measure => simp [intOf]; omega
        · have he : k = L.length := by omega
          subst he
          clear hlt c1 c2
          go_wp2
          go_loop [20] (fun p => ∃ k : Nat, k ≤ pn ∧ p = .int .i64 k) (fun p => pn - (intOf p).toNat)
          case atStart => exact ⟨0, Nat.zero_le _, rfl⟩
          case round =>
            obtain ⟨k, hk2, rfl⟩ := hrel
            by_cases hlt : k < pn
            · have hQ1 := hasGoto_any w.heap.size fa A ab ga ca la da Lv ra pn false _ _ _ 0 0 na (k : Int) wr hAz (by simp [Lit.wf, IntKind.min, IntKind.max, IntKind.signed, IntKind.bits]; omega)
              have hQ2 := hasGoto_any wa.heap.size fb B bb gb cb lb db Lv rb pn false _ _ _ 0 0 nb (k : Int) wr hBz (by simp [Lit.wf, IntKind.min, IntKind.max, IntKind.signed, IntKind.bits]; omega)
              rw [hmA k] at hQ1
              rw [hmB k] at hQ2
              generalize (decide (0 ≤ (k : Int) ∧ (k : Int) < (pn : Int)) && !(decide ((k : Int) = index))) = bo at hQ1 hQ2
              clear hAz hBz hmA hmB
              go_wp2_with fail
              refine hQ1.mono ?_
              rintro e w' ⟨rfl, rfl⟩
              clear hQ1
              go_wp2_with fail
              refine hQ2.mono ?_
              rintro e w' ⟨rfl, rfl⟩
              clear hQ2
              go_wp2
              go_round
              case rel => exact ⟨k + 1, by omega, by go_num⟩
              case measure => simp [intOf]; omega
            · have he : k = pn := by omega
              subst he
              clear hlt hAz hBz hmA hmB
              go_wp2
              go_ret
              exact ⟨rfl, hbz⟩
end Go.Proofs.YtdhmpfijdmlfoaaFmt
