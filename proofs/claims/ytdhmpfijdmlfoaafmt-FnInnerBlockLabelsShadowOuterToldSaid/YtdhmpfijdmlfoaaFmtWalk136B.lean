/- The walks of FnResolveGotoPatchesOnlyItsJump and FnResolveGotoTwiceIsOnce: each returns true. -/
import Derived.Test.YtdhmpfijdmlfoaaFmtWalk136A
namespace Go.Proofs.YtdhmpfijdmlfoaaFmt
open Go.RowKit Go.Maps
set_option linter.unusedVariables false

theorem getD_mem_u32 {L : List Int} (h : ∀ n ∈ L, (Lit.int .u32 n).wf = true) (k : Nat) (hk : k < L.length) : 0 ≤ L.getD k 0 ∧ L.getD k 0 < 4294967296 := by
  have := h (L.getD k 0) (by simp [List.getD, hk])
  generalize L.getD k 0 = x at this ⊢
  simp [Lit.wf, IntKind.min, IntKind.max, IntKind.signed, IntKind.bits] at this
  omega

theorem andNot_bx (x : Int) : bits .andNot .u32 x 262143 = bits .and .u32 x 4294705152 := by
  show IntKind.u32.wrap ((BitVec.ofInt 32 x &&& ~~~ BitVec.ofInt 32 262143).toNat : Int) = IntKind.u32.wrap ((BitVec.ofInt 32 x &&& BitVec.ofInt 32 4294705152).toNat : Int)
  rw [show (~~~ BitVec.ofInt 32 262143) = BitVec.ofInt 32 4294705152 from by decide]
theorem andNot_a (x : Int) : bits .andNot .u32 x 66846720 = bits .and .u32 x 4228120575 := by
  show IntKind.u32.wrap ((BitVec.ofInt 32 x &&& ~~~ BitVec.ofInt 32 66846720).toNat : Int) = IntKind.u32.wrap ((BitVec.ofInt 32 x &&& BitVec.ofInt 32 4228120575).toNat : Int)
  rw [show (~~~ BitVec.ofInt 32 66846720) = BitVec.ofInt 32 4228120575 from by decide]
theorem want_bx (x t : Int) (h0 : 0 ≤ x) (h1 : x < 4294967296) (t0 : -131071 ≤ t) (t1 : t ≤ 131072) : bits .or .u32 (bits .andNot .u32 x 262143) (t + 131071) = setBx x (t + 131071) := by
  rw [andNot_bx, ← setBx_eq x _ h0 h1, show (t + 131071) % 262144 = t + 131071 from by omega]
theorem want_a (x t : Int) (h0 : 0 ≤ x) (h1 : x < 4294967296) (t0 : 0 ≤ t) (t1 : t ≤ 255) : bits .or .u32 (bits .andNot .u32 x 66846720) (t * 262144) = setA x t := by
  rw [andNot_a, ← setA_eq x _ h0 h1, show t % 256 = t from by omega]

theorem heap_alloc_old {w : World} {k : Nat} {o : Obj} (h : w.heap[k]? = some o) (p : Obj) : (w.alloc p).heap[k]? = some o := (Below.heap_alloc w p k (lt_of_block h)).trans h

theorem getD_set_eq (L : List Int) (k : Nat) (x : Int) (h : k < L.length) : (L.set k x).getD k 0 = x := by simp [List.getD, h]
theorem getD_set_ne (L : List Int) (j k : Nat) (x : Int) (h : k ≠ j) : (L.set j x).getD k 0 = L.getD k 0 := by
  simp [List.getD, List.getElem?_set_ne (fun e => h e.symm)]

set_option maxRecDepth 100000 in
set_option maxHeartbeats 4000000 in
theorem walk_FnResolveGotoPatchesOnlyItsJump (a : Option Addr) (len c : Nat) (zs : List Int) (fromPc fromN toId toN pend index : Int) (w : World) (hz : IsRow .u32 w a len c zs) (w1 : (Lit.int .i64 fromPc).wf = true) (w2 : (Lit.int .i64 fromN).wf = true) (w3 : (Lit.int .i64 toId).wf = true) (w4 : (Lit.int .i64 toN).wf = true) (w5 : (Lit.int .i64 pend).wf = true) (w6 : (Lit.int .i64 index).wf = true) :
    Calls Tryf.prog 5 #[.slice a len c, .int .i64 fromPc, .int .i64 fromN, .int .i64 toId, .int .i64 toN, .int .i64 pend, .int .i64 index] w fun e w' => e = .returned (.bool true) ∧ Below w.heap.size w w' := by
  obtain ⟨L, rfl, S, hwf, hm, _⟩ := hz.open
  clear hz
  have hwf' := getD_mem_u32 hwf
  clear hwf
  go_enter Tryf.func5, Tryf.ntmps5
  go_wp2_with fail
  refine (zzB_FnResolveGotoPatchesOnlyItsJump a L.length c fromPc fromN toId toN pend index _ hm).mono ?_
  rintro e w' ⟨b, rfl, hb, rfl⟩
  cases b with
  | false =>
    go_wp2
    go_ret
    exact ⟨rfl, Below.refl _ _⟩
  | true =>
    have hb1 := hb rfl
    clear hb
    by_cases hL : 65536 < L.length
    · go_wp2
      go_ret
      exact ⟨rfl, Below.refl _ _⟩
    go_wp2_with fail
    refine (premise_any a L.length c fromPc fromN toId toN pend _ hb1).mono ?_
    rintro e w' ⟨b, rfl, hb, rfl⟩
    cases b with
    | true =>
      go_wp2
      go_ret
      exact ⟨rfl, Below.refl _ _⟩
    | false =>
      obtain ⟨p0, p1, t0, t1, nn, q0, q1⟩ := hb rfl
      clear hb
      obtain ⟨pn, rfl⟩ : ∃ n : Nat, pend = n := ⟨pend.toNat, by omega⟩
      obtain ⟨pc, rfl⟩ : ∃ n : Nat, fromPc = n := ⟨fromPc.toNat, by omega⟩
      have hpc : pc < L.length := by omega
      go_wp2_with fail
      refine (resCtx_any a c L pc fromN pn _ S (by omega) (by omega)).mono ?_
      rintro e wa ⟨fc, F, gb, gc, cc, gl, cl, ls, D2, n2, rfl, hC, hD, hT⟩
      have S1 := hT.ints S (fun _ _ => id)
      have TA := ((Turn.refl wa (fun _ => False)).alloc (.cells #[.int .i64 0, .string ⟨#[103]⟩, .int .i64 pc, .int .i64 1, .int .i64 fromN] 29)).alloc (.cells #[.int .i64 toId, .string ⟨#[103]⟩, .int .i64 0, .int .i64 2, .int .i64 toN] 29)
      have hC1 := hC.same TA
      have S2 := TA.ints S1 (fun _ _ => id)
      have hT1 := hT.trans TA
      have bx := heap_alloc_old (alloc_blk wa (.cells #[.int .i64 0, .string ⟨#[103]⟩, .int .i64 pc, .int .i64 1, .int .i64 fromN] 29)) (.cells #[.int .i64 toId, .string ⟨#[103]⟩, .int .i64 0, .int .i64 2, .int .i64 toN] 29)
      have byy := alloc_blk (wa.alloc (.cells #[.int .i64 0, .string ⟨#[103]⟩, .int .i64 pc, .int .i64 1, .int .i64 fromN] 29)) (.cells #[.int .i64 toId, .string ⟨#[103]⟩, .int .i64 0, .int .i64 2, .int .i64 toN] 29)
      rw [show (wa.alloc (.cells #[.int .i64 0, .string ⟨#[103]⟩, .int .i64 pc, .int .i64 1, .int .i64 fromN] 29)).heap.size = wa.heap.size + 1 from by simp] at byy
      have hges := hC1.ges
      clear S1 S2 hC hT TA
      go_wp2_with fail
      refine (resolve_any w.heap.size fc F gb gc cc gl cl L ls pn false _ _ D2 0 0 n2 index wa.heap.size (wa.heap.size + 1) pc toId fromN toN _ hC1 w6 (cell_of_blk bx 2 (.int .i64 pc) rfl) (cell_of_blk bx 4 (.int .i64 fromN) rfl) (cell_of_blk byy 0 (.int .i64 toId) rfl) (cell_of_blk byy 4 (.int .i64 toN) rfl) (by omega) hpc hb1 (hwf' pc hpc).1 (hwf' pc hpc).2).mono ?_
      rintro e wr ⟨rfl, hC2, hT2⟩
      have hTT := hT1.trans' hT2 (fun j hj h => by
        obtain ⟨_, _, r2, _, _, _, _, r4⟩ := hges
        have r2' : w.heap.size ≤ gc := r2
        have r4' : w.heap.size ≤ F.M2 := r4
        omega)
      clear bx byy hC1 hT1 hges
      have S3 := ints_later (hTT.below (Nat.le_refl _) (fun _ h => h.elim)) S
      have hbel := hTT.below (Nat.le_refl _) (fun _ h => h.elim)
      have hd : ∀ q : Int, Maps.has (D2.del (kI index)) (kI q) = (decide (0 ≤ q ∧ q < (pn : Int)) && !(decide (q = index))) := by
        intro q
        by_cases e : q = index
        · subst e
          rw [has_del_same]
          simp
        · rw [has_del_other (fun h => e (kI_inj h)), hD q]
          simp [e]
      clear S hD hTT hT2
      go_wp2
      go_loop [18] (fun i => ∃ k : Nat, k ≤ L.length ∧ i = .int .i64 k) (fun i => L.length - (intOf i).toNat)
      case atStart => exact ⟨0, Nat.zero_le _, rfl⟩
      case round =>
        obtain ⟨k, hk, rfl⟩ := hrel
        have c1 := cell_of_blk hC2.blk 1 (.pointer (some ⟨F.c, 0, none⟩)) rfl
        by_cases hlt : k < L.length
        · obtain ⟨b, off, rfl, hc⟩ := S3 k hlt
          obtain ⟨x0, x1⟩ := hwf' k hlt
          by_cases hkp : k = pc
          · subst hkp
            have hg : (L.set k (setBx (L.getD k 0) (toId + 131071))).getD k 0 = setBx (L.getD k 0) (toId + 131071) := getD_set_eq _ _ _ hlt
            have hlen : (L.set k (setBx (L.getD k 0) (toId + 131071))).length ≤ 1048576 := by simp; omega
            have hl2 : k < (L.set k (setBx (L.getD k 0) (toId + 131071))).length := by simpa using hlt
            have hA := fun w0 h => at_any w.heap.size F.c gc cc gl cl (L.set k (setBx (L.getD k 0) (toId + 131071))) ls k w0 h hl2 hlen
            rw [hg] at hA
            generalize L.getD k 0 = x at hc hC2 hA x0 x1
            go_wp2_with fail
            refine (hA _ hC2.code).mono ?_
            rintro e w' ⟨rfl, rfl⟩
            have hv : (setBx x (toId + 131071) != bits .or .u32 (bits .andNot .u32 x 262143) (toId + 131071)) = false := by
              rw [want_bx x toId x0 x1 t0 t1]; simp
            generalize setBx x (toId + 131071) = vv at hv
            clear hC2 hA hlen hl2 hg S3
            go_wp2
            go_round
            case rel => exact ⟨k + 1, by omega, by go_num⟩
            case measure => simp [intOf]; omega
          · have hg : (L.set pc (setBx (L.getD pc 0) (toId + 131071))).getD k 0 = L.getD k 0 := getD_set_ne _ _ _ _ hkp
            have hlen : (L.set pc (setBx (L.getD pc 0) (toId + 131071))).length ≤ 1048576 := by simp; omega
            have hl2 : k < (L.set pc (setBx (L.getD pc 0) (toId + 131071))).length := by simpa using hlt
            have hA := at_any w.heap.size F.c gc cc gl cl (L.set pc (setBx (L.getD pc 0) (toId + 131071))) ls k wr hC2.code hl2 hlen
            rw [hg] at hA
            generalize L.getD k 0 = x at hc hA x0 x1
            have hkz : ¬ (k : Int) = (pc : Int) := by omega
            clear hC2 hlen hl2 hg S3
            go_wp2_with fail
            refine hA.mono ?_
            rintro e w' ⟨rfl, rfl⟩
            clear hA
            go_wp2
            go_round
            case rel => exact ⟨k + 1, by omega, by go_num⟩
            case measure => simp [intOf]; omega
        · have he : k = L.length := by omega
          subst he
          clear hlt c1 S3
          go_wp2
          go_loop [20] (fun p => ∃ k : Nat, k ≤ pn ∧ p = .int .i64 k) (fun p => pn - (intOf p).toNat)
          case atStart => exact ⟨0, Nat.zero_le _, rfl⟩
          case round =>
            obtain ⟨k, hk2, rfl⟩ := hrel
            by_cases hlt : k < pn
            · have hq := hd k
              have hA := hasGoto_any w.heap.size fc F gb gc cc gl cl _ ls pn false _ _ _ 0 0 n2 (k : Int) wr hC2 (by simp [Lit.wf, IntKind.min, IntKind.max, IntKind.signed, IntKind.bits]; omega)
              rw [hq, decide_eq_true (show (0 : Int) ≤ (k : Int) ∧ (k : Int) < (pn : Int) from by omega), Bool.true_and] at hA
              clear hC2 hd hq
              by_cases hki : (k : Int) = index
              · rw [decide_eq_true hki] at hA
                have hkn : ((k : Int) != index) = false := by simpa using hki
                clear hki
                go_wp2_with fail
                refine hA.mono ?_
                rintro e w' ⟨rfl, rfl⟩
                clear hA
                go_wp2
                go_round
                case rel => exact ⟨k + 1, by omega, by go_num⟩
                case measure => simp [intOf]; omega
              · rw [decide_eq_false hki] at hA
                have hkn : ((k : Int) != index) = true := by simpa using hki
                clear hki
                go_wp2_with fail
                refine hA.mono ?_
                rintro e w' ⟨rfl, rfl⟩
                clear hA
                go_wp2
                go_round
                case rel => exact ⟨k + 1, by omega, by go_num⟩
                case measure => simp [intOf]; omega
            · have he : k = pn := by omega
              subst he
              clear hlt
              have hA := hasGoto_any w.heap.size fc F gb gc cc gl cl _ ls k false _ _ _ 0 0 n2 index wr hC2 w6
              rw [hd index, decide_eq_true (show index = index from rfl), Bool.not_true, Bool.and_false] at hA
              clear hC2 hd
              go_wp2_with fail
              refine hA.mono ?_
              rintro e w' ⟨rfl, rfl⟩
              go_wp2
              go_ret
              exact ⟨rfl, hbel⟩
end Go.Proofs.YtdhmpfijdmlfoaaFmt
