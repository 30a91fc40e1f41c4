/- The walk of FnFlagScannerScriptBuildsConcatenation: it returns true, whatever the flag, the markers, the text, the parts, the chars and the order. -/
import Derived.Test.YthgdlgghdfikmaaFlag142
namespace Go.Proofs.Ythgdlgghdfikmaa
open Go.RowKit Go.Lib
set_option linter.unusedVariables false

theorem sumSizes_take_le (L : List ByteArray) (k : Nat) : sumSizes (L.take k) ≤ sumSizes L := by
  have h : L.take k ++ L.drop k = L := List.take_append_drop k L
  have e : sumSizes (L.take k) + sumSizes (L.drop k) = sumSizes L := by
    conv => rhs; rw [← h]
    unfold sumSizes
    rw [List.map_append, List.sum_append]
  omega

/-- the state of a script: what the scanner's buffer and the wanted bytes hold -/
structure FS (w wr : World) (L : List ByteArray) (C : List Int) (b np nc : Nat) (l : List UInt8) (g cap gw capw : Nat) : Prop where
  sc : Scan wr w.heap.size b g cap l
  wn : Owns wr w.heap.size gw capw l
  ne : g ≠ gw
  nb : b ≠ gw
  ge : w.heap.size ≤ b
  bel : Below w.heap.size w wr
  npl : np ≤ L.length
  ncl : nc ≤ C.length
  len : l.length = sumSizes (L.take np) + nc
  bound : C.length + sumSizes L ≤ 1048576

theorem FS.short {w wr : World} {L : List ByteArray} {C : List Int} {b np nc : Nat} {l : List UInt8} {g cap gw capw : Nat} (h : FS w wr L C b np nc l g cap gw capw) : l.length ≤ 1048576 ∧ sumSizes L ≤ 1048576 := by
  have h1 := sumSizes_take_le L np
  have h2 := h.len
  have h3 := h.ncl
  have h4 := h.bound
  omega
theorem FS.bel_turn {w wr w' : World} {L : List ByteArray} {C : List Int} {b np nc : Nat} {l : List UInt8} {g cap gw capw : Nat} (h : FS w wr L C b np nc l g cap gw capw) (t : Turn wr w' (fun k => k = b ∨ k = g)) : Below w.heap.size w w' :=
  h.bel.trans (t.below h.bel.size (fun j hj => by
    have h1 := h.sc.row.ge
    have h2 := h.ge
    rcases hj with rfl | rfl <;> omega))
theorem FS.old {w wr : World} {L : List ByteArray} {C : List Int} {b np nc : Nat} {l : List UInt8} {g cap gw capw k : Nat} (h : FS w wr L C b np nc l g cap gw capw) (hk : k < w.heap.size) : ¬ (k = b ∨ k = g) := by
  have h1 := h.sc.row.ge
  have h2 := h.ge
  omega
theorem FS.part {w wr w1 w2 : World} {L : List ByteArray} {C : List Int} {b np nc : Nat} {l : List UInt8} {g cap gw capw g1 cap1 gw1 capw1 : Nat} {x : ByteArray} (h : FS w wr L C b np nc l g cap gw capw) (hp : np < L.length)
    (hx : L.getD np ByteArray.empty = x) (s1 : Scan w1 w.heap.size b g1 cap1 (l ++ x.data.toList)) (t1 : Turn wr w1 (fun k => k = b ∨ k = g)) (l1 : g1 = g ∨ wr.heap.size ≤ g1)
    (o2 : Owns w2 w.heap.size gw1 capw1 (l ++ x.data.toList)) (t2 : Turn w1 w2 (fun k => k = gw)) (l2 : gw1 = gw ∨ w1.heap.size ≤ gw1) : FS w w2 L C b (np + 1) nc (l ++ x.data.toList) g1 cap1 gw1 capw1 := by
  have hgw := h.wn.ge
  have hg := h.sc.row.ge
  have hg1 := s1.row.ge
  have hs1 := t1.size
  have hne := h.ne
  have hnb := h.nb
  obtain ⟨_, _, _, _, _, hbk⟩ := h.sc.blk
  have hbl := lt_of_block hbk
  have e1 : g1 ≠ gw := by rcases l1 with rfl | l1 <;> omega
  refine ⟨s1.kept t2 e1 hnb, o2, ?_, ?_, h.ge, (h.bel_turn t1).trans (t2.below (h.bel_turn t1).size (fun j hj => by omega)), hp, h.ncl, ?_, h.bound⟩
  · rcases l2 with rfl | l2 <;> omega
  · rcases l2 with rfl | l2 <;> omega
  · rw [List.length_append, h.len, sumSizes_take_succ L np hp, hx]
    simp
    omega
theorem FS.char {w wr w1 w2 : World} {L : List ByteArray} {C : List Int} {b np nc : Nat} {l : List UInt8} {g cap gw capw g1 cap1 gw1 capw1 : Nat} {x : UInt8} {o : Obj} (h : FS w wr L C b np nc l g cap gw capw) (hc : nc < C.length)
    (s1 : Scan w1 w.heap.size b g1 cap1 (l ++ [x])) (t1 : Turn wr w1 (fun k => k = b ∨ k = g)) (l1 : g1 = g ∨ wr.heap.size ≤ g1)
    (o2 : w2.ownsRow w.heap.size 5 1 (.slice (some ⟨gw1, 0, none⟩) (l.length + 1) capw1) (l.length + 1) (l.map bCell ++ [.int .u8 x.toNat])) (gr : (w1.alloc o).grownBy w2 (some gw)) (l2 : gw1 = gw ∨ gw1 = w1.heap.size + 1) :
    FS w w2 L C b np (nc + 1) (l ++ [x]) g1 cap1 gw1 capw1 := by
  have hgw := h.wn.ge
  have hg := h.sc.row.ge
  have hg1 := s1.row.ge
  have hs1 := t1.size
  have hne := h.ne
  have hnb := h.nb
  obtain ⟨_, _, _, _, _, hbk⟩ := h.sc.blk
  have hbl := lt_of_block hbk
  have t2 : Turn w1 w2 (fun k => k = gw) := ((Turn.refl w1 _).alloc o).grown gr (fun k hk _ => by cases hk; rfl)
  have e1 : g1 ≠ gw := by rcases l1 with rfl | l1 <;> omega
  refine ⟨s1.kept t2 e1 hnb, ?_, ?_, ?_, h.ge, (h.bel_turn t1).trans (t2.below (h.bel_turn t1).size (fun j hj => by omega)), h.npl, hc, ?_, h.bound⟩
  · unfold Owns; rw [List.length_append, List.map_append]; exact o2
  · rcases l2 with rfl | l2 <;> omega
  · rcases l2 with rfl | l2 <;> omega
  · rw [List.length_append, h.len]
    simp
    omega
theorem byte_of {n : Int} (h : (Lit.int .u8 n).wf = true) : ∃ x : UInt8, n = x.toNat := by
  have : 0 ≤ n ∧ n ≤ 255 := by simpa [Lit.wf, IntKind.min, IntKind.max, IntKind.signed, IntKind.bits] using h
  refine ⟨UInt8.ofNat n.toNat, ?_⟩
  have e : (UInt8.ofNat n.toNat).toNat = n.toNat := by
    rw [UInt8.toNat_ofNat']; exact Nat.mod_eq_of_lt (by omega)
  rw [e]; omega
theorem one_cell_int (k : IntKind) (n : Int) : ∀ u ∈ [Value.int k n], u.oneCell' = true := by
  intro u hu
  simp at hu
  subst hu
  rfl

theorem ZZnewScanner_any (f : Int) (s e x : ByteArray) (w : World) (hx : x.size ≤ 1048576) :
    Calls Try.prog 5 #[.int .u8 f, .string s, .string e, .string x] w (ScanMade w) := by
  go_enter Try.func5, Try.ntmps5
  go_wp2_with fail
  refine (newScanner_any f s e x _ hx).mono ?_
  rintro e w' ⟨b, g, cap, rfl, r⟩
  go_wp2
  go_ret
  exact ⟨b, g, cap, rfl, r⟩

set_option maxRecDepth 100000 in
set_option maxHeartbeats 4000000 in
theorem walk_FnFlagScannerScriptBuildsConcatenation (f : Int) (st en tx : ByteArray) (pa : Option Addr) (plen pcap : Nat) (pss : List ByteArray) (ca : Option Addr) (clen ccap : Nat) (czs : List Int) (oa : Option Addr) (olen ocap : Nat) (oB : Nat → Bool)
    (w : World) (w0 : (Lit.int .u8 f).wf = true) (w1 : st.size ≤ maxLen) (w2 : en.size ≤ maxLen) (w3 : tx.size ≤ maxLen) (hp : IsStrs w pa plen pcap pss) (hc : IsRow .u8 w ca clen ccap czs) (ho : IsBools w oa olen ocap oB) :
    Calls Try.prog 3 #[.int .u8 f, .string st, .string en, .string tx, .slice pa plen pcap, .slice ca clen ccap, .slice oa olen ocap] w fun e w' => e = .returned (.bool true) ∧ Below w.heap.size w w' := by
  obtain ⟨L, rfl, SL, hzL, hmL, _⟩ := hp.open
  obtain ⟨C, rfl, SC, hzC, hmC, _⟩ := hc.open
  obtain ⟨O, rfl, SO, hmO, _⟩ := ho.open
  clear hp hc ho
  go_enter Try.func3, Try.ntmps3
  go_wp2_with fail
  refine (zzB_FnFlagScannerScriptBuildsConcatenation f st en tx pa pcap L ca C.length ccap oa O.length ocap _ w1 w2 w3 SL hmL hzL hmC hmO).mono ?_
  rintro e w' ⟨b, rfl, hb, rfl⟩
  cases b with
  | false =>
    go_wp2
    go_ret
    exact ⟨rfl, Below.refl _ _⟩
  | true =>
    have hb1 := hb rfl
    clear hb
    by_cases h1 : 65536 < L.length
    · go_wp2
      go_ret
      exact ⟨rfl, Below.refl _ _⟩
    by_cases h2 : 65536 < O.length
    · go_wp2
      go_ret
      exact ⟨rfl, Below.refl _ _⟩
    have g1 : ¬ 1048576 < C.length := by omega
    have g2 : ¬ 1048576 < tx.size := by omega
    have g3 : ¬ 1048576 < st.size := by omega
    have g4 : ¬ 1048576 < en.size := by omega
    go_wp2
    go_loop [15, 16] (fun n i => ∃ k : Nat, k ≤ L.length ∧ i = .int .i64 k ∧ n = .int .i64 ((C.length + O.length + tx.size + st.size + en.size + 16 * L.length + sumSizes (L.take k) : Nat) : Int) ∧ sumSizes (L.take k) ≤ 1048576) (fun _ i => L.length - (intOf i).toNat)
    case atStart => exact ⟨0, Nat.zero_le _, rfl, by rw [List.take_zero, sumSizes_nil]; go_num, by simp [sumSizes_nil]⟩
    case round =>
      obtain ⟨k, hk, rfl, rfl, hacc⟩ := hrel
      by_cases hlt : k < L.length
      · obtain ⟨b, off, rfl, hc⟩ := SL k hlt
        have hsum := sumSizes_take_succ L k hlt
        have hle := sumSizes_take_le L (k + 1)
        generalize hs : L.getD k ByteArray.empty = s at hc hsum
        have hsz : s.size ≤ maxLen := hzL s (by rw [← hs]; simp [List.getD, hlt])
        unfold maxLen at hsz
        generalize ht : sumSizes (L.take k) = t at hacc hsum ⊢
        rw [hsum] at hle
        have HS := Lib.hid hsum
        have HT := Lib.hid ht
        have H := Lib.hid hs
        clear hsum ht hs SL SC SO
        go_wp2
        go_round
        case rel => exact ⟨k + 1, by omega, by go_num, by rw [HS.out]; go_num, by rw [HS.out]; omega⟩
        case measure => simp [intOf]; omega
      · have he : k = L.length := by omega
        subst he
        rw [List.take_length] at hacc ⊢
        clear hlt hk
        by_cases ht : 1048576 < C.length + O.length + tx.size + st.size + en.size + 16 * L.length + sumSizes L
        · go_wp2
          go_ret
          exact ⟨rfl, Below.refl _ _⟩
        obtain ⟨N, hN⟩ : ∃ N, N = C.length + O.length + tx.size + st.size + en.size + 16 * L.length + sumSizes L := ⟨_, rfl⟩
        rw [← hN] at ht ⊢
        have hCL : C.length + sumSizes L ≤ 1048576 := by omega
        clear hN hacc hb1
        go_wp2_with fail
        refine (ZZnewScanner_any f st en tx _ (by omega)).mono ?_
        rintro e w4 ⟨b, g, cap, rfl, hSc, hT, hbge⟩
        go_wp2_with fail
        refine (string_any _ b g cap [] _ hSc).mono ?_
        rintro e w5 ⟨rfl, rfl⟩
        obtain ⟨i0, hi, hz0, hz1, hz2⟩ := info_parts infoU8
        go_wp2_with (at_make; refine wpList_make_own _ rfl _ _ 23 rfl w.heap.size 5 i0 (.int .u8 0) 1 Try.underlying23 hi hz0 hz1 .i64 .i64 _ N rfl rfl rfl ?c2 ?c3 ?c4 ?_)
        case c2 => rw [hz2]; omega
        case c3 => unfold maxLen; omega
        case c4 => exact hT.size
        intro w6 hown hgrow
        have T6 : Turn w4 w6 (fun _ => False) := (Turn.refl w4 _).grown hgrow (fun _ h => by cases h)
        have hFS : FS w w6 L C b 0 0 [] g cap w4.heap.size N := by
          have hgl := hSc.row.ge
          have O6 : Owns w6 w.heap.size w4.heap.size N [] := hown
          refine ⟨hSc.kept T6 id id, O6, by omega, ?_, hbge, (hT.below (Nat.le_refl _) (fun _ h => h.elim)).trans (T6.below hT.size (fun _ h => h.elim)), Nat.zero_le _, Nat.zero_le _, by simp [sumSizes_nil], hCL⟩
          obtain ⟨_, _, _, _, _, hb⟩ := hSc.blk
          have := lt_of_block hb
          omega
        clear hSc hT hbge T6 hown hgrow
        go_wp2
        go_loopw [18, 19, 20, 21] (fun v p c i wr => ∃ (k np nc : Nat) (l : List UInt8) (g cap gw capw : Nat), k ≤ O.length ∧ i = .int .i64 k ∧ p = .int .i64 np ∧ c = .int .i64 nc ∧ v = .slice (some ⟨gw, 0, none⟩) l.length capw ∧ FS w wr L C b np nc l g cap gw capw) (fun _ _ _ i _ => O.length - (intOf i).toNat)
        case atStart => exact ⟨0, 0, 0, [], g, cap, w4.heap.size, N, Nat.zero_le _, rfl, rfl, rfl, rfl, hFS⟩
        case round =>
          clear hFS
          obtain ⟨k, np, nc, l, g, cap, gw, capw, hk, rfl, rfl, rfl, rfl, hS⟩ := hrel
          by_cases hlt : k < O.length
          · obtain ⟨bo, oo, rfl, hco0⟩ := SO k hlt
            have hco := (hS.bel.cell (p := ⟨bo, oo + k, none⟩) (World.block_lt_of_cell? _ _ hco0)).trans hco0
            have hnp := hS.npl
            have hnc := hS.ncl
            cases hbk : O.getD k false with
            | true =>
              rw [hbk] at hco hco0
              clear hbk
              by_cases hpl : np < L.length
              · obtain ⟨bp, op, hap, hcp0⟩ := SL np hpl
                have hcp := (hS.bel.cell (p := ⟨bp, op + np, none⟩) (World.block_lt_of_cell? _ _ hcp0)).trans hcp0
                generalize hx : L.getD np ByteArray.empty = x at hcp hcp0
                have hxs : x.size ≤ sumSizes L := sumSizes_mem (by rw [← hx]; simp [List.getD, hpl])
                have HX := Lib.hid hx
                have hll := hS.short
                subst hap
                clear hx SL SC SO
                go_wp2_with fail
                refine (appendString_any _ b g cap l x _ hS.sc hS.bel.size (by omega) (by omega)).mono ?_
                rintro e w7 ⟨g1, cap1, rfl, hsc1, hT1, hloc1⟩
                have hO7 := hS.wn.kept hT1 (fun h => h.elim (fun e => hS.nb e.symm) (fun e => hS.ne e.symm))
                have hb7 := hS.bel_turn hT1
                have hcp7 : w7.cell? ⟨bp, op + np, none⟩ = some (.string x) := hT1.cell hcp (hS.old (World.block_lt_of_cell? _ _ hcp0))
                go_wp2_with fail
                refine (putS_any _ gw capw l x _ hO7 hb7.size (by omega) (by omega)).mono ?_
                rintro e w8 ⟨gw1, capw1, rfl, hO8, hT2, hloc2⟩
                have hS8 := hS.part hpl HX.out hsc1 hT1 hloc1 hO8 hT2 hloc2
                have hlx : (l ++ x.data.toList).length = l.length + x.size := by simp
                clear hS hsc1 hT1 hloc1 hO7 hb7 hcp7 hcp hcp0 hO8 hT2 hloc2

                go_wp2
                go_roundw
                case rel => exact ⟨k + 1, np + 1, nc, l ++ x.data.toList, g1, cap1, gw1, capw1, by omega, by go_num, by go_num, rfl, by rw [hlx], hS8⟩
                case measure => simp [intOf]; omega
              · by_cases hcl : nc < C.length
                · obtain ⟨bp, op, hap, hcp0⟩ := SC nc hcl
                  obtain ⟨x, hx⟩ := byte_of (hzC (C.getD nc 0) (by simp [List.getD, hcl]))
                  rw [hx] at hcp0
                  have hcp := (hS.bel.cell (p := ⟨bp, op + nc, none⟩) (World.block_lt_of_cell? _ _ hcp0)).trans hcp0
                  have HX := Lib.hid hx
                  have hll := hS.short
                  subst hap
                  clear hx SL SC SO
                  go_wp2_with fail
                  refine (appendChar_any _ b g cap l x _ hS.sc hS.bel.size (by omega)).mono ?_
                  rintro e w7 ⟨g1, cap1, rfl, hsc1, hT1, hloc1⟩
                  have hO7 := hS.wn.kept hT1 (fun h => h.elim (fun e => hS.nb e.symm) (fun e => hS.ne e.symm))
                  have hb7 := hS.bel_turn hT1
                  have hcp7 : w7.cell? ⟨bp, op + nc, none⟩ = some (.int .u8 x.toNat) := hT1.cell hcp (hS.old (World.block_lt_of_cell? _ _ hcp0))
                  have hO7' : w7.ownsRow w.heap.size 5 1 (.slice (some ⟨gw, 0, none⟩) l.length capw) l.length (l.map bCell) := hO7
                  have hsz7 := hb7.size
                  go_wp2_with (at_builtin; refine wpList_append_own_at _ rfl _ _ 23 rfl w.heap.size 5 i0 (.int .u8 0) 1 1 Try.underlying23 hi hz0 hz1 hz2 rfl (by decide) _ l.length _ rfl (hO7'.alloc _) ⟨w7.heap.size, 0, none⟩ 1 1 [.int .u8 x.toNat] rfl rfl (cell_one_new _ _ _) (one_cell_int _ _) (by unfold maxLen; omega) (by omega) (by simp; omega) ?_)
                  intro v' w8 hown hgrow _ hloc2
                  obtain ⟨gw1, capw1, rfl⟩ : ∃ g' cap', v' = .slice (some ⟨g', 0, none⟩) (l.length + 1) cap' := by
                    obtain ⟨_, ⟨_, h0⟩ | ⟨g0, cap0, cur, rfl, _⟩⟩ := hown
                    · omega
                    · exact ⟨g0, cap0, rfl⟩
                  have hS8 := hS.char hcl hsc1 hT1 hloc1 hown hgrow (by simpa [Value.ownBlock] using hloc2)
                  have hlx : (l ++ [x]).length = l.length + 1 := by simp
                  clear hS hsc1 hT1 hloc1 hO7 hO7' hb7 hcp7 hcp hcp0 hown hgrow hloc2

                  go_wp2
                  go_roundw
                  case rel => exact ⟨k + 1, np, nc + 1, l ++ [x], g1, cap1, gw1, capw1, by omega, by go_num, rfl, by go_num, by rw [hlx], hS8⟩
                  case measure => simp [intOf]; omega
                · clear SL SC SO
                  go_wp2
                  go_roundw
                  case rel => exact ⟨k + 1, np, nc, l, g, cap, gw, capw, by omega, by go_num, rfl, rfl, rfl, hS⟩
                  case measure => simp [intOf]; omega
            | false =>
              rw [hbk] at hco hco0
              clear hbk
              by_cases hcl : nc < C.length
              · obtain ⟨bp, op, hap, hcp0⟩ := SC nc hcl
                obtain ⟨x, hx⟩ := byte_of (hzC (C.getD nc 0) (by simp [List.getD, hcl]))
                rw [hx] at hcp0
                have hcp := (hS.bel.cell (p := ⟨bp, op + nc, none⟩) (World.block_lt_of_cell? _ _ hcp0)).trans hcp0
                have HX := Lib.hid hx
                have hll := hS.short
                subst hap
                clear hx SL SC SO
                go_wp2_with fail
                refine (appendChar_any _ b g cap l x _ hS.sc hS.bel.size (by omega)).mono ?_
                rintro e w7 ⟨g1, cap1, rfl, hsc1, hT1, hloc1⟩
                have hO7 := hS.wn.kept hT1 (fun h => h.elim (fun e => hS.nb e.symm) (fun e => hS.ne e.symm))
                have hb7 := hS.bel_turn hT1
                have hcp7 : w7.cell? ⟨bp, op + nc, none⟩ = some (.int .u8 x.toNat) := hT1.cell hcp (hS.old (World.block_lt_of_cell? _ _ hcp0))
                have hO7' : w7.ownsRow w.heap.size 5 1 (.slice (some ⟨gw, 0, none⟩) l.length capw) l.length (l.map bCell) := hO7
                have hsz7 := hb7.size
                go_wp2_with (at_builtin; refine wpList_append_own_at _ rfl _ _ 23 rfl w.heap.size 5 i0 (.int .u8 0) 1 1 Try.underlying23 hi hz0 hz1 hz2 rfl (by decide) _ l.length _ rfl (hO7'.alloc _) ⟨w7.heap.size, 0, none⟩ 1 1 [.int .u8 x.toNat] rfl rfl (cell_one_new _ _ _) (one_cell_int _ _) (by unfold maxLen; omega) (by omega) (by simp; omega) ?_)
                intro v' w8 hown hgrow _ hloc2
                obtain ⟨gw1, capw1, rfl⟩ : ∃ g' cap', v' = .slice (some ⟨g', 0, none⟩) (l.length + 1) cap' := by
                  obtain ⟨_, ⟨_, h0⟩ | ⟨g0, cap0, cur, rfl, _⟩⟩ := hown
                  · omega
                  · exact ⟨g0, cap0, rfl⟩
                have hS8 := hS.char hcl hsc1 hT1 hloc1 hown hgrow (by simpa [Value.ownBlock] using hloc2)
                have hlx : (l ++ [x]).length = l.length + 1 := by simp
                clear hS hsc1 hT1 hloc1 hO7 hO7' hb7 hcp7 hcp hcp0 hown hgrow hloc2

                go_wp2
                go_roundw
                case rel => exact ⟨k + 1, np, nc + 1, l ++ [x], g1, cap1, gw1, capw1, by omega, by go_num, rfl, by go_num, by rw [hlx], hS8⟩
                case measure => simp [intOf]; omega
              · by_cases hpl : np < L.length
                · obtain ⟨bp, op, hap, hcp0⟩ := SL np hpl
                  have hcp := (hS.bel.cell (p := ⟨bp, op + np, none⟩) (World.block_lt_of_cell? _ _ hcp0)).trans hcp0
                  generalize hx : L.getD np ByteArray.empty = x at hcp hcp0
                  have hxs : x.size ≤ sumSizes L := sumSizes_mem (by rw [← hx]; simp [List.getD, hpl])
                  have HX := Lib.hid hx
                  have hll := hS.short
                  subst hap
                  clear hx SL SC SO
                  go_wp2_with fail
                  refine (appendString_any _ b g cap l x _ hS.sc hS.bel.size (by omega) (by omega)).mono ?_
                  rintro e w7 ⟨g1, cap1, rfl, hsc1, hT1, hloc1⟩
                  have hO7 := hS.wn.kept hT1 (fun h => h.elim (fun e => hS.nb e.symm) (fun e => hS.ne e.symm))
                  have hb7 := hS.bel_turn hT1
                  have hcp7 : w7.cell? ⟨bp, op + np, none⟩ = some (.string x) := hT1.cell hcp (hS.old (World.block_lt_of_cell? _ _ hcp0))
                  go_wp2_with fail
                  refine (putS_any _ gw capw l x _ hO7 hb7.size (by omega) (by omega)).mono ?_
                  rintro e w8 ⟨gw1, capw1, rfl, hO8, hT2, hloc2⟩
                  have hS8 := hS.part hpl HX.out hsc1 hT1 hloc1 hO8 hT2 hloc2
                  have hlx : (l ++ x.data.toList).length = l.length + x.size := by simp
                  clear hS hsc1 hT1 hloc1 hO7 hb7 hcp7 hcp hcp0 hO8 hT2 hloc2

                  go_wp2
                  go_roundw
                  case rel => exact ⟨k + 1, np + 1, nc, l ++ x.data.toList, g1, cap1, gw1, capw1, by omega, by go_num, by go_num, rfl, by rw [hlx], hS8⟩
                  case measure => simp [intOf]; omega
                · clear SL SC SO
                  go_wp2
                  go_roundw
                  case rel => exact ⟨k + 1, np, nc, l, g, cap, gw, capw, by omega, by go_num, rfl, rfl, rfl, hS⟩
                  case measure => simp [intOf]; omega
          · have he : k = O.length := by omega
            subst he
            clear hlt hk SO
            have hnp := hS.npl
            have hnc := hS.ncl
            go_wp2
            go_loopw [18, 19] (fun v p wr => ∃ (np : Nat) (l : List UInt8) (g cap gw capw : Nat), np ≤ L.length ∧ p = .int .i64 np ∧ v = .slice (some ⟨gw, 0, none⟩) l.length capw ∧ FS w wr L C b np nc l g cap gw capw) (fun _ p _ => L.length - (intOf p).toNat)
            case atStart => exact ⟨np, l, g, cap, gw, capw, hnp, rfl, rfl, hS⟩
            case round =>
              clear hS hnp
              obtain ⟨np, l, g, cap, gw, capw, hnp, rfl, rfl, hS⟩ := hrel
              by_cases hpl : np < L.length
              · obtain ⟨bp, op, hap, hcp0⟩ := SL np hpl
                have hcp := (hS.bel.cell (p := ⟨bp, op + np, none⟩) (World.block_lt_of_cell? _ _ hcp0)).trans hcp0
                generalize hx : L.getD np ByteArray.empty = x at hcp hcp0
                have hxs : x.size ≤ sumSizes L := sumSizes_mem (by rw [← hx]; simp [List.getD, hpl])
                have HX := Lib.hid hx
                have hll := hS.short
                subst hap
                clear hx SL SC
                go_wp2_with fail
                refine (appendString_any _ b g cap l x _ hS.sc hS.bel.size (by omega) (by omega)).mono ?_
                rintro e w7 ⟨g1, cap1, rfl, hsc1, hT1, hloc1⟩
                have hO7 := hS.wn.kept hT1 (fun h => h.elim (fun e => hS.nb e.symm) (fun e => hS.ne e.symm))
                have hb7 := hS.bel_turn hT1
                have hcp7 : w7.cell? ⟨bp, op + np, none⟩ = some (.string x) := hT1.cell hcp (hS.old (World.block_lt_of_cell? _ _ hcp0))
                go_wp2_with fail
                refine (putS_any _ gw capw l x _ hO7 hb7.size (by omega) (by omega)).mono ?_
                rintro e w8 ⟨gw1, capw1, rfl, hO8, hT2, hloc2⟩
                have hS8 := hS.part hpl HX.out hsc1 hT1 hloc1 hO8 hT2 hloc2
                have hlx : (l ++ x.data.toList).length = l.length + x.size := by simp
                clear hS hsc1 hT1 hloc1 hO7 hb7 hcp7 hcp hcp0 hO8 hT2 hloc2

                go_wp2
                go_roundw
                case rel => exact ⟨np + 1, l ++ x.data.toList, g1, cap1, gw1, capw1, by omega, by go_num, by rw [hlx], hS8⟩
                case measure => simp [intOf]; omega
              · have he : np = L.length := by omega
                subst he
                clear hpl hnp SL
                go_wp2
                go_loopw [18, 20] (fun v c wr => ∃ (nc : Nat) (l : List UInt8) (g cap gw capw : Nat), nc ≤ C.length ∧ c = .int .i64 nc ∧ v = .slice (some ⟨gw, 0, none⟩) l.length capw ∧ FS w wr L C b L.length nc l g cap gw capw) (fun _ c _ => C.length - (intOf c).toNat)
                case atStart => exact ⟨nc, l, g, cap, gw, capw, hnc, rfl, rfl, hS⟩
                case round =>
                  clear hS hnc
                  obtain ⟨nc, l, g, cap, gw, capw, hnc, rfl, rfl, hS⟩ := hrel
                  by_cases hcl : nc < C.length
                  · obtain ⟨bp, op, hap, hcp0⟩ := SC nc hcl
                    obtain ⟨x, hx⟩ := byte_of (hzC (C.getD nc 0) (by simp [List.getD, hcl]))
                    rw [hx] at hcp0
                    have hcp := (hS.bel.cell (p := ⟨bp, op + nc, none⟩) (World.block_lt_of_cell? _ _ hcp0)).trans hcp0
                    have HX := Lib.hid hx
                    have hll := hS.short
                    subst hap
                    clear hx SC
                    go_wp2_with fail
                    refine (appendChar_any _ b g cap l x _ hS.sc hS.bel.size (by omega)).mono ?_
                    rintro e w7 ⟨g1, cap1, rfl, hsc1, hT1, hloc1⟩
                    have hO7 := hS.wn.kept hT1 (fun h => h.elim (fun e => hS.nb e.symm) (fun e => hS.ne e.symm))
                    have hb7 := hS.bel_turn hT1
                    have hcp7 : w7.cell? ⟨bp, op + nc, none⟩ = some (.int .u8 x.toNat) := hT1.cell hcp (hS.old (World.block_lt_of_cell? _ _ hcp0))
                    have hO7' : w7.ownsRow w.heap.size 5 1 (.slice (some ⟨gw, 0, none⟩) l.length capw) l.length (l.map bCell) := hO7
                    have hsz7 := hb7.size
                    go_wp2_with (at_builtin; refine wpList_append_own_at _ rfl _ _ 23 rfl w.heap.size 5 i0 (.int .u8 0) 1 1 Try.underlying23 hi hz0 hz1 hz2 rfl (by decide) _ l.length _ rfl (hO7'.alloc _) ⟨w7.heap.size, 0, none⟩ 1 1 [.int .u8 x.toNat] rfl rfl (cell_one_new _ _ _) (one_cell_int _ _) (by unfold maxLen; omega) (by omega) (by simp; omega) ?_)
                    intro v' w8 hown hgrow _ hloc2
                    obtain ⟨gw1, capw1, rfl⟩ : ∃ g' cap', v' = .slice (some ⟨g', 0, none⟩) (l.length + 1) cap' := by
                      obtain ⟨_, ⟨_, h0⟩ | ⟨g0, cap0, cur, rfl, _⟩⟩ := hown
                      · omega
                      · exact ⟨g0, cap0, rfl⟩
                    have hS8 := hS.char hcl hsc1 hT1 hloc1 hown hgrow (by simpa [Value.ownBlock] using hloc2)
                    have hlx : (l ++ [x]).length = l.length + 1 := by simp
                    clear hS hsc1 hT1 hloc1 hO7 hO7' hb7 hcp7 hcp hcp0 hown hgrow hloc2

                    go_wp2
                    go_roundw
                    case rel => exact ⟨nc + 1, l ++ [x], g1, cap1, gw1, capw1, by omega, by go_num, by rw [hlx], hS8⟩
                    case measure => simp [intOf]; omega
                  · have he : nc = C.length := by omega
                    subst he
                    clear hcl hnc SC
                    have hcv := run_convert_bytes_back (P := Try.prog) wr 23 9 5 ⟨gw, 0, none⟩ capw l Try.underlying23 Try.underlying5 Try.underlying9 (fun j hj => by
                      have := World.ownsRow.cells hS.wn rfl j (bCell l[j]) (by simp [hj])
                      exact this)
                    go_wp2_with fail
                    refine (string_any _ b g cap l _ hS.sc).mono ?_
                    rintro e w5 ⟨rfl, rfl⟩
                    go_wp2_with fail
                    refine (string_any _ b g cap l _ hS.sc).mono ?_
                    rintro e w5 ⟨rfl, rfl⟩
                    go_wp2
                    go_ret
                    exact ⟨rfl, hS.bel⟩
end Go.Proofs.Ythgdlgghdfikmaa
