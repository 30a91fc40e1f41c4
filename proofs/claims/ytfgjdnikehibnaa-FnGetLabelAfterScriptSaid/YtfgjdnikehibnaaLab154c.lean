/- The walk of FnAddLabelReplayRefused: it returns true, whatever the names. -/
import Derived.Test.YtfgjdnikehibnaaLab154b
namespace Go.Proofs.Ytfgjdnikehibnaa
open Go.RowKit Go.Maps
set_option linter.unusedVariables false

theorem isFirst_unique {L : List ByteArray} {i r r' : Nat} (h : IsFirst L i r) (h' : IsFirst L i r') : r = r' := by
  rcases Nat.lt_trichotomy r r' with hl | hl | hl
  · exact absurd h.2.1 (h'.2.2 r hl)
  · exact hl
  · exact absurd h'.2.1 (h.2.2 r' hl)

theorem exists_first (L : List ByteArray) (i : Nat) : ∃ r, IsFirst L i r := by
  have key : ∀ n, n ≤ i → (∃ r, IsFirst L i r) ∨ ∀ t, t < n → L.getD t ByteArray.empty ≠ L.getD i ByteArray.empty := by
    intro n
    induction n with
    | zero => exact fun _ => .inr fun t ht => absurd ht (by omega)
    | succ n ih =>
      intro hn
      rcases ih (by omega) with h | h
      · exact .inl h
      · by_cases he : L.getD n ByteArray.empty = L.getD i ByteArray.empty
        · exact .inl ⟨n, by omega, he, h⟩
        · refine .inr fun t ht => ?_
          rcases Nat.lt_or_eq_of_le (Nat.le_of_lt_succ ht) with h' | h'
          · exact h t h'
          · subst h'; exact he
  rcases key i (Nat.le_refl _) with h | h
  · exact h
  · exact ⟨i, Nat.le_refl _, rfl, h⟩

set_option maxRecDepth 100000 in
set_option maxHeartbeats 4000000 in
theorem walk_FnAddLabelReplayRefused (a : Option Addr) (len cap : Nat) (ss : List ByteArray) (w : World) (hs : IsStrs w a len cap ss) :
    Calls Try.prog 4 #[.slice a len cap] w fun e w' => e = .returned (.bool true) ∧ Below w.heap.size w w' := by
  obtain ⟨L, rfl, S, hz, hm, hnone⟩ := hs.open
  clear hs
  go_enter Try.func4, Try.ntmps4
  go_wp2_with fail
  refine (zzB_FnAddLabelReplayRefused a cap L _ S hm hz).mono ?_
  rintro e w' ⟨b, rfl, hb, rfl⟩
  cases b with
  | false =>
    go_wp2
    go_ret
    exact ⟨rfl, Below.refl _ _⟩
  | true =>
    have hb1 := hb rfl
    clear hb
    by_cases h4096 : 4096 < L.length
    · go_wp2
      go_ret
      exact ⟨rfl, Below.refl _ _⟩
    go_wp2_with fail
    refine (strBytesOK_any a cap L _ S hm hz).mono ?_
    rintro e w' ⟨b, rfl, hb, rfl⟩
    cases b with
    | false =>
      go_wp2
      go_ret
      exact ⟨rfl, Below.refl _ _⟩
    | true =>
      have hb2 := hb rfl
      clear hb
      go_wp2_with fail
      refine (clone_any a cap L _ S (by omega) hnone).mono ?_
      rintro e w1 ⟨a', cap', rfl, S', hx', hbel1⟩
      clear S hnone hm
      go_wp2_with fail
      refine (ZZnewPool_any 0 w1.heap.size _ (Nat.le_refl _)).mono ?_
      rintro e w2 ⟨P, v, rfl, hP, hT, hPge, hv⟩
      have hbel2 : Below w1.heap.size w1 w2 := hT.below (Nat.le_refl _) (fun _ h => h.elim)
      have hx : ∀ x, a' = some x → x.block < w1.heap.size := fun x h => (hx' x h).2
      clear hx' hT hv hP hPge
      go_wp2_with fail
      refine (ZZnewCodeBlock_any (some ⟨P, 0, none⟩) none 0 0 _).mono ?_
      rintro e w3 ⟨rfl, hw3⟩
      have hM0 : w3.ownsMap Try.prog 9 ptrElem w2.heap.size 0 (.map []) := by
        rw [← hw3]; exact (World.ownsMap_made w2 Try.prog 9 ptrElem).alloc _
      have hblk : w3.heap[w2.heap.size + 1]? = some (.cells #[.pointer (some ⟨P, 0, none⟩), .int .i64 0, .pointer none, .bool false, .int .i64 0, .int .i64 0, .map (some w2.heap.size), .int .i64 0] 54 (0, 0)) := by
        rw [← hw3]; exact heap_alloc2_new _ _ _
      have hbel3 : Below w1.heap.size w1 w3 := by
        rw [← hw3]; exact (hbel2.alloc hbel2.size _).alloc (by have := hbel2.size; simp; omega) _
      have hMge : w1.heap.size ≤ w2.heap.size := hbel2.size
      have hLI := LInv.start w3 w2.heap.size L (fun _ => 0) hM0
      clear hM0 hw3 hbel2
      generalize w2.heap.size = M at *
      obtain ⟨b, hbM⟩ : ∃ b, b = M + 1 := ⟨_, rfl⟩
      rw [← hbM] at hblk ⊢
      clear hbM
      have hLS : LState w1 w3 M b P (.map []) L 0 (fun _ => 0) := ⟨hLI, hblk, hbel3⟩
      clear hLI hblk hbel3
      go_wp2
      go_loopw [4] (fun i wr => ∃ (k : Nat) (D : DataW Unit) (Bs : Nat → Nat), k ≤ L.length ∧ i = .int .i64 k ∧ LState w1 wr M b P D L k Bs) (fun i _ => L.length - (intOf i).toNat)
      case atStart => exact ⟨0, .map [], fun _ => 0, Nat.zero_le _, rfl, hLS⟩
      case round =>
        clear hLS
        obtain ⟨k, D, Bs, hk, rfl, hLS⟩ := hrel
        by_cases hlt : k < L.length
        · have S4 := strs_below hLS.bel S' hx
          clear S'
          obtain ⟨bn, on, rfl, hc⟩ := S4 k hlt
          generalize hs : L.getD k ByteArray.empty = s at hc
          have hsm : s.size ≤ maxLen := hz s (by rw [← hs]; simp [List.getD, hlt])
          have HS := Lib.hid hs
          clear hs S4
          go_wp2_with fail
          refine (ZZnewLabelDesc_any _ s _ _ _ _).mono ?_
          rintro e w6 ⟨rfl, hw6⟩
          have hl6 : w6.heap[wr.heap.size]? = some (.cells (descOf L k) 39 (0, 0)) := by
            rw [← hw6]; unfold descOf; rw [HS.out]; exact alloc_blk _ _
          have hLS6 : LState w1 w6 M b P D L k Bs := by rw [← hw6]; exact hLS.alloc _
          clear hw6 hLS hc
          generalize wr.heap.size = l at *
          have hln : w6.cell? ⟨l, 1, none⟩ = some (.string s) := by
            have := cell_of_blk hl6 1 (.string (L.getD k ByteArray.empty)) rfl
            rw [HS.out] at this; exact this
          by_cases hfk : FirstAt L k
          · have HF := Lib.hid hfk
            have hnew := hLS6.inv.look s (by rw [← HS.out]; exact hfk)
            clear hfk
            go_wp2_with fail
            refine (ZZaddLabel_new b l M k s hsm D _ hLS6.map hln hLS6.inv.own (by unfold maxLen; omega) hnew).mono ?_
            rintro e w7 ⟨rfl, hown, hT⟩
            rw [← HS.out] at hown
            have hLS7 := hLS6.taken hMge HF.out hT hown hl6
            clear hLS6 hl6 hT hown hnew hln
            go_wp2
            go_roundw
            case rel => exact ⟨k + 1, _, _, by omega, by go_num, hLS7⟩
            case measure => simp [intOf]; omega
          · obtain ⟨f, hf⟩ := exists_first L k
            have hfk' : f ≠ k := fun e => hfk (by rw [e] at hf; exact isFirst_self hf)
            obtain ⟨h1, h2, h3⟩ := hLS6.seen hf (by have := hf.1; omega)
            rw [HS.out] at h1 h2
            have hLS7 := hLS6.old hfk
            clear h2 h3 hfk hf hfk'
            go_wp2_with fail
            refine (ZZaddLabel_old b l M k s hsm D _ hLS6.map hln hLS6.inv.own h1).mono ?_
            rintro e w7 ⟨rfl, q7, rfl⟩
            clear hLS6 hln h1 hl6
            go_wp2
            go_roundw
            case rel => exact ⟨k + 1, D, Bs, by omega, by go_num, hLS7.drewN q7⟩
            case measure => simp [intOf]; omega
        · have he : k = L.length := by omega
          subst he
          clear hlt
          go_wp2_with fail
          refine (ZZlabelCount_is b M _ _ (Maps.size D : Int) rfl _ hLS.map hLS.inv.own).mono ?_
          rintro e w9 ⟨rfl, rfl⟩
          go_wp2
          go_loopw [7] (fun i wx => ∃ k : Nat, k ≤ L.length ∧ i = .int .i64 k ∧ LState w1 wx M b P D L L.length Bs) (fun i _ => L.length - (intOf i).toNat)
          case atStart => exact ⟨0, Nat.zero_le _, rfl, hLS⟩
          case round =>
            clear hLS
            obtain ⟨k, hk, rfl, hLS⟩ := hrel
            by_cases hlt : k < L.length
            · have S4 := strs_below hLS.bel S' hx
              clear S'
              obtain ⟨bn, on, hao, hc⟩ := S4 k hlt
              subst hao
              generalize hs : L.getD k ByteArray.empty = s at hc
              have hsm : s.size ≤ maxLen := hz s (by rw [← hs]; simp [List.getD, hlt])
              have HS := Lib.hid hs
              clear hs
              obtain ⟨f, hf⟩ := exists_first L k
              go_wp2_with fail
              refine (ZZnewLabelDesc_any _ s _ _ _ _).mono ?_
              rintro e w6 ⟨rfl, hw6⟩
              have hln : w6.cell? ⟨wr.heap.size, 1, none⟩ = some (.string s) := by
                rw [← hw6]; exact cell_of_blk (alloc_blk _ _) 1 _ rfl
              have hLS6 : LState w1 w6 M b P D L L.length Bs := by rw [← hw6]; exact hLS.alloc _
              have S6 : Strs w6 (some ⟨bn, on, none⟩) L := by
                rw [← hw6]; exact ((Turn.refl wr (fun _ => False)).alloc _).strs S4 (fun _ _ => id)
              have hc6 : w6.cell? ⟨bn, on + k, none⟩ = some (.string s) := by
                rw [← hw6]; exact ((Turn.refl wr (fun _ => False)).alloc _).cell hc id
              clear hw6 hLS hc S4
              generalize wr.heap.size = l at *
              obtain ⟨h1, h2, h3⟩ := hLS6.seen hf (by have := hf.1; omega)
              rw [HS.out] at h1 h2
              have hd0 := cell_of_blk h3 0 _ rfl
              have hd1 : w6.cell? ⟨Bs f, 1, none⟩ = some (.string s) := by
                have := cell_of_blk h3 1 (.string (L.getD f ByteArray.empty)) rfl
                rw [hf.2.1, HS.out] at this; exact this
              have hd2 := cell_of_blk h3 2 _ rfl
              have hfl := hf.1
              have H2 := Lib.hid h2
              have HF := Lib.hid hf
              clear h2 h3 hf
              go_wp2_with fail
              refine (ZZaddLabel_old b l M _ s hsm D _ hLS6.map hln hLS6.inv.own h1).mono ?_
              rintro e w7 ⟨rfl, q7, rfl⟩
              rw [H2.out]
              go_wp2_with fail
              refine (first_any _ cap' L k hlt (w6.drewN q7) S6 (by omega)).mono ?_
              rintro e w8 ⟨f', q8, rfl, hf', rfl⟩
              obtain rfl : f' = f := isFirst_unique hf' HF.out
              have e0 : ((w6.drewN q7).drewN q8).cell? ⟨Bs f', 0, none⟩ = some (.int .i64 ((f' : Int) + 1)) := hd0
              have e1 : ((w6.drewN q7).drewN q8).cell? ⟨Bs f', 1, none⟩ = some (.string s) := hd1
              have e2 : ((w6.drewN q7).drewN q8).cell? ⟨Bs f', 2, none⟩ = some (.int .i64 f') := hd2
              have e3 : ((w6.drewN q7).drewN q8).cell? ⟨bn, on + k, none⟩ = some (.string s) := hc6
              have hLS8 := (hLS6.drewN q7).drewN q8
              clear hLS6 hd0 hd1 hd2 hc6 hln h1 S6 hf'
              generalize (w6.drewN q7).drewN q8 = w8 at *
              have z1 : (0 : Int) ≤ (k : Int) := by omega
              have z2 : (k : Int) < (L.length : Int) := by omega
              have z3 : (0 : Int) ≤ (f' : Int) := by omega
              have z4 : (f' : Int) ≤ (k : Int) := by omega
              go_wp2
              go_quiet (fail)
              go_wp2_with fail
              have hLS9 := hLS8.drewN nq
              refine (ZZlabelCount_is b M _ _ (Maps.size D : Int) rfl _ hLS9.map hLS9.inv.own).mono ?_
              rintro e w9 ⟨rfl, rfl⟩
              go_wp2
              go_roundw
              case rel => exact ⟨k + 1, by omega, by go_num, hLS9⟩
              case measure => simp [intOf]; omega
            · have he : k = L.length := by omega
              subst he
              clear hlt S'
              go_wp2
              go_ret
              exact ⟨rfl, hbel1.trans (hLS.bel.mono hbel1.size)⟩
end Go.Proofs.Ytfgjdnikehibnaa
