/- The walk of FnGetLabelAfterScript: it returns true, whatever the names and the queries. -/
import Derived.Test.YtfgjdnikehibnaaLab154c
import Derived.Test.YtfgjdnikehibnaaPtr
namespace Go.Proofs.Ytfgjdnikehibnaa
open Go.RowKit Go.Maps
set_option linter.unusedVariables false

@[go_sem] theorem neqLabel (a : Addr) (w : World) : (binOp .neq 33 (.pointer (some a)) (.pointer (some a))).run Try.prog w = .ok (.bool false) w := by
  have h : (Try.prog.info? 39).isSome = true := by kernel_rfl
  obtain ⟨j, hj⟩ := Option.isSome_iff_exists.1 h
  exact run_neq_ptr_same w a Try.underlying33 hj

theorem strs_later {w w' : World} {a : Option Addr} {L : List ByteArray} (h : Below w.heap.size w w') (S : Strs w a L) : Strs w' a L := by
  intro k hk
  obtain ⟨b, o, rfl, hc⟩ := S k hk
  exact ⟨b, o, rfl, (h.cell (p := ⟨b, o + k, none⟩) (World.block_lt_of_cell? _ _ hc)).trans hc⟩

/-- the first place of q comes back, or -1 -/
def FirstOf (L : List ByteArray) (s : ByteArray) (w : World) (e : Ending) (w' : World) : Prop :=
  w = w' ∧
  ((∃ r : Nat, r < L.length ∧ L.getD r ByteArray.empty = s ∧ (∀ t, t < r → L.getD t ByteArray.empty ≠ s) ∧ e = .returned (.int .i64 r)) ∨
   ((∀ t, t < L.length → L.getD t ByteArray.empty ≠ s) ∧ e = .returned (.int .i64 (-1))))

set_option maxRecDepth 100000 in
theorem firstOf_any (a : Option Addr) (c : Nat) (L : List ByteArray) (s : ByteArray) (w : World) (S : Strs w a L) (m : L.length ≤ 1048576) :
    Calls Try.prog 26 #[.slice a L.length c, .string s] w (FirstOf L s w) := by
  go_enter Try.func26, Try.ntmps26
  go_wp2
  go_loop [5] (fun j => ∃ k : Nat, k ≤ L.length ∧ j = .int .i64 k ∧ (∀ t, t < k → L.getD t ByteArray.empty ≠ s)) (fun j => L.length - (intOf j).toNat)
  case atStart => exact ⟨0, Nat.zero_le _, rfl, (fun t ht => absurd ht (by omega))⟩
  case round =>
    obtain ⟨k, hk, rfl, hne⟩ := hrel
    have HN := Lib.hid hne
    clear hne
    by_cases hlt : k < L.length
    · obtain ⟨b, o, rfl, hc⟩ := S k hlt
      generalize hs : L.getD k ByteArray.empty = x at hc
      have HS := Lib.hid hs
      clear hs S
      by_cases heq : x = s
      · subst heq
        go_wp2
        go_ret
        exact ⟨rfl, .inl ⟨k, hlt, HS.out, HN.out, rfl⟩⟩
      · have hb : (x.toList == s.toList) = false := by
          cases hbb : (x.toList == s.toList)
          · rfl
          · exact absurd (bytes_eq_of hbb) heq
        have HB := Lib.hid heq
        clear heq
        go_wp2
        go_round
        case rel =>
          refine ⟨k + 1, by omega, by go_num, ?_⟩
          intro u hu
          rcases Nat.lt_or_eq_of_le (Nat.le_of_lt_succ hu) with h | h
          · exact HN.out u h
          · subst h; rw [HS.out]; exact HB.out
        case measure => simp [intOf]; omega
    · have he : k = L.length := by omega
      subst he
      clear hlt S
      go_wp2
      go_ret
      exact ⟨rfl, .inr ⟨HN.out, rfl⟩⟩

set_option maxRecDepth 100000 in
set_option maxHeartbeats 4000000 in
theorem walk_FnGetLabelAfterScript (a : Option Addr) (len cap : Nat) (ss : List ByteArray) (qa : Option Addr) (qlen qcap : Nat) (qss : List ByteArray) (w : World) (hs : IsStrs w a len cap ss) (hq : IsStrs w qa qlen qcap qss) :
    Calls Try.prog 7 #[.slice a len cap, .slice qa qlen qcap] w fun e w' => e = .returned (.bool true) ∧ Below w.heap.size w w' := by
  obtain ⟨L, rfl, S, hz, hm, hnone⟩ := hs.open
  clear hs
  obtain ⟨Q, rfl, SQ, hzq, hmq, hnoneq⟩ := hq.open
  clear hq
  go_enter Try.func7, Try.ntmps7
  go_wp2_with fail
  refine (zzB_FnGetLabelAfterScript a cap L qa qcap Q _ S hm hz SQ hmq hzq).mono ?_
  rintro e w' ⟨b, rfl, hb, rfl⟩
  cases b with
  | false =>
    go_wp2
    go_ret
    exact ⟨rfl, Below.refl _ _⟩
  | true =>
    have hb1 := hb rfl
    clear hb
    by_cases h4096 : 4096 < L.length
    · go_wp2
      go_ret
      exact ⟨rfl, Below.refl _ _⟩
    by_cases h4096q : 4096 < Q.length
    · go_wp2
      go_ret
      exact ⟨rfl, Below.refl _ _⟩
    go_wp2_with fail
    refine (strBytesOK_any a cap L _ S hm hz).mono ?_
    rintro e w' ⟨b, rfl, hb, rfl⟩
    cases b with
    | false =>
      go_wp2
      go_ret
      exact ⟨rfl, Below.refl _ _⟩
    | true =>
      have hb2 := hb rfl
      clear hb
      go_wp2_with fail
      refine (strBytesOK_any qa qcap Q _ SQ hmq hzq).mono ?_
      rintro e w' ⟨b, rfl, hb, rfl⟩
      cases b with
      | false =>
        go_wp2
        go_ret
        exact ⟨rfl, Below.refl _ _⟩
      | true =>
      clear hb
      go_wp2_with fail
      refine (clone_any a cap L _ S (by omega) hnone).mono ?_
      rintro e w0 ⟨a', cap', rfl, S0, hx', hbel0⟩
      clear S hnone hm
      have SQ0 : Strs w0 qa Q := strs_later hbel0 SQ
      go_wp2_with fail
      refine (clone_any qa qcap Q _ SQ0 (by omega) hnoneq).mono ?_
      rintro e w1 ⟨qa', qcap', rfl, SQ', hxq', hbel1⟩
      have S' : Strs w1 a' L := strs_later hbel1 S0
      have hx : ∀ x, a' = some x → x.block < w1.heap.size := fun x h => Nat.lt_of_lt_of_le (hx' x h).2 hbel1.size
      have hxq : ∀ x, qa' = some x → x.block < w1.heap.size := fun x h => (hxq' x h).2
      have hbelW : Below w.heap.size w w1 := hbel0.trans (hbel1.mono hbel0.size)
      clear hx' hxq' SQ SQ0 S0 hbel0 hbel1 hnoneq hmq
      go_wp2_with fail
      refine (ZZnewPool_any 0 w1.heap.size _ (Nat.le_refl _)).mono ?_
      rintro e w2 ⟨P, v, rfl, hP, hT, hPge, hv⟩
      have hbel2 : Below w1.heap.size w1 w2 := hT.below (Nat.le_refl _) (fun _ h => h.elim)
      clear hT hv hP hPge
      go_wp2_with fail
      refine (ZZnewCodeBlock_any (some ⟨P, 0, none⟩) none 0 0 _).mono ?_
      rintro e w3 ⟨rfl, hw3⟩
      have hM0 : w3.ownsMap Try.prog 9 ptrElem w2.heap.size 0 (.map []) := by
        rw [← hw3]; exact (World.ownsMap_made w2 Try.prog 9 ptrElem).alloc _
      have hblk : w3.heap[w2.heap.size + 1]? = some (.cells #[.pointer (some ⟨P, 0, none⟩), .int .i64 0, .pointer none, .bool false, .int .i64 0, .int .i64 0, .map (some w2.heap.size), .int .i64 0] 54 (0, 0)) := by
        rw [← hw3]; exact heap_alloc2_new _ _ _
      have hbel3 : Below w1.heap.size w1 w3 := by
        rw [← hw3]; exact (hbel2.alloc hbel2.size _).alloc (by have := hbel2.size; simp; omega) _
      have hMge : w1.heap.size ≤ w2.heap.size := hbel2.size
      have hLI := LInv.start w3 w2.heap.size L (fun _ => 0) hM0
      clear hM0 hw3 hbel2
      generalize w2.heap.size = M at *
      obtain ⟨b, hbM⟩ : ∃ b, b = M + 1 := ⟨_, rfl⟩
      rw [← hbM] at hblk ⊢
      clear hbM
      have hLS : LState w1 w3 M b P (.map []) L 0 (fun _ => 0) := ⟨hLI, hblk, hbel3⟩
      clear hLI hblk hbel3
      go_wp2
      go_loopw [6] (fun i wr => ∃ (k : Nat) (D : DataW Unit) (Bs : Nat → Nat), k ≤ L.length ∧ i = .int .i64 k ∧ LState w1 wr M b P D L k Bs) (fun i _ => L.length - (intOf i).toNat)
      case atStart => exact ⟨0, .map [], fun _ => 0, Nat.zero_le _, rfl, hLS⟩
      case round =>
        clear hLS
        obtain ⟨k, D, Bs, hk, rfl, hLS⟩ := hrel
        by_cases hlt : k < L.length
        · have S4 := strs_below hLS.bel S' hx
          clear S'
          obtain ⟨bn, on, rfl, hc⟩ := S4 k hlt
          generalize hs : L.getD k ByteArray.empty = s at hc
          have hsm : s.size ≤ maxLen := hz s (by rw [← hs]; simp [List.getD, hlt])
          have HS := Lib.hid hs
          clear hs S4
          go_wp2_with fail
          refine (ZZnewLabelDesc_any _ s _ _ _ _).mono ?_
          rintro e w6 ⟨rfl, hw6⟩
          have hl6 : w6.heap[wr.heap.size]? = some (.cells (descOf L k) 39 (0, 0)) := by
            rw [← hw6]; unfold descOf; rw [HS.out]; exact alloc_blk _ _
          have hLS6 : LState w1 w6 M b P D L k Bs := by rw [← hw6]; exact hLS.alloc _
          clear hw6 hLS hc
          generalize wr.heap.size = l at *
          have hln : w6.cell? ⟨l, 1, none⟩ = some (.string s) := by
            have := cell_of_blk hl6 1 (.string (L.getD k ByteArray.empty)) rfl
            rw [HS.out] at this; exact this
          by_cases hfk : FirstAt L k
          · have HF := Lib.hid hfk
            have hnew := hLS6.inv.look s (by rw [← HS.out]; exact hfk)
            clear hfk
            go_wp2_with fail
            refine (ZZaddLabel_new b l M k s hsm D _ hLS6.map hln hLS6.inv.own (by unfold maxLen; omega) hnew).mono ?_
            rintro e w7 ⟨rfl, hown, hT⟩
            rw [← HS.out] at hown
            have hLS7 := hLS6.taken hMge HF.out hT hown hl6
            clear hLS6 hl6 hT hown hnew hln
            go_wp2
            go_roundw
            case rel => exact ⟨k + 1, _, _, by omega, by go_num, hLS7⟩
            case measure => simp [intOf]; omega
          · obtain ⟨f, hf⟩ := exists_first L k
            have hfk' : f ≠ k := fun e => hfk (by rw [e] at hf; exact isFirst_self hf)
            obtain ⟨h1, h2, h3⟩ := hLS6.seen hf (by have := hf.1; omega)
            rw [HS.out] at h1 h2
            have hLS7 := hLS6.old hfk
            clear h2 h3 hfk hf hfk'
            go_wp2_with fail
            refine (ZZaddLabel_old b l M k s hsm D _ hLS6.map hln hLS6.inv.own h1).mono ?_
            rintro e w7 ⟨rfl, q7, rfl⟩
            clear hLS6 hln h1 hl6
            go_wp2
            go_roundw
            case rel => exact ⟨k + 1, D, Bs, by omega, by go_num, hLS7.drewN q7⟩
            case measure => simp [intOf]; omega
        · have he : k = L.length := by omega
          subst he
          clear hlt
          go_wp2_with fail
          refine (ZZlabelCount_is b M _ _ (Maps.size D : Int) rfl _ hLS.map hLS.inv.own).mono ?_
          rintro e w9 ⟨rfl, rfl⟩
          go_wp2
          go_loopw [8] (fun i wx => ∃ k : Nat, k ≤ Q.length ∧ i = .int .i64 k ∧ LState w1 wx M b P D L L.length Bs) (fun i _ => Q.length - (intOf i).toNat)
          case atStart => exact ⟨0, Nat.zero_le _, rfl, hLS⟩
          case round =>
            clear hLS
            obtain ⟨k, hk, rfl, hLS⟩ := hrel
            by_cases hlt : k < Q.length
            · have S4 := strs_below hLS.bel S' hx
              have SQ4 := strs_below hLS.bel SQ' hxq
              clear S' SQ'
              obtain ⟨bq, oq, rfl, hc⟩ := SQ4 k hlt
              generalize hs : Q.getD k ByteArray.empty = s at hc
              have hsm : s.size ≤ maxLen := hzq s (by rw [← hs]; simp [List.getD, hlt])
              clear hs SQ4
              go_wp2_with fail
              refine (firstOf_any a' cap' L s _ S4 (by omega)).mono ?_
              rintro e w5 ⟨rfl, ⟨r, h1, h2, h3, rfl⟩ | ⟨h1, rfl⟩⟩
              · clear S4
                have hfa : FirstAt L r := fun t ht => by rw [h2]; exact h3 t ht
                obtain ⟨g1, g2, g3⟩ := hLS.inv.hit r h1 hfa
                rw [h2] at g1 g2
                have g4 : ptrOf (D.atKey (kS s) .nil) = .pointer (some ⟨Bs r, 0, none⟩) := by rw [g2]; simp [ptrOf]
                have hd0 := cell_of_blk g3 0 _ rfl
                have hd1 : wr.cell? ⟨Bs r, 1, none⟩ = some (.string s) := by
                  have := cell_of_blk g3 1 (.string (L.getD r ByteArray.empty)) rfl
                  rw [h2] at this; exact this
                have hd2 := cell_of_blk g3 2 _ rfl
                have G4 := Lib.hid g4
                have hrl : (r : Int) ≤ 65536 := by omega
                clear g1 g2 g3 g4 h2 h3 hfa
                go_wp2_with fail
                refine (ZZgetLabel_any b M _ s hsm D _ hLS.map hLS.inv.own).mono ?_
                rintro e w7 ⟨rfl, q7, rfl⟩
                rw [G4.out]
                have hLS7 := hLS.drewN q7
                have e0 : (wr.drewN q7).cell? ⟨Bs r, 0, none⟩ = some (.int .i64 ((r : Int) + 1)) := hd0
                have e1 : (wr.drewN q7).cell? ⟨Bs r, 1, none⟩ = some (.string s) := hd1
                have e2 : (wr.drewN q7).cell? ⟨Bs r, 2, none⟩ = some (.int .i64 r) := hd2
                clear hd0 hd1 hd2 hLS
                generalize wr.drewN q7 = w7 at *
                have hneg : ¬ (r : Int) < 0 := by omega
                go_wp2_with fail
                refine (ZZgetLabel_any b M _ s hsm D _ hLS7.map hLS7.inv.own).mono ?_
                rintro e w8 ⟨rfl, q8, rfl⟩
                rw [G4.out]
                have hLS8 := hLS7.drewN q8
                clear hLS7
                go_wp2_with fail
                refine (ZZlabelCount_is b M _ _ (Maps.size D : Int) rfl _ hLS8.map hLS8.inv.own).mono ?_
                rintro e w9 ⟨rfl, rfl⟩
                go_wp2
                go_roundw
                case rel => exact ⟨k + 1, by omega, by go_num, hLS8⟩
                case measure => simp [intOf]; omega
              · clear S4
                have g1 := hLS.inv.look s h1
                have g4 : ptrOf (D.atKey (kS s) .nil) = .pointer none := by rw [atKey_of_not_has g1]; rfl
                have G4 := Lib.hid g4
                clear g1 g4 h1
                go_wp2_with fail
                refine (ZZgetLabel_any b M _ s hsm D _ hLS.map hLS.inv.own).mono ?_
                rintro e w7 ⟨rfl, q7, rfl⟩
                rw [G4.out]
                have hLS7 := hLS.drewN q7
                clear hLS
                generalize wr.drewN q7 = w7 at *
                go_wp2_with fail
                refine (ZZgetLabel_any b M _ s hsm D _ hLS7.map hLS7.inv.own).mono ?_
                rintro e w8 ⟨rfl, q8, rfl⟩
                rw [G4.out]
                have hLS8 := hLS7.drewN q8
                clear hLS7
                go_wp2_with fail
                refine (ZZlabelCount_is b M _ _ (Maps.size D : Int) rfl _ hLS8.map hLS8.inv.own).mono ?_
                rintro e w9 ⟨rfl, rfl⟩
                go_wp2
                go_roundw
                case rel => exact ⟨k + 1, by omega, by go_num, hLS8⟩
                case measure => simp [intOf]; omega
            · have he : k = Q.length := by omega
              subst he
              clear hlt S' SQ'
              go_wp2
              go_ret
              exact ⟨rfl, hbelW.trans (hLS.bel.mono hbelW.size)⟩
end Go.Proofs.Ytfgjdnikehibnaa
