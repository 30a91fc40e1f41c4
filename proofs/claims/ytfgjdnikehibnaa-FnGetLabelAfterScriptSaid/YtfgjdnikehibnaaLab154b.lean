/- The walk of FnAddLabelFirstWins: it returns true, whatever the names. -/
import Derived.Test.YtfgjdnikehibnaaBytes154
import Derived.Test.YtfgjdnikehibnaaLab154a
namespace Go.Proofs.Ytfgjdnikehibnaa
open Go.RowKit Go.Maps
set_option linter.unusedVariables false

theorem strs_below {β : Nat} {w1 wr : World} {a : Option Addr} {L : List ByteArray} (h : Below β w1 wr) (S : Strs w1 a L) (hx : ∀ x, a = some x → x.block < β) : Strs wr a L := by
  intro k hk
  obtain ⟨b, o, rfl, hc⟩ := S k hk
  exact ⟨b, o, rfl, (h.cell (p := ⟨b, o + k, none⟩) (hx ⟨b, o, none⟩ rfl)).trans hc⟩
theorem below_drewN {β : Nat} {w w' : World} (h : Below β w w') (q : Nat) : Below β w (w'.drewN q) := ⟨h.os, h.tape, h.output, h.size, h.block⟩
/-- what is known of the state at the head of a round -/
structure LState (w1 wr : World) (M b P : Nat) (D : DataW Unit) (L : List ByteArray) (k : Nat) (Bs : Nat → Nat) : Prop where
  inv : LInv wr M D L k Bs
  blk : wr.heap[b]? = some (.cells #[.pointer (some ⟨P, 0, none⟩), .int .i64 0, .pointer none, .bool false, .int .i64 0, .int .i64 0, .map (some M), .int .i64 0] 54 (0, 0))
  bel : Below w1.heap.size w1 wr

theorem LState.drewN {w1 wr : World} {M b P : Nat} {D : DataW Unit} {L : List ByteArray} {k : Nat} {Bs : Nat → Nat} (h : LState w1 wr M b P D L k Bs) (q : Nat) : LState w1 (wr.drewN q) M b P D L k Bs :=
  ⟨h.inv.drewN q, h.blk, below_drewN h.bel q⟩
theorem LState.alloc {w1 wr : World} {M b P : Nat} {D : DataW Unit} {L : List ByteArray} {k : Nat} {Bs : Nat → Nat} (h : LState w1 wr M b P D L k Bs) (o : Obj) : LState w1 (wr.alloc o) M b P D L k Bs :=
  ⟨h.inv.alloc o, (Below.heap_alloc wr o b (lt_of_block h.blk)).trans h.blk, h.bel.alloc h.bel.size o⟩
theorem LState.map {w1 wr : World} {M b P : Nat} {D : DataW Unit} {L : List ByteArray} {k : Nat} {Bs : Nat → Nat} (h : LState w1 wr M b P D L k Bs) : wr.cell? ⟨b, 6, none⟩ = some (.map (some M)) :=
  cell_of_blk h.blk 6 _ rfl
theorem LState.taken {w1 wr w' : World} {M b P l : Nat} {D : DataW Unit} {L : List ByteArray} {k : Nat} {Bs : Nat → Nat} (h : LState w1 wr M b P D L k Bs) (hM : w1.heap.size ≤ M) (hf : FirstAt L k)
    (t : Turn wr w' (fun b => b = M)) (own : w'.ownsMap Try.prog 9 ptrElem M (k + 1) (D.put (kS (L.getD k ByteArray.empty)) (.lit (.int .i64 l))))
    (hl : wr.heap[l]? = some (.cells (descOf L k) 39 (0, 0))) :
    LState w1 w' M b P (D.put (kS (L.getD k ByteArray.empty)) (.lit (.int .i64 l))) L (k + 1) (fun r => if r = k then l else Bs r) := by
  obtain ⟨es, c, hMb⟩ := ownsMap_block h.inv.own
  exact ⟨h.inv.new hf t own hl, t.heap h.blk (fun e => by have := h.blk; rw [e, hMb] at this; simp at this), h.bel.trans (t.below h.bel.size (fun j hj => by omega))⟩
theorem LState.old {w1 wr : World} {M b P : Nat} {D : DataW Unit} {L : List ByteArray} {k : Nat} {Bs : Nat → Nat} (h : LState w1 wr M b P D L k Bs) (hn : ¬ FirstAt L k) : LState w1 wr M b P D L (k + 1) Bs :=
  ⟨h.inv.old hn, h.blk, h.bel⟩
/-- a name seen before: the map has it, at the first label's block -/
theorem LState.seen {w1 wr : World} {M b P : Nat} {D : DataW Unit} {L : List ByteArray} {k i f : Nat} {Bs : Nat → Nat} (h : LState w1 wr M b P D L k Bs) (hf : IsFirst L i f) (hfk : f < k) :
    Maps.has D (kS (L.getD i ByteArray.empty)) = true ∧ ptrOf (D.atKey (kS (L.getD i ByteArray.empty)) .nil) = .pointer (some ⟨Bs f, 0, none⟩) ∧ wr.heap[Bs f]? = some (.cells (descOf L f) 39 (0, 0)) := by
  obtain ⟨h1, h2, h3⟩ := h.inv.hit f hfk (isFirst_first hf)
  rw [hf.2.1] at h1 h2
  exact ⟨h1, by rw [h2]; simp [ptrOf], h3⟩

set_option maxRecDepth 100000 in
set_option maxHeartbeats 4000000 in
theorem walk_FnAddLabelFirstWins (a : Option Addr) (len cap : Nat) (ss : List ByteArray) (w : World) (hs : IsStrs w a len cap ss) :
    Calls Try.prog 5 #[.slice a len cap] w fun e w' => e = .returned (.bool true) ∧ Below w.heap.size w w' := by
  obtain ⟨L, rfl, S, hz, hm, hnone⟩ := hs.open
  clear hs
  go_enter Try.func5, Try.ntmps5
  go_wp2_with fail
  refine (zzB_FnAddLabelFirstWins a cap L _ S hm hz).mono ?_
  rintro e w' ⟨b, rfl, hb, rfl⟩
  cases b with
  | false =>
    go_wp2
    go_ret
    exact ⟨rfl, Below.refl _ _⟩
  | true =>
    have hb1 := hb rfl
    clear hb
    by_cases h4096 : 4096 < L.length
    · go_wp2
      go_ret
      exact ⟨rfl, Below.refl _ _⟩
    go_wp2_with fail
    refine (strBytesOK_any a cap L _ S hm hz).mono ?_
    rintro e w' ⟨b, rfl, hb, rfl⟩
    cases b with
    | false =>
      go_wp2
      go_ret
      exact ⟨rfl, Below.refl _ _⟩
    | true =>
      have hb2 := hb rfl
      clear hb
      go_wp2_with fail
      refine (clone_any a cap L _ S (by omega) hnone).mono ?_
      rintro e w1 ⟨a', cap', rfl, S', hx', hbel1⟩
      clear S hnone hm
      go_wp2_with fail
      refine (ZZnewPool_any 0 w1.heap.size _ (Nat.le_refl _)).mono ?_
      rintro e w2 ⟨P, v, rfl, hP, hT, hPge, hv⟩
      have hbel2 : Below w1.heap.size w1 w2 := hT.below (Nat.le_refl _) (fun _ h => h.elim)
      have hx : ∀ x, a' = some x → x.block < w1.heap.size := fun x h => (hx' x h).2
      clear hx' hT hv hP hPge
      go_wp2_with fail
      refine (ZZnewCodeBlock_any (some ⟨P, 0, none⟩) none 0 0 _).mono ?_
      rintro e w3 ⟨rfl, hw3⟩
      have hM0 : w3.ownsMap Try.prog 9 ptrElem w2.heap.size 0 (.map []) := by
        rw [← hw3]; exact (World.ownsMap_made w2 Try.prog 9 ptrElem).alloc _
      have hblk : w3.heap[w2.heap.size + 1]? = some (.cells #[.pointer (some ⟨P, 0, none⟩), .int .i64 0, .pointer none, .bool false, .int .i64 0, .int .i64 0, .map (some w2.heap.size), .int .i64 0] 54 (0, 0)) := by
        rw [← hw3]; exact heap_alloc2_new _ _ _
      have hbel3 : Below w1.heap.size w1 w3 := by
        rw [← hw3]; exact (hbel2.alloc hbel2.size _).alloc (by have := hbel2.size; simp; omega) _
      have hMge : w1.heap.size ≤ w2.heap.size := hbel2.size
      have hLI := LInv.start w3 w2.heap.size L (fun _ => 0) hM0
      clear hM0 hw3 hbel2
      generalize w2.heap.size = M at *
      obtain ⟨b, hbM⟩ : ∃ b, b = M + 1 := ⟨_, rfl⟩
      rw [← hbM] at hblk ⊢
      clear hbM
      have hLS : LState w1 w3 M b P (.map []) L 0 (fun _ => 0) := ⟨hLI, hblk, hbel3⟩
      clear hLI hblk hbel3
      go_wp2
      go_loopw [4, 5] (fun d i wr => ∃ (k : Nat) (D : DataW Unit) (Bs : Nat → Nat), k ≤ L.length ∧ i = .int .i64 k ∧ d = .int .i64 (Maps.size D) ∧ LState w1 wr M b P D L k Bs) (fun _ i _ => L.length - (intOf i).toNat)
      case atStart => exact ⟨0, .map [], fun _ => 0, Nat.zero_le _, rfl, rfl, hLS⟩
      case round =>
        clear hLS
        obtain ⟨k, D, Bs, hk, rfl, rfl, hLS⟩ := hrel
        by_cases hlt : k < L.length
        · have S := strs_below hLS.bel S' hx
          clear S'
          go_wp2_with fail
          refine (first_any a' cap' L k hlt _ S (by omega)).mono ?_
          rintro e w4 ⟨f, q, rfl, hf, rfl⟩
          have hLS4 := hLS.drewN q
          have S4 : Strs (wr.drewN q) a' L := S
          have hsz := hLS.inv.own.size_le
          clear hLS S
          generalize wr.drewN q = w5 at *
          obtain ⟨bn, on, rfl, hc⟩ := S4 k hlt
          generalize hs : L.getD k ByteArray.empty = s at hc
          have hsm : s.size ≤ maxLen := hz s (by rw [← hs]; simp [List.getD, hlt])
          have HS := Lib.hid hs
          clear hs S4
          go_wp2_with fail
          refine (ZZnewLabelDesc_any _ s _ _ _ _).mono ?_
          rintro e w6 ⟨rfl, hw6⟩
          have hl6 : w6.heap[w5.heap.size]? = some (.cells (descOf L k) 39 (0, 0)) := by
            rw [← hw6]; unfold descOf; rw [HS.out]; exact alloc_blk _ _
          have hLS6 : LState w1 w6 M b P D L k Bs := by rw [← hw6]; exact hLS4.alloc _
          have hc6 : w6.cell? ⟨bn, on + k, none⟩ = some (.string s) := by
            rw [← hw6]; exact ((Turn.refl w5 (fun _ => False)).alloc _).cell hc id
          clear hw6 hLS4 hc
          generalize w5.heap.size = l at *
          have hln : w6.cell? ⟨l, 1, none⟩ = some (.string s) := by
            have := cell_of_blk hl6 1 (.string (L.getD k ByteArray.empty)) rfl
            rw [HS.out] at this; exact this
          by_cases hfk : f = k
          · subst hfk
            have hnew := hLS6.inv.look s (by rw [← HS.out]; exact isFirst_self hf)
            go_wp2_with fail
            refine (ZZaddLabel_new b l M f s hsm D _ hLS6.map hln hLS6.inv.own (by unfold maxLen; omega) hnew).mono ?_
            rintro e w7 ⟨rfl, hown, hT⟩
            have hsize : Maps.size (D.put (kS s) (.lit (.int .i64 l))) = Maps.size D + 1 := by
              rw [size_put (hLS6.inv.own.tidy strKey), hnew]; rfl
            rw [← HS.out] at hown hsize
            have hLS7 := hLS6.taken hMge (isFirst_self hf) hT hown hl6
            have hm7 := hLS7.map
            have HZ := Lib.hid hsize
            clear hLS6 hl6 hT hown hsize hnew hln hc6
            go_wp2_with fail
            refine (ZZlabelCount_is b M _ _ ((Maps.size D : Int) + 1) (by rw [HZ.out]; omega) _ hm7 hLS7.inv.own).mono ?_
            rintro e w8 ⟨rfl, rfl⟩
            go_wp2
            go_roundw
            case rel => exact ⟨f + 1, _, _, by omega, by go_num, by rw [HZ.out]; go_num, hLS7⟩
            case measure => simp [intOf]; omega
          · obtain ⟨h1, h2, h3⟩ := hLS6.seen hf (by have := hf.1; omega)
            rw [HS.out] at h1 h2
            have hd0 := cell_of_blk h3 0 _ rfl
            have hd1 : w6.cell? ⟨Bs f, 1, none⟩ = some (.string s) := by
              have := cell_of_blk h3 1 (.string (L.getD f ByteArray.empty)) rfl
              rw [hf.2.1, HS.out] at this; exact this
            have hd2 := cell_of_blk h3 2 _ rfl
            have hLS7 := hLS6.old (isFirst_not hf hfk)
            have hne : ((f : Int) == (k : Int)) = false := by rw [beq_eq_false_iff_ne]; omega
            have hfl := hf.1
            have H2 := Lib.hid h2
            have HF := Lib.hid hfk
            clear h2 h3 hfk hf
            go_wp2_with fail
            refine (ZZaddLabel_old b l M k s hsm D _ hLS6.map hln hLS6.inv.own h1).mono ?_
            rintro e w7 ⟨rfl, q7, rfl⟩
            rw [H2.out]
            have e0 : (w6.drewN q7).cell? ⟨Bs f, 0, none⟩ = some (.int .i64 ((f : Int) + 1)) := hd0
            have e1 : (w6.drewN q7).cell? ⟨Bs f, 1, none⟩ = some (.string s) := hd1
            have e2 : (w6.drewN q7).cell? ⟨Bs f, 2, none⟩ = some (.int .i64 f) := hd2
            have e3 : (w6.drewN q7).cell? ⟨bn, on + k, none⟩ = some (.string s) := hc6
            have hLS8 := hLS7.drewN q7
            clear hLS6 hLS7 hd0 hd1 hd2 hc6 hln h1 hl6
            generalize w6.drewN q7 = w8 at *
            have z1 : (0 : Int) ≤ (k : Int) := by omega
            have z2 : (k : Int) < (L.length : Int) := by omega
            have z3 : (0 : Int) ≤ (f : Int) := by omega
            have z4 : (f : Int) ≤ (k : Int) := by omega
            go_wp2
            go_quiet (fail)
            go_wp2_with fail
            have hLS9 := hLS8.drewN nq
            refine (ZZlabelCount_is b M _ _ (Maps.size D : Int) rfl _ hLS9.map hLS9.inv.own).mono ?_
            rintro e w9 ⟨rfl, rfl⟩
            go_wp2
            go_roundw
            case rel => exact ⟨k + 1, D, Bs, by omega, by go_num, rfl, hLS9⟩
            case measure => simp [intOf]; omega
        · have he : k = L.length := by omega
          subst he
          clear S'
          go_wp2
          go_ret
          exact ⟨rfl, hbel1.trans (hLS.bel.mono hbel1.size)⟩
end Go.Proofs.Ytfgjdnikehibnaa
