/- zzFindLabelCtx's contract. -/
import Derived.Test.YtdhmpfijdmlfoaaFmtFl136
namespace Go.Proofs.YtdhmpfijdmlfoaaFmt
open Go.RowKit Go.Maps
set_option linter.unusedVariables false

def FlMade (names : List ByteArray) (ids ns : List Int) (m : Nat) (L : List Int) (s : ByteArray) (pc gN : Int) (refUp : Bool) (w : World) (e : Ending) (w' : World) : Prop :=
  ∃ fc F gb gc cc gl cl ls DL D1 D2 nL n1 n2 K g, e = .returned (.tuple #[.pointer (some ⟨fc, 0, none⟩), .pointer (some ⟨g, 0, none⟩)]) ∧
    Ctx w' w.heap.size fc F gb gc cc gl cl L ls 2 refUp DL D1 D2 nL n1 n2 ∧ w'.heap[g]? = some (.cells #[.int .i64 0, .string s, .int .i64 pc, .int .i64 1, .int .i64 gN] 29 (0, 0)) ∧
    LabsAt w' K ∧ Look DL K ∧ Distinct K ∧ From names ids [] ns m K ∧ (∀ q : Int, Maps.has D2 (kI q) = decide (0 ≤ q ∧ q < 2)) ∧ Turn w w' (fun _ => False)

set_option maxRecDepth 100000 in
set_option maxHeartbeats 4000000 in
theorem flCtx_any (na : Option Addr) (nc : Nat) (names : List ByteArray) (ia : Option Addr) (ic : Nat) (ids : List Int) (sa : Option Addr) (sc : Nat) (ns : List Int) (a : Option Addr) (c : Nat) (L : List Int) (s : ByteArray) (pc gN : Int) (refUp : Bool) (w : World) (Sn : Strs w na names) (Si : Ints .i64 w ia ids) (Ss : Ints .i64 w sa ns) (S : Ints .u32 w a L) (h1 : names.length ≤ 4096) (h2 : ids.length ≤ 4096) (h3 : ns.length ≤ 4096) (hL : L.length ≤ 65536) (m : Nat) (hm : m = min (min names.length ids.length) ns.length)
    (hz : ∀ s ∈ names, s.size ≤ maxLen) (hzi : ∀ n ∈ ids, (Lit.int .i64 n).wf = true) :
    Calls Tryf.prog 18 #[.slice na names.length nc, .slice ia ids.length ic, .slice sa ns.length sc, .slice a L.length c, .string s, .int .i64 pc, .int .i64 gN, .bool refUp] w (FlMade names ids ns m L s pc gN refUp w) := by
  go_enter Tryf.func18, Tryf.ntmps18
  go_wp2_with fail
  refine (ZZnewFc_any _ _).mono ?_
  intro e w1 hmade
  obtain ⟨fc, F, g, rfl, hC, hT, _⟩ := hmade.ctx
  clear hmade
  go_wp2_with fail
  refine (zzMin3_any names.length ids.length ns.length _).mono ?_
  rintro e w' ⟨rfl, rfl⟩
  rw [← hm]
  have hmn : m ≤ names.length := by omega
  clear hm
  have hb1 := hT.below (Nat.le_refl _) (fun _ h => h.elim)
  have Sn1 := strs_later hb1 Sn
  have Si1 := ints_later hb1 Si
  have Ss1 := ints_later hb1 Ss
  go_wp2_with fail
  refine (addDistinct_any w.heap.size fc F (.slice (some ⟨g, 0, none⟩) 1 1, none) F.gc 1024 F.gl 1024 [] [] 0 false (.map []) (.map []) (.map []) 0 0 0 na nc names ia ic ids none 0 [] sa sc ns m _ hC (fun s => rfl) hT.size Sn1 Si1 (fun k hk => absurd hk (by simp)) Ss1 (by omega) h1 h2 (by simp) h3 (by omega) (by omega) hz hzi (by simp)).mono ?_
  rintro e w2 ⟨gk, capk, K, DL, D1, nL, n1, rfl, hD, hF, hnL, hn1⟩
  have hC2 := hD.ctx
  have hT2 : Turn w w2 (fun _ => False) := hT.trans' hD.turn (fun j hj h => by
    have := hC.bge
    have := hC.m1ge
    omega)
  have hlabs := hD.labs
  have hlook := hD.look
  have hdist := hD.dist
  clear hC hT hD hb1 Sn1 Si1 Ss1 Sn Si Ss
  have c4 := cell_of_blk hC2.blk 4 (.pointer (some ⟨F.b + 1, 0, none⟩)) rfl
  have k3 := cell_of_blk hC2.bblk 3 (.bool false) rfl
  have f3 := free_of_blk hC2.bblk 3
  have T3 := (Turn.refl w2 (fun k => k = F.b + 1)).setCell (p := ⟨F.b + 1, 3, none⟩) (fun _ => rfl) (.bool refUp)
  have hC3 := hC2.refs T3 (blk_setCell hC2.bblk 3 (.bool refUp))
  have nlab : ∀ (b : Nat) (X : Array Value), w2.heap[b]? = some (.cells X 29 (0, 0)) → ¬ b = F.b + 1 := fun b X hb => blocks_ne hb hC2.bblk (by simp)
  have labs3 := hlabs.kept T3 (fun j hj => nlab _ _ (hlabs j hj))
  have hT3 := hT2.trans' T3 (fun j hj h => by have := hC2.bge; omega)
  have HC := Lib.hid hC3
  have HT := Lib.hid hT3
  have HL := Lib.hid labs3
  clear hC2 hC3 T3 nlab hlabs labs3 hT2 hT3
  go_wp2
  generalize w2.setCell ⟨F.b + 1, 3, none⟩ (.bool refUp) = w3 at *
  go_loopw [20] (fun i wr => ∃ (k gc cc gl cl : Nat) (ls : List Int), k ≤ L.length ∧ i = .int .i64 k ∧ Ctx wr w.heap.size fc F (.slice (some ⟨g, 0, none⟩) 1 1, none) gc cc gl cl (L.take k) ls 0 refUp DL D1 (.map []) nL n1 0 ∧ LabsAt wr K ∧ Turn w wr (fun _ => False)) (fun i _ => L.length - (intOf i).toNat)
  case atStart => exact ⟨0, _, _, _, _, [], Nat.zero_le _, rfl, by simpa using HC.out, HL.out, HT.out⟩
  case round =>
    clear HC HT HL
    obtain ⟨k, gc, cc, gl, cl, ls, hk, rfl, hC, hlabs, hT⟩ := hrel
    have c1 := cell_of_blk hC.blk 1 (.pointer (some ⟨F.c, 0, none⟩)) rfl
    by_cases hlt : k < L.length
    · have S1 := hT.ints S (fun _ _ => id)
      obtain ⟨b, off, rfl, hc⟩ := S1 k hlt
      have htk : L.take (k + 1) = L.take k ++ [L.getD k 0] := by
        rw [List.take_succ_eq_append_getElem hlt]; simp [List.getD, hlt]
      generalize L.getD k 0 = x at hc htk
      have HT := Lib.hid htk
      have HC := Lib.hid hC
      have hlen : (L.take k).length ≤ 1048576 := by simp; omega
      have hlts := hC.ges
      clear htk hC S S1
      go_wp2_with fail
      go_still_tail 9, (by kernel_rfl)
      have hTd := hT.drew
      have hCd := HC.out.same ((Turn.refl wr (fun _ => False)).drew)
      have hLd : LabsAt wr.drew K := hlabs
      go_wp2_with fail
      refine (add_any w.heap.size F.c gc cc gl cl (L.take k) ls x k _ hCd.code hTd.size hlen).mono ?_
      rintro e w4 ⟨gc', cc', gl', cl', rfl, hcode, hT2, _⟩
      have hC2 := hCd.coded hT2 hcode
      rw [← HT.out] at hC2
      have hTT := hTd.trans' hT2 (fun j hj h => by
        obtain ⟨_, q1, q2, q3, _⟩ := hlts
        have q1' : w.heap.size ≤ F.c := q1
        have q2' : w.heap.size ≤ gc := q2
        have q3' : w.heap.size ≤ gl := q3
        omega)
      obtain ⟨cu1, hu1⟩ := owned_elem hCd.code.codes
      obtain ⟨cu2, hu2⟩ := owned_elem hCd.code.lines
      have hL2 := hLd.kept hT2 (fun j hj h => by
        rcases h with h | h | h
        · exact blocks_ne (hLd j hj) hCd.code.blk (by simp) h
        · exact blocks_ne (hLd j hj) hu1 (by simp) h
        · exact blocks_ne (hLd j hj) hu2 (by simp) h)
      clear hT hTd hCd hT2 hcode hlts hc c1 hLd hlabs hu1 hu2
      go_wp2
      go_roundw
      case rel => exact ⟨k + 1, gc', cc', gl', cl', _, by omega, by go_num, hC2, hL2, hTT⟩
      case measure => simp [intOf]; omega
    · have he : k = L.length := by omega
      subst he
      rw [List.take_length] at hC
      clear hlt c1 S
      go_wp2_with fail
      have TA := (Turn.refl wr (fun _ => False)).alloc (.cells #[.int .i64 0, .string s, .int .i64 pc, .int .i64 1, .int .i64 gN] 29)
      have hg := alloc_blk wr (.cells #[.int .i64 0, .string s, .int .i64 pc, .int .i64 1, .int .i64 gN] 29)
      have hCa := hC.same TA
      have hLa := hlabs.kept TA (fun _ _ => id)
      have hTa := hT.trans TA
      generalize wr.heap.size = gp at *
      generalize wr.alloc (.cells #[.int .i64 0, .string s, .int .i64 pc, .int .i64 1, .int .i64 gN] 29) = wa at *
      clear hC hlabs hT TA
      refine (addGoto_any w.heap.size fc F _ gc cc gl cl L ls 0 refUp DL D1 (.map []) nL n1 0 gp _ hCa (by unfold maxLen; omega) (by omega)).mono ?_
      rintro e w4 ⟨rfl, hC4, hT4⟩
      obtain ⟨_, _, q3, _⟩ := hCa.own2
      have nlab : ∀ (b : Nat) (X : Array Value), wa.heap[b]? = some (.cells X 29 (0, 0)) → ¬ (b = fc ∨ b = F.M2) := by
        intro b X hb h
        rcases h with h | h
        · exact blocks_ne hb hCa.blk (by simp) h
        · exact blocks_ne hb q3 (by simp) h
      have hL4 := hLa.kept hT4 (fun j hj => nlab _ _ (hLa j hj))
      have hg4 := hT4.heap hg (nlab _ _ hg)
      have hT5 := hTa.trans' hT4 (fun j hj h => by
        have r1 := hCa.ge
        have r2 := hCa.m2ge
        omega)
      have hD4 := fun q => pend_step (p := 0) (v := .lit (.int .i64 gp)) hCa.own2 (fun q => by
        have : ¬ (0 ≤ q ∧ q < ((0 : Nat) : Int)) := by omega
        rw [decide_eq_false this]
        rfl) q
      clear hCa hLa hg hTa hT4 q3 nlab
      go_wp2_with fail
      have TB := (Turn.refl w4 (fun _ => False)).alloc (.cells #[.int .i64 1, .string s, .int .i64 pc, .int .i64 2, .int .i64 gN] 29)
      have hCb := hC4.same TB
      have hLb := hL4.kept TB (fun _ _ => id)
      have hgb := TB.heap hg4 id
      have hTb := hT5.trans TB
      generalize w4.heap.size = gq at *
      generalize w4.alloc (.cells #[.int .i64 1, .string s, .int .i64 pc, .int .i64 2, .int .i64 gN] 29) = wb at *
      clear hC4 hL4 hg4 hT5 TB
      refine (addGoto_any w.heap.size fc F _ gc cc gl cl L ls 1 refUp DL D1 _ nL n1 1 gq _ hCb (by unfold maxLen; omega) (by omega)).mono ?_
      rintro e w6 ⟨rfl, hC6, hT6⟩
      obtain ⟨_, _, q3, _⟩ := hCb.own2
      have nlab : ∀ (b : Nat) (X : Array Value), wb.heap[b]? = some (.cells X 29 (0, 0)) → ¬ (b = fc ∨ b = F.M2) := by
        intro b X hb h
        rcases h with h | h
        · exact blocks_ne hb hCb.blk (by simp) h
        · exact blocks_ne hb q3 (by simp) h
      have hL6 := hLb.kept hT6 (fun j hj => nlab _ _ (hLb j hj))
      have hg6 := hT6.heap hgb (nlab _ _ hgb)
      have hT7 := hTb.trans' hT6 (fun j hj h => by
        have r1 := hCb.ge
        have r2 := hCb.m2ge
        omega)
      have hD6 := fun q => pend_step (p := 1) (v := .lit (.int .i64 gq)) hCb.own2 hD4 q
      have Z1 := Lib.hid hC6
      have Z2 := Lib.hid hL6
      have Z3 := Lib.hid hg6
      have Z4 := Lib.hid hT7
      have Z5 := Lib.hid hD6
      have Z6 := Lib.hid hlook
      have Z7 := Lib.hid hdist
      have Z8 := Lib.hid hF
      clear hCb hLb hgb hTb hT6 q3 nlab hC6 hL6 hg6 hT7 hD4 hD6 hlook hdist hF
      go_wp2
      go_ret2
      exact ⟨fc, F, _, gc, cc, gl, cl, ls, DL, D1, _, nL, n1, _, K, gp, rfl, Z1.out, Z3.out, Z2.out, Z6.out, Z7.out, Z8.out, Z5.out, Z4.out⟩
end Go.Proofs.YtdhmpfijdmlfoaaFmt
