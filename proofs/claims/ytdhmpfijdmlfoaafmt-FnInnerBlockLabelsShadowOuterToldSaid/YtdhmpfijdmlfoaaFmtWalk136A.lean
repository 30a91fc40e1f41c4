/- The laws' own makers for folder n005_136: zzResolvePremiseFails, zzResolveCtx. -/
import Derived.Test.YtdhmpfijdmlfoaaFmtRes136
import Derived.Test.YtdhmpfijdmlfoaaFmtKept136
import Derived.Test.YtdhmpfijdmlfoaaFmtBytes136
namespace Go.Proofs.YtdhmpfijdmlfoaaFmt
open Go.RowKit Go.Maps
set_option linter.unusedVariables false

/-- the premise of the two ResolveGoto laws -/
structure ResPre (n : Nat) (fromPc fromN toId toN pend : Int) : Prop where
  p0 : 0 ≤ fromPc
  p1 : fromPc < n
  t0 : -131071 ≤ toId
  t1 : toId ≤ 131072
  nn : toN ≤ fromN
  q0 : 0 ≤ pend
  q1 : pend ≤ 4096

def PreSays (P : Prop) (w : World) (e : Ending) (w' : World) : Prop := ∃ b : Bool, e = .returned (.bool b) ∧ (b = false → P) ∧ w = w'

set_option maxRecDepth 100000 in
theorem premise_any (a : Option Addr) (n c : Nat) (fromPc fromN toId toN pend : Int) (w : World) (hn : n ≤ 1048576) :
    Calls Tryf.prog 10 #[.slice a n c, .int .i64 fromPc, .int .i64 fromN, .int .i64 toId, .int .i64 toN, .int .i64 pend] w (PreSays (ResPre n fromPc fromN toId toN pend) w) := by
  go_enter Tryf.func10, Tryf.ntmps10
  by_cases h1 : fromPc < 0
  · go_wp2
    go_ret
    exact ⟨true, rfl, (fun h => by cases h), rfl⟩
  by_cases h2 : (n : Int) ≤ fromPc
  · go_wp2
    go_ret
    exact ⟨true, rfl, (fun h => by cases h), rfl⟩
  by_cases h3 : toId < -131071
  · go_wp2
    go_ret
    exact ⟨true, rfl, (fun h => by cases h), rfl⟩
  by_cases h4 : 131072 < toId
  · go_wp2
    go_ret
    exact ⟨true, rfl, (fun h => by cases h), rfl⟩
  by_cases h5 : fromN < toN
  · go_wp2
    go_ret
    exact ⟨true, rfl, (fun h => by cases h), rfl⟩
  by_cases h6 : pend < 0
  · go_wp2
    go_ret
    exact ⟨true, rfl, (fun h => by cases h), rfl⟩
  by_cases h7 : 4096 < pend
  · go_wp2
    go_ret
    exact ⟨true, rfl, (fun h => by cases h), rfl⟩
  go_wp2
  go_ret
  exact ⟨false, rfl, fun _ => ⟨by omega, by omega, by omega, by omega, by omega, by omega, by omega⟩, rfl⟩

set_option maxRecDepth 100000 in
theorem ZZnewFc_any (s : ByteArray) (w : World) : Calls Tryf.prog 22 #[.string s] w (FcMade w) := by
  go_enter Tryf.func22, Tryf.ntmps22
  go_wp2_with fail
  refine (newFc_any s _).mono ?_
  rintro e w' ⟨fc, F, g, rfl, h⟩
  go_wp2
  go_ret
  exact ⟨fc, F, g, rfl, h⟩

def ResMade (L : List Int) (pend : Nat) (w : World) (e : Ending) (w' : World) : Prop :=
  ∃ fc F gb gc cc gl cl ls D2 n2, e = .returned (.pointer (some ⟨fc, 0, none⟩)) ∧ Ctx w' w.heap.size fc F gb gc cc gl cl L ls pend false (.map []) (.map []) D2 0 0 n2 ∧ (∀ q : Int, Maps.has D2 (kI q) = decide (0 ≤ q ∧ q < pend)) ∧ Turn w w' (fun _ => False)

/-- what the pending map holds, after one goto more -/
theorem pend_step {w : World} {M n p : Nat} {D : DataW Unit} {v : DataW Unit} (h : w.ownsMap Tryf.prog 3 ptrElem M n D) (k : ∀ q : Int, Maps.has D (kI q) = decide (0 ≤ q ∧ q < (p : Int))) (q : Int) : Maps.has (D.put (kI p) v) (kI q) = decide (0 ≤ q ∧ q < ((p + 1 : Nat) : Int)) := by
  by_cases e : q = p
  · subst e
    rw [has_put_same h.isMap (kI_key _)]
    symm
    rw [decide_eq_true_eq]
    omega
  · rw [has_put_other (fun h => e (kI_inj h)), k q, decide_eq_decide]
    omega

set_option maxRecDepth 100000 in
set_option maxHeartbeats 4000000 in
theorem resCtx_any (a : Option Addr) (c : Nat) (L : List Int) (fromPc fromN : Int) (pend : Nat) (w : World) (S : Ints .u32 w a L) (hL : L.length ≤ 65536) (hp : pend ≤ 4096) :
    Calls Tryf.prog 11 #[.slice a L.length c, .int .i64 fromPc, .int .i64 fromN, .int .i64 pend] w (ResMade L pend w) := by
  go_enter Tryf.func11, Tryf.ntmps11
  go_wp2_with fail
  refine (ZZnewFc_any _ _).mono ?_
  intro e w1 hm
  obtain ⟨fc, F, g, rfl, hC, hT, _⟩ := hm.ctx
  clear hm
  go_wp2
  go_loopw [10] (fun i wr => ∃ (k gc cc gl cl : Nat) (ls : List Int), k ≤ L.length ∧ i = .int .i64 k ∧ Ctx wr w.heap.size fc F (.slice (some ⟨g, 0, none⟩) 1 1, none) gc cc gl cl (L.take k) ls 0 false (.map []) (.map []) (.map []) 0 0 0 ∧ Turn w wr (fun _ => False)) (fun i _ => L.length - (intOf i).toNat)
  case atStart => exact ⟨0, _, _, _, _, [], Nat.zero_le _, rfl, by simpa using hC, hT⟩
  case round =>
    clear hC hT
    obtain ⟨k, gc, cc, gl, cl, ls, hk, rfl, hC, hT⟩ := hrel
    have c1 := cell_of_blk hC.blk 1 (.pointer (some ⟨F.c, 0, none⟩)) rfl
    by_cases hlt : k < L.length
    · have S1 := hT.ints S (fun _ _ => id)
      obtain ⟨b, off, rfl, hc⟩ := S1 k hlt
      have htk : L.take (k + 1) = L.take k ++ [L.getD k 0] := by
        rw [List.take_succ_eq_append_getElem hlt]; simp [List.getD, hlt]
      generalize L.getD k 0 = x at hc htk
      have HT := Lib.hid htk
      have HC := Lib.hid hC
      have hlen : (L.take k).length ≤ 1048576 := by simp; omega
      have hlts := hC.ges
      clear htk hC S S1
      go_wp2_with fail
      go_still_tail 9, (by kernel_rfl)
      have hTd := hT.drew
      have hCd := HC.out.same ((Turn.refl wr (fun _ => False)).drew)
      go_wp2_with fail
      refine (add_any w.heap.size F.c gc cc gl cl (L.take k) ls x k _ hCd.code hTd.size hlen).mono ?_
      rintro e w2 ⟨gc', cc', gl', cl', rfl, hcode, hT2, _⟩
      have hC2 := hCd.coded hT2 hcode
      rw [← HT.out] at hC2
      have hTT := hTd.trans' hT2 (fun j hj h => by
        obtain ⟨_, q1, q2, q3, _⟩ := hlts
        have q1' : w.heap.size ≤ F.c := q1
        have q2' : w.heap.size ≤ gc := q2
        have q3' : w.heap.size ≤ gl := q3
        omega)
      clear hT hTd hCd hT2 hcode hlts hc c1
      go_wp2
      go_roundw
      case rel => exact ⟨k + 1, gc', cc', gl', cl', _, by omega, by go_num, hC2, hTT⟩
      case measure => simp [intOf]; omega
    · have he : k = L.length := by omega
      subst he
      rw [List.take_length] at hC
      clear hlt c1 S
      go_wp2
      go_loopw [11] (fun p wr => ∃ (k n2 : Nat) (D2 : DataW Unit), k ≤ pend ∧ p = .int .i64 k ∧ n2 ≤ 4096 ∧ n2 = k ∧ Ctx wr w.heap.size fc F (.slice (some ⟨g, 0, none⟩) 1 1, none) gc cc gl cl L ls (k : Nat) false (.map []) (.map []) D2 0 0 n2 ∧ (∀ q : Int, Maps.has D2 (kI q) = decide (0 ≤ q ∧ q < (k : Int))) ∧ Turn w wr (fun _ => False)) (fun p _ => pend - (intOf p).toNat)
      case atStart => exact ⟨0, 0, .map [], Nat.zero_le _, rfl, Nat.zero_le _, rfl, hC, fun q => by
        have : ¬ (0 ≤ q ∧ q < ((0 : Nat) : Int)) := by omega
        rw [decide_eq_false this]
        rfl, hT⟩
      case round =>
        clear hC hT
        obtain ⟨k, n2, D2, hk, rfl, hn, rfl, hC, hD, hT⟩ := hrel
        by_cases hlt : n2 < pend
        · go_wp2_with fail
          have TA := (Turn.refl wr (fun _ => False)).alloc (.cells #[.int .i64 n2, .string ⟨#[103]⟩, .int .i64 fromPc, .int .i64 0, .int .i64 fromN] 29)
          have hCa := hC.same TA
          have hTa := hT.trans TA
          refine (addGoto_any w.heap.size fc F _ gc cc gl cl L ls n2 false _ _ D2 0 0 _ wr.heap.size _ hCa (by unfold maxLen; omega) (by omega)).mono ?_
          rintro e w2 ⟨rfl, hC2, hT2⟩
          have hD2 := fun q => pend_step (v := .lit (.int .i64 wr.heap.size)) hC.own2 hD q
          have hTT := hTa.trans' hT2 (fun j hj h => by
            have q1 := hC.ge
            have q2 := hC.m2ge
            omega)
          clear hC hT hD hCa hTa TA hT2
          go_wp2
          go_roundw
          case rel => exact ⟨n2 + 1, n2 + 1, _, by omega, by go_num, by omega, rfl, hC2, hD2, hTT⟩
          case measure => simp [intOf]; omega
        · have he : n2 = pend := by omega
          subst he
          clear hlt
          go_wp2
          go_ret
          exact ⟨fc, F, _, gc, cc, gl, cl, ls, D2, _, rfl, hC, hD, hT⟩
end Go.Proofs.YtdhmpfijdmlfoaaFmt
