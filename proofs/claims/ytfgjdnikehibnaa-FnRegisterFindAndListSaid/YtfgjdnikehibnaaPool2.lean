/- The contracts of varNamePool's Find and List. -/
import Derived.Test.YtfgjdnikehibnaaPool
import Derived.StillTailTactics
namespace Go.Proofs.Ytfgjdnikehibnaa
open Go.RowKit
set_option linter.unusedVariables false

theorem bytes_eq {a b : ByteArray} (h : (a.toList == b.toList) = true) : a = b := by
  have h1 : a.toList = b.toList := by simpa using h
  rw [ByteArray.toList_eq, ByteArray.toList_eq] at h1
  have h2 : a.data = b.data := Array.ext' h1
  cases a
  cases b
  exact congrArg ByteArray.mk h2
theorem bytes_ne {a b : ByteArray} (h : a ≠ b) : (a.toList == b.toList) = false := by
  cases hbb : (a.toList == b.toList)
  · rfl
  · exact absurd (bytes_eq hbb) h

/-- the last place of s comes back (its index and the offset), or -1 -/
def Found (ss : List ByteArray) (off : Int) (s : ByteArray) (w : World) (e : Ending) (w' : World) : Prop :=
  (∃ q, w.drewN q = w') ∧
  ((∃ r : Nat, r < ss.length ∧ ss.getD r ByteArray.empty = s ∧ (∀ t, r < t → t < ss.length → ss.getD t ByteArray.empty ≠ s) ∧ e = .returned (.int .i64 (wrap64 (r + off)))) ∨
   ((∀ t, t < ss.length → ss.getD t ByteArray.empty ≠ s) ∧ e = .returned (.int .i64 (-1))))

set_option maxRecDepth 100000 in
theorem find_any (β P : Nat) (v : Value) (ss : List ByteArray) (off : Int) (s : ByteArray) (w : World) (h : Pool w β P v ss off) (hn : ss.length ≤ 1048576) :
    Calls Try.prog 36 #[.pointer (some ⟨P, 0, none⟩), .string s] w (Found ss off s w) := by
  obtain ⟨ao, cap, rfl⟩ := h.slice
  have S := h.strs
  have c0 := cell_of_blk h.blk 0 (.slice ao ss.length cap) rfl
  have c1 := cell_of_blk h.blk 1 (.int .i64 off) rfl
  go_enter Try.func36, Try.ntmps36
  go_wp2
  go_loopw [5] (fun i wr => ∃ k q : Nat, k ≤ ss.length ∧ i = .int .i64 ((k : Int) - 1) ∧ (∀ t, k ≤ t → t < ss.length → ss.getD t ByteArray.empty ≠ s) ∧ w.drewN q = wr) (fun i _ => (intOf i + 1).toNat)
  case atStart => exact ⟨ss.length, 0, Nat.le_refl _, rfl, (fun t h1 h2 => by omega), rfl⟩
  case round =>
    obtain ⟨k, q, hk, rfl, hne, rfl⟩ := hrel
    have HN := Lib.hid hne
    clear hne
    by_cases h0 : k = 0
    · subst h0
      clear S
      go_wp2
      go_ret
      exact ⟨⟨_, rfl⟩, .inr ⟨fun t ht => HN.out t (Nat.zero_le _) ht, rfl⟩⟩
    · obtain ⟨j, rfl⟩ : ∃ j, k = j + 1 := ⟨k - 1, by omega⟩
      obtain ⟨b, o, rfl, hc⟩ := S j (by omega)
      generalize hs : ss.getD j ByteArray.empty = x at hc
      have HS := Lib.hid hs
      clear hs S h0
      have ej : ((j + 1 : Nat) : Int) - 1 = (j : Int) := by omega
      rw [ej]
      clear ej
      have z1 : (0 : Int) ≤ (j : Int) := by omega
      have z2 : (j : Int) < (ss.length : Int) := by omega
      by_cases heq : x = s
      · subst heq
        go_wp2
        go_ret
        exact ⟨⟨_, rfl⟩, .inl ⟨j, by omega, HS.out, fun t h1 h2 => HN.out t (by omega) h2, rfl⟩⟩
      · have hb := bytes_ne heq
        have HB := Lib.hid heq
        clear heq
        go_wp2
        go_roundw
        case rel =>
          refine ⟨j, _, by omega, rfl, ?_, rfl⟩
          intro t h1 h2
          rcases Nat.eq_or_lt_of_le h1 with h | h
          · subst h; rw [HS.out]; exact HB.out
          · exact HN.out t h h2
        case measure => first | (simp [intOf]; done) | (simp [intOf]; omega)

def Listed (ss : List ByteArray) (off : Int) (k : Nat) (xs : List Value) : Prop := ∀ t, t < k → xs[t * 2]? = some (.int .i64 (wrap64 (t + off))) ∧ xs[t * 2 + 1]? = some (.string (ss.getD t ByteArray.empty))

/-- the pairs come back: index and name, in order, in a block of the call's own -/
def ListedPost (ss : List ByteArray) (off : Int) (w : World) (e : Ending) (w' : World) : Prop :=
  ∃ (g : Nat) (xs : List Value), e = .returned (.slice (some ⟨g, 0, none⟩) ss.length ss.length) ∧ w'.ownsRow w.heap.size 43 2 (.slice (some ⟨g, 0, none⟩) ss.length ss.length) ss.length xs ∧ Listed ss off ss.length xs ∧ Turn w w' (fun _ => False)

theorem infoPair : (Try.prog.info? 43).map (fun i => (i.zero, i.size, i.bytes)) = some (some (.agg #[.int .i64 0, .string ByteArray.empty]), 2, 24) := by kernel_rfl

set_option maxRecDepth 100000 in
theorem list_any (β P : Nat) (v : Value) (ss : List ByteArray) (off : Int) (w : World) (h : Pool w β P v ss off) (hn : ss.length ≤ 1048576) :
    Calls Try.prog 35 #[.pointer (some ⟨P, 0, none⟩)] w (ListedPost ss off w) := by
  obtain ⟨ao, cap, rfl⟩ := h.slice
  obtain ⟨i0, hi, hz0, hz1, hz2⟩ := info_parts infoPair
  have S := h.strs
  have c0 := cell_of_blk h.blk 0 (.slice ao ss.length cap) rfl
  have c1 := cell_of_blk h.blk 1 (.int .i64 off) rfl
  go_enter Try.func35, Try.ntmps35
  go_wp2
  go_still_tail 10, (by kernel_rfl)
  go_wp2_with (at_make; refine wpList_make_full _ rfl _ _ 40 rfl w.heap.size 43 i0 (.agg #[.int .i64 0, .string ByteArray.empty]) 2 Try.underlying40 hi hz0 hz1 .i64 .i64 _ _ ss.length rfl rfl rfl rfl ?c2 ?c3 (Nat.le_refl _) ?_)
  case c2 => rw [hz2]; omega
  case c3 => unfold maxLen; omega
  intro w1 hown hgrow
  have T1 : Turn w w1 (fun _ => False) := (Turn.refl w _).drew.grown hgrow (fun _ h => by cases h)
  have P1 := h.kept T1 id (fun _ _ => id)
  have S1 := P1.strs
  have d0 := cell_of_blk P1.blk 0 (.slice ao ss.length cap) rfl
  have d1 := cell_of_blk P1.blk 1 (.int .i64 off) rfl
  clear c0 c1 S hgrow hi hz0 hz1 hz2
  go_wp2
  go_loopw [22] (fun i wr => ∃ (k : Nat) (xs : List Value), k ≤ ss.length ∧ i = .int .i64 k ∧ wr.ownsRow w.heap.size 43 2 (.slice (some ⟨w.heap.size, 0, none⟩) ss.length ss.length) ss.length xs ∧ Listed ss off k xs ∧ Turn w wr (fun _ => False)) (fun i _ => ss.length - (intOf i).toNat)
  case atStart => exact ⟨0, _, Nat.zero_le _, rfl, hown, (fun t ht => absurd ht (by omega)), T1.os, T1.tape, T1.output, T1.size, T1.block⟩
  case round =>
    clear hown d0 d1 S1 P1
    obtain ⟨k, xs, hk, rfl, hown, hls, hT⟩ := hrel
    have P2 := h.kept hT id (fun _ _ => id)
    have hPg : P ≠ w.heap.size := by have := lt_of_block h.blk; omega
    by_cases hlt : k < ss.length
    · obtain ⟨b, o, rfl, hc⟩ := P2.strs k hlt
      have hbg : b ≠ w.heap.size := by
        obtain ⟨b', o', e', hc'⟩ := h.strs k hlt
        have := World.block_lt_of_cell? _ _ hc'
        have e2 : b = b' ∧ o = o' := by simpa using e'
        simp at this; omega
      generalize hs : ss.getD k ByteArray.empty = s at hc
      have d1 := cell_of_blk P2.blk 1 (.int .i64 off) rfl
      have hl2 : xs.length = ss.length * 2 := hown.1
      obtain ⟨u0, hu0⟩ : ∃ u, wr.cell? ⟨w.heap.size, k * 2, none⟩ = some u := by
        rw [hown.cellAt (k * 2) (by omega)]
        exact ⟨_, List.getElem?_eq_getElem (by omega)⟩
      obtain ⟨u1, hu1⟩ : ∃ u, wr.cell? ⟨w.heap.size, k * 2 + 1, none⟩ = some u := by
        rw [hown.cellAt (k * 2 + 1) (by omega)]
        exact ⟨_, List.getElem?_eq_getElem (by omega)⟩
      have f0 := hown.frozenAt (k * 2)
      have f1 := hown.frozenAt (k * 2 + 1)
      have HS := Lib.hid hs
      have HL := Lib.hid hl2
      have HLS := Lib.hid hls
      clear hs hl2 hls
      have hown2 := hown.stored (k * 2) (.int .i64 (wrap64 ((k : Int) + off)))
      have hown3 := hown2.1.stored (k * 2 + 1) (.string s)
      have HO := Lib.hid hown3.1
      clear hown2 hown3
      go_wp2
      go_roundw
      case rel =>
        refine ⟨k + 1, _, by omega, by go_num, HO.out, ?_, (hT.setCell (p := ⟨w.heap.size, k * 2, none⟩) (fun h => absurd h (by simp)) _).setCell (p := ⟨w.heap.size, k * 2 + 1, none⟩) (fun h => absurd h (by simp)) _⟩
        intro t ht
        have hl := HL.out
        rcases Nat.lt_or_eq_of_le (Nat.le_of_lt_succ ht) with h | h
        · rw [List.getElem?_set_ne (by omega), List.getElem?_set_ne (by omega), List.getElem?_set_ne (by omega), List.getElem?_set_ne (by omega)]
          exact HLS.out t h
        · subst h
          rw [List.getElem?_set_ne (by omega), List.getElem?_set_self (by omega), List.getElem?_set_self (by simp; omega), HS.out]
          exact ⟨rfl, rfl⟩
      case measure => simp [intOf]; omega
    · have he : k = ss.length := by omega
      subst he
      clear hlt
      go_wp2
      go_ret
      exact ⟨_, _, rfl, hown, hls, hT⟩
end Go.Proofs.Ytfgjdnikehibnaa
