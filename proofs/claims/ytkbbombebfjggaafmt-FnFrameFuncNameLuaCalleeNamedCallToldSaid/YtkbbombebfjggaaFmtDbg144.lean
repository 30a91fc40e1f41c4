/- The contract of zzBuildCalls: an own row of debug calls, name and pc in turn. -/
import Derived.Test.YtkbbombebfjggaaFmtBytes144F
import Derived.Test.YtkbbombebfjggaaFmtInts
import Derived.Test.YtkbbombebfjggaaFmtPtr
import Derived.StillTailTactics
import Derived.Deep.QuietTactic
import Derived.BigQuiet
namespace Go.Proofs.YtkbbombebfjggaaFmt
open Go.RowKit
set_option linter.unusedVariables false

/-- a row of debug calls behind block d: the names of L beside the pcs of P -/
structure Dbg (w : World) (β d m : Nat) (L : List ByteArray) (P : List Int) : Prop where
  ge : β ≤ d
  lt : d < w.heap.size
  name : ∀ k, k < m → w.cell? ⟨d, k * 2, none⟩ = some (.string (L.getD k ByteArray.empty))
  pc : ∀ k, k < m → w.cell? ⟨d, k * 2 + 1, none⟩ = some (.int .i64 (P.getD k 0))

theorem infoDbg : (Tryf.prog.info? 28).map (fun i => (i.zero, i.size, i.bytes)) = some (some (.agg #[.string ByteArray.empty, .int .i64 0]), 2, 24) := by kernel_rfl

def Listed (L : List ByteArray) (P : List Int) (k : Nat) (xs : List Value) : Prop := ∀ t, t < k → xs[t * 2]? = some (.string (L.getD t ByteArray.empty)) ∧ xs[t * 2 + 1]? = some (.int .i64 (P.getD t 0))

def Built (w : World) (m : Nat) (L : List ByteArray) (P : List Int) (e : Ending) (w' : World) : Prop :=
  ∃ d, e = .returned (.slice (some ⟨d, 0, none⟩) m m) ∧ Dbg w' w.heap.size d m L P ∧ Turn w w' (fun _ => False)

set_option maxRecDepth 100000 in
set_option maxHeartbeats 2000000 in
theorem build_any (pa : Option Addr) (pcap : Nat) (P : List Int) (na : Option Addr) (ncap : Nat) (L : List ByteArray) (m : Nat) (w : World) (hm : m = min P.length L.length) (hP : P.length ≤ 65536) (hL : L.length ≤ 65536) (SP : Ints .i64 w pa P) (SL : Strs w na L) :
    Calls Tryf.prog 6 #[.slice pa P.length pcap, .slice na L.length ncap] w (Built w m L P) := by
  by_cases hc : L.length < P.length
  · obtain rfl : m = L.length := by omega
    clear hm
    obtain ⟨i0, hi, hz0, hz1, hz2⟩ := info_parts infoDbg
    go_enter Tryf.func6, Tryf.ntmps6
    go_wp2_with (at_make; refine wpList_make_full _ rfl _ _ 25 rfl w.heap.size 28 i0 (.agg #[.string ByteArray.empty, .int .i64 0]) 2 Tryf.underlying25 hi hz0 hz1 .i64 .i64 _ _ L.length rfl rfl rfl rfl ?c2 ?c3 (Nat.le_refl _) ?_)
    case c2 => rw [hz2]; omega
    case c3 => unfold maxLen; omega
    intro w1 hown hgrow
    have T1 : Turn w w1 (fun _ => False) := (Turn.refl w _).grown hgrow (fun _ h => by cases h)
    clear hgrow hi hz0 hz1 hz2
    go_wp2
    go_loopw [7] (fun i wr => ∃ (k : Nat) (xs : List Value), k ≤ L.length ∧ i = .int .i64 k ∧ wr.ownsRow w.heap.size 28 2 (.slice (some ⟨w.heap.size, 0, none⟩) L.length L.length) L.length xs ∧ Listed L P k xs ∧ Turn w wr (fun _ => False)) (fun i _ => L.length - (intOf i).toNat)
    case atStart => exact ⟨0, _, Nat.zero_le _, rfl, hown, (fun t ht => absurd ht (by omega)), T1⟩
    case round =>
      clear hown T1
      obtain ⟨k, xs, hk, rfl, hown, hls, hT⟩ := hrel
      by_cases hlt : k < L.length
      · obtain ⟨bn, on, rfl, hcn⟩ := SL k (by omega)
        obtain ⟨bp, op, rfl, hcp⟩ := SP k (by omega)
        have hcn1 := hT.cell hcn id
        have hcp1 := hT.cell hcp id
        have hbn : bn ≠ w.heap.size := by
          have := World.block_lt_of_cell? _ _ hcn
          simp at this; omega
        have hbp : bp ≠ w.heap.size := by
          have := World.block_lt_of_cell? _ _ hcp
          simp at this; omega
        generalize hs : L.getD k ByteArray.empty = s at hcn hcn1
        generalize hp : P.getD k 0 = z at hcp hcp1
        have hl2 : xs.length = L.length * 2 := hown.1
        obtain ⟨u0, hu0⟩ : ∃ u, wr.cell? ⟨w.heap.size, k * 2, none⟩ = some u := by
          rw [hown.cellAt (k * 2) (by omega)]
          exact ⟨_, List.getElem?_eq_getElem (by omega)⟩
        obtain ⟨u1, hu1⟩ : ∃ u, wr.cell? ⟨w.heap.size, k * 2 + 1, none⟩ = some u := by
          rw [hown.cellAt (k * 2 + 1) (by omega)]
          exact ⟨_, List.getElem?_eq_getElem (by omega)⟩
        have f0 := hown.frozenAt (k * 2)
        have f1 := hown.frozenAt (k * 2 + 1)
        have HS := Lib.hid hs
        have HP := Lib.hid hp
        have HL := Lib.hid hl2
        have HLS := Lib.hid hls
        clear hs hp hl2 hls
        have hown2 := hown.stored (k * 2) (.string s)
        have hown3 := hown2.1.stored (k * 2 + 1) (.int .i64 z)
        have HO := Lib.hid hown3.1
        clear hown2 hown3 hcn hcp SL SP
        have z1 : (0 : Int) ≤ (k : Int) := by omega
        have z2 : (k : Int) < (L.length : Int) := by omega
        have z3 : (k : Int) < (P.length : Int) := by omega
        go_wp2
        go_still_tail 12, (by kernel_rfl)
        go_wp2
        go_roundw
        case rel =>
          refine ⟨k + 1, _, by omega, by go_num, HO.out, ?_, ((hT.setCell (p := ⟨w.heap.size, k * 2, none⟩) (fun h => absurd h (by simp)) _).setCell (p := ⟨w.heap.size, k * 2 + 1, none⟩) (fun h => absurd h (by simp)) _).drew⟩
          intro t ht
          have hl := HL.out
          rcases Nat.lt_or_eq_of_le (Nat.le_of_lt_succ ht) with h | h
          · rw [List.getElem?_set_ne (by omega), List.getElem?_set_ne (by omega), List.getElem?_set_ne (by omega), List.getElem?_set_ne (by omega)]
            exact HLS.out t h
          · subst h
            rw [List.getElem?_set_ne (by omega), List.getElem?_set_self (by omega), List.getElem?_set_self (by simp; omega), HS.out, HP.out]
            exact ⟨rfl, rfl⟩
        case measure => simp [intOf]; omega
      · have he : k = L.length := by omega
        subst he
        clear hlt
        go_wp2
        go_ret
        refine ⟨_, rfl, ⟨Nat.le_refl _, ?_, ?_, ?_⟩, hT⟩
        · obtain ⟨_, h | ⟨g, cap, cur, e, _, hb, _⟩⟩ := hown
          · cases h.1
          · have hb' := lt_of_block hb
            simp at e
            omega
        · intro t ht
          rw [hown.cellAt (t * 2) (by omega)]
          exact (hls t ht).1
        · intro t ht
          rw [hown.cellAt (t * 2 + 1) (by omega)]
          exact (hls t ht).2
  · obtain rfl : m = P.length := by omega
    clear hm
    obtain ⟨i0, hi, hz0, hz1, hz2⟩ := info_parts infoDbg
    go_enter Tryf.func6, Tryf.ntmps6
    go_wp2_with (at_make; refine wpList_make_full _ rfl _ _ 25 rfl w.heap.size 28 i0 (.agg #[.string ByteArray.empty, .int .i64 0]) 2 Tryf.underlying25 hi hz0 hz1 .i64 .i64 _ _ P.length rfl rfl rfl rfl ?c2 ?c3 (Nat.le_refl _) ?_)
    case c2 => rw [hz2]; omega
    case c3 => unfold maxLen; omega
    intro w1 hown hgrow
    have T1 : Turn w w1 (fun _ => False) := (Turn.refl w _).grown hgrow (fun _ h => by cases h)
    clear hgrow hi hz0 hz1 hz2
    go_wp2
    go_loopw [7] (fun i wr => ∃ (k : Nat) (xs : List Value), k ≤ P.length ∧ i = .int .i64 k ∧ wr.ownsRow w.heap.size 28 2 (.slice (some ⟨w.heap.size, 0, none⟩) P.length P.length) P.length xs ∧ Listed L P k xs ∧ Turn w wr (fun _ => False)) (fun i _ => P.length - (intOf i).toNat)
    case atStart => exact ⟨0, _, Nat.zero_le _, rfl, hown, (fun t ht => absurd ht (by omega)), T1⟩
    case round =>
      clear hown T1
      obtain ⟨k, xs, hk, rfl, hown, hls, hT⟩ := hrel
      by_cases hlt : k < P.length
      · obtain ⟨bn, on, rfl, hcn⟩ := SL k (by omega)
        obtain ⟨bp, op, rfl, hcp⟩ := SP k (by omega)
        have hcn1 := hT.cell hcn id
        have hcp1 := hT.cell hcp id
        have hbn : bn ≠ w.heap.size := by
          have := World.block_lt_of_cell? _ _ hcn
          simp at this; omega
        have hbp : bp ≠ w.heap.size := by
          have := World.block_lt_of_cell? _ _ hcp
          simp at this; omega
        generalize hs : L.getD k ByteArray.empty = s at hcn hcn1
        generalize hp : P.getD k 0 = z at hcp hcp1
        have hl2 : xs.length = P.length * 2 := hown.1
        obtain ⟨u0, hu0⟩ : ∃ u, wr.cell? ⟨w.heap.size, k * 2, none⟩ = some u := by
          rw [hown.cellAt (k * 2) (by omega)]
          exact ⟨_, List.getElem?_eq_getElem (by omega)⟩
        obtain ⟨u1, hu1⟩ : ∃ u, wr.cell? ⟨w.heap.size, k * 2 + 1, none⟩ = some u := by
          rw [hown.cellAt (k * 2 + 1) (by omega)]
          exact ⟨_, List.getElem?_eq_getElem (by omega)⟩
        have f0 := hown.frozenAt (k * 2)
        have f1 := hown.frozenAt (k * 2 + 1)
        have HS := Lib.hid hs
        have HP := Lib.hid hp
        have HL := Lib.hid hl2
        have HLS := Lib.hid hls
        clear hs hp hl2 hls
        have hown2 := hown.stored (k * 2) (.string s)
        have hown3 := hown2.1.stored (k * 2 + 1) (.int .i64 z)
        have HO := Lib.hid hown3.1
        clear hown2 hown3 hcn hcp SL SP
        have z1 : (0 : Int) ≤ (k : Int) := by omega
        have z2 : (k : Int) < (L.length : Int) := by omega
        have z3 : (k : Int) < (P.length : Int) := by omega
        go_wp2
        go_still_tail 12, (by kernel_rfl)
        go_wp2
        go_roundw
        case rel =>
          refine ⟨k + 1, _, by omega, by go_num, HO.out, ?_, ((hT.setCell (p := ⟨w.heap.size, k * 2, none⟩) (fun h => absurd h (by simp)) _).setCell (p := ⟨w.heap.size, k * 2 + 1, none⟩) (fun h => absurd h (by simp)) _).drew⟩
          intro t ht
          have hl := HL.out
          rcases Nat.lt_or_eq_of_le (Nat.le_of_lt_succ ht) with h | h
          · rw [List.getElem?_set_ne (by omega), List.getElem?_set_ne (by omega), List.getElem?_set_ne (by omega), List.getElem?_set_ne (by omega)]
            exact HLS.out t h
          · subst h
            rw [List.getElem?_set_ne (by omega), List.getElem?_set_self (by omega), List.getElem?_set_self (by simp; omega), HS.out, HP.out]
            exact ⟨rfl, rfl⟩
        case measure => simp [intOf]; omega
      · have he : k = P.length := by omega
        subst he
        clear hlt
        go_wp2
        go_ret
        refine ⟨_, rfl, ⟨Nat.le_refl _, ?_, ?_, ?_⟩, hT⟩
        · obtain ⟨_, h | ⟨g, cap, cur, e, _, hb, _⟩⟩ := hown
          · cases h.1
          · have hb' := lt_of_block hb
            simp at e
            omega
        · intro t ht
          rw [hown.cellAt (t * 2) (by omega)]
          exact (hls t ht).1
        · intro t ht
          rw [hown.cellAt (t * 2 + 1) (by omega)]
          exact (hls t ht).2
end Go.Proofs.YtkbbombebfjggaaFmt
