/- The contracts of zzIndent and zzClone. -/
import Derived.Test.YtdljljnjijkbjaaFmtHelpB15
import Derived.Laws.OwnMore
import Derived.Laws.IdiomStrings
namespace Go.Proofs.YtdljljnjijkbjaaFmt
open Go.RowKit Go.Kit Go.Extern.Stop Go.Stop Go.Extern
set_option linter.unusedVariables false

theorem infoU8 : (Tryf.prog.info? 5).map (fun i => (i.zero, i.size, i.bytes)) = some (some (.int .u8 0), 1, 1) := by kernel_rfl

theorem blanks_eq : ∀ n, Lib.repeatL [32, 32] n = List.replicate (2 * n) 32
  | 0 => rfl
  | n + 1 => by
    rw [Lib.repeatL, blanks_eq n, show 2 * (n + 1) = 2 * n + 1 + 1 from by omega, List.replicate_succ, List.replicate_succ]
    rfl

def Ind (l : Nat) (w : World) (e : Ending) (w' : World) : Prop := e = .returned (.string ⟨(Lib.repeatL [32, 32] (l - 1)).toArray⟩) ∧ Turn w w' (fun _ => False)

set_option maxRecDepth 100000 in
set_option maxHeartbeats 1000000 in
theorem zzIndent_any (l : Nat) (w : World) (hl0 : 1 ≤ l) (hl1 : l ≤ 4096) :
    Calls Tryf.prog 15 #[.int .i64 l] w (Ind l w) := by
  obtain ⟨i0, hi, hz0, hz1, hz2⟩ := info_parts infoU8
  obtain ⟨m, rfl⟩ : ∃ m, l = m + 1 := ⟨l - 1, by omega⟩
  have e1 : (((m + 1 : Nat) : Int)) = (m : Int) + 1 := by omega
  rw [e1]
  have hm : m ≤ 4095 := by omega
  clear hl0 hl1 e1
  go_enter Tryf.func15, Tryf.ntmps15
  go_wp2_with (at_make; refine wpList_make_own _ rfl _ _ 51 rfl w.heap.size 5 i0 (.int .u8 0) 1 Tryf.underlying51 hi hz0 hz1 .i64 .i64 _ (2 * m) rfl rfl ?c1 ?c2 ?c3 (Nat.le_refl _) ?_)
  case c1 => omega
  case c2 => rw [hz2]; omega
  case c3 => unfold maxLen; omega
  intro w1 hown hgrow
  have T1 : Turn w w1 (fun _ => False) := (Turn.refl w _).grown hgrow (fun _ h => by cases h)
  clear hgrow
  go_wp2
  go_loopw [3, 4] (fun v i wr => ∃ k : Nat, k ≤ m ∧ i = .int .i64 k ∧ wr.ownsRow w.heap.size 5 1 v (2 * k) (List.replicate (2 * k) (.int .u8 32)) ∧ (∃ g cap, v = .slice (some ⟨g, 0, none⟩) (2 * k) cap) ∧ Turn w wr (fun _ => False)) (fun _ i _ => m - (intOf i).toNat)
  case atStart => exact ⟨0, Nat.zero_le _, rfl, hown, ⟨_, _, rfl⟩, T1⟩
  case round =>
    clear hown T1
    obtain ⟨k, hk, rfl, hown, ⟨g, cap, rfl⟩, hT⟩ := hrel
    have hszr := hT.size
    by_cases hkl : k < m
    · go_wp2_with (at_builtin; refine wpList_append_own_at _ rfl _ _ 51 rfl w.heap.size 5 i0 (.int .u8 0) 1 1 Tryf.underlying51 hi hz0 hz1 hz2 rfl (by decide) (.slice (some ⟨g, 0, none⟩) (2 * k) cap) (2 * k) _ rfl (hown.alloc _) ⟨wr.heap.size, 0, none⟩ 1 1 [.int .u8 32] rfl rfl ?a1 ?a2 ?a3 ?a4 ?a5 ?_)
      case a1 => exact cell_one_new _ _ _
      case a2 => intro u hu; simp at hu; subst hu; rfl
      case a3 => unfold maxLen; omega
      case a4 => omega
      case a5 => simp; omega
      intro v1 w2 hown1 hgrow1 _ _
      have hge := (hown.lt g rfl).1
      have T2 : Turn w w2 (fun _ => False) := hT.trans' (((Turn.refl wr (fun k => k = g)).alloc _).grown hgrow1 (fun k hk _ => by simpa [Value.ownBlock] using hk.symm)) (fun j hj e => by omega)
      obtain ⟨g1, cap1, rfl, hg1⟩ := shape_of_owned hown1 (by omega)
      have hsz2 := T2.size
      clear hown hgrow1 hT hszr
      have hlen : (List.replicate (2 * k) (Value.int .u8 32) ++ [Value.int .u8 32]) = List.replicate (2 * k + 1) (Value.int .u8 32) := by rw [List.replicate_succ']
      rw [hlen] at hown1
      clear hlen
      obtain ⟨n1, hn1⟩ : ∃ n1, n1 = 2 * k + 1 := ⟨_, rfl⟩
      rw [← hn1] at hown1 ⊢
      have HN := Lib.hid hn1
      have hn1b : n1 ≤ 16384 := by omega
      clear hn1
      go_wp2_with (at_builtin; refine wpList_append_own_at _ rfl _ _ 51 rfl w.heap.size 5 i0 (.int .u8 0) 1 1 Tryf.underlying51 hi hz0 hz1 hz2 rfl (by decide) (.slice (some ⟨g1, 0, none⟩) n1 cap1) n1 _ rfl (hown1.alloc _) ⟨w2.heap.size, 0, none⟩ 1 1 [.int .u8 32] rfl rfl ?b1 ?b2 ?b3 ?b4 ?b5 ?_)
      case b1 => exact cell_one_new _ _ _
      case b2 => intro u hu; simp at hu; subst hu; rfl
      case b3 => unfold maxLen; omega
      case b4 => omega
      case b5 => simp; omega
      intro v2 w3 hown2 hgrow2 _ _
      have T3 : Turn w w3 (fun _ => False) := T2.trans' (((Turn.refl w2 (fun k => k = g1)).alloc _).grown hgrow2 (fun k hk _ => by simpa [Value.ownBlock] using hk.symm)) (fun j hj e => by omega)
      obtain ⟨g2, cap2, rfl, hg2⟩ := shape_of_owned hown2 (by omega)
      have hend : w3.ownsRow w.heap.size 5 1 (.slice (some ⟨g2, 0, none⟩) (2 * (k + 1)) cap2) (2 * (k + 1)) (List.replicate (2 * (k + 1)) (.int .u8 32)) := by
        have e2 : 2 * (k + 1) = n1 + 1 := by rw [HN.out]; omega
        rw [e2, List.replicate_succ']
        exact hown2
      have hsl : (Value.slice (some ⟨g2, 0, none⟩) (n1 + 1) cap2) = .slice (some ⟨g2, 0, none⟩) (2 * (k + 1)) cap2 := by rw [HN.out]; congr 1
      have HE := Lib.hid hend
      have HSL := Lib.hid hsl
      clear hown1 hgrow2 hown2 T2 hend hsl
      go_wp2
      go_roundw
      case rel => exact ⟨k + 1, by omega, by go_num, by rw [HSL.out]; exact HE.out, ⟨g2, cap2, HSL.out⟩, T3⟩
      case measure => simp [intOf]; omega
    · obtain rfl : k = m := by omega
      have hr := run_convert_bytes_back (P := Tryf.prog) wr 51 9 5 ⟨g, 0, none⟩ cap (List.replicate (2 * k) 32) Tryf.underlying51 Tryf.underlying5 Tryf.underlying9 (fun j hj => by
        have hj' : j < 2 * k := by simpa using hj
        have := World.ownsRow.cells hown rfl j (.int .u8 32) (by simp [hj'])
        simpa using this)
      rw [List.length_replicate] at hr
      go_wp2
      go_ret
      exact ⟨by rw [Nat.add_sub_cancel, blanks_eq]; rfl, hT⟩

/-- a copy of a slice of strings comes back -/
def Cloned (L : List ByteArray) (w : World) (e : Ending) (w' : World) : Prop := ∃ a c, e = .returned (.slice a L.length c) ∧ Strs w' a L ∧ Turn w w' (fun _ => False)

set_option maxRecDepth 100000 in
set_option maxHeartbeats 1000000 in
theorem zzClone_any (a : Option Addr) (c : Nat) (L : List ByteArray) (w : World) (S : Strs w a L) (hL : L.length ≤ 4096) (ha : a = none → L.length = 0) :
    Calls Tryf.prog 12 #[.slice a L.length c] w (Cloned L w) := by
  obtain ⟨i0, hi, hz0, hz1, hz2⟩ := info_parts infoString
  cases a with
  | none =>
    have h0 := ha rfl
    obtain rfl : L = [] := List.eq_nil_of_length_eq_zero h0
    go_enter Tryf.func12, Tryf.ntmps12
    go_wp2
    go_ret
    exact ⟨none, 0, rfl, fun k hk => absurd hk (by simp), Turn.refl _ _⟩
  | some a =>
    clear ha
    go_enter Tryf.func12, Tryf.ntmps12
    go_wp2_with (at_make; refine wpList_make_full _ rfl _ _ 31 rfl w.heap.size 9 i0 (.string ByteArray.empty) 1 Tryf.underlying31 hi hz0 hz1 .i64 .i64 _ _ L.length rfl rfl rfl rfl ?c2 ?c3 (Nat.le_refl _) ?_)
    case c2 => rw [hz2]; omega
    case c3 => unfold maxLen; omega
    intro w1 hown hgrow
    have T1 : Turn w w1 (fun _ => False) := (Turn.refl w _).grown hgrow (fun _ h => by cases h)
    rw [toList_madeCells_one] at hown
    clear hgrow
    obtain ⟨g, hg⟩ : ∃ g, g = w.heap.size := ⟨_, rfl⟩
    rw [← hg] at hown ⊢
    have HG := Lib.hid hg
    clear hg
    go_wp2
    go_loopw [4] (fun i wr => ∃ (k : Nat) (xs : List Value), k ≤ L.length ∧ i = .int .i64 k ∧ wr.ownsRow g 9 1 (.slice (some ⟨g, 0, none⟩) L.length L.length) L.length xs ∧ (∀ j, j < k → xs[j]? = some (.string (L.getD j ByteArray.empty))) ∧ (∀ j, j < L.length → ∃ s, xs[j]? = some (.string s)) ∧ Turn w wr (fun _ => False)) (fun i _ => L.length - (intOf i).toNat)
    case atStart => exact ⟨0, _, Nat.zero_le _, rfl, hown, fun j hj => absurd hj (by omega), fun j hj => ⟨ByteArray.empty, by simp [hj]⟩, T1⟩
    case round =>
      clear hown T1
      obtain ⟨k, xs, hk, rfl, hown, hx1, hx2, hT⟩ := hrel
      by_cases hkl : k < L.length
      · obtain ⟨b, off, e, hc⟩ := S k hkl
        obtain rfl : a = ⟨b, off, none⟩ := by simpa using e
        have hc' := hT.cell hc id
        obtain ⟨s, hs⟩ : ∃ s, s = L.getD k ByteArray.empty := ⟨_, rfl⟩
        rw [← hs] at hc'
        obtain ⟨s0, hs0⟩ := hx2 k hkl
        have hold := World.ownsRow.cellAt hown k (by omega)
        rw [hs0] at hold
        have hfz := World.ownsRow.frozenAt hown k
        have hst := World.ownsRow.stored hown k (.string s)
        have hT2 := hT.trans' ((Turn.refl wr (fun k => k = g)).setCell (p := ⟨g, k, none⟩) (fun _ => rfl) (.string s)) (fun j hj e => by have := HG.out; omega)
        have hxl := hown.1
        have HX := Lib.hid hst.1
        have HXX := Lib.hid (And.intro hx1 hx2)
        have HS := Lib.hid hs
        have HL := Lib.hid hxl
        have HT := Lib.hid hT2
        clear hst hx1 hx2 hs hxl hT2 hs0 hown S hc
        go_wp2
        go_roundw
        case rel =>
          refine ⟨k + 1, _, by omega, by go_num, HX.out, fun j hj => ?_, fun j hj => ?_, HT.out⟩
          · by_cases e : j = k
            · subst e; rw [List.getElem?_set_self (by have := HL.out; omega), HS.out]
            · rw [List.getElem?_set_ne (Ne.symm e)]; exact HXX.out.1 j (by omega)
          · by_cases e : j = k
            · subst e; exact ⟨s, List.getElem?_set_self (by have := HL.out; omega)⟩
            · rw [List.getElem?_set_ne (Ne.symm e)]; exact HXX.out.2 j hj
        case measure => simp [intOf]; omega
      · obtain rfl : k = L.length := by omega
        have HO := Lib.hid hown
        have HX := Lib.hid hx1
        clear hown hx1 hx2
        go_wp2
        go_ret
        refine ⟨some ⟨g, 0, none⟩, L.length, rfl, fun j hj => ⟨g, 0, rfl, ?_⟩, hT⟩
        rw [Nat.zero_add, World.ownsRow.cellAt HO.out j (by omega)]
        exact HX.out j hj
end Go.Proofs.YtdljljnjijkbjaaFmt
