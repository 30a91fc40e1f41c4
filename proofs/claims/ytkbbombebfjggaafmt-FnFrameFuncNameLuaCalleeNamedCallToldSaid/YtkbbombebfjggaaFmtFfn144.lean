/- The contracts of frameFuncName under a Lua parent frame, and of the state builder. -/
import Derived.Test.YtkbbombebfjggaaFmtDbg144
namespace Go.Proofs.YtkbbombebfjggaaFmt
open Go.RowKit
set_option linter.unusedVariables false

theorem cell_of_blk {w : World} {P : Nat} {cs : Array Value} {t : TypeId} (h : w.heap[P]? = some (.cells cs t (0, 0))) (i : Nat) (v : Value) (hi : cs[i]? = some v) : w.cell? ⟨P, i, none⟩ = some v := by
  simp [World.cell?, h, hi]

theorem not63 {s : ByteArray} (h : s ≠ ⟨#[63]⟩) : ¬ s.toList = [63] := by
  intro e
  rw [ByteArray.toList_eq] at e
  apply h
  cases s with
  | mk d =>
    have : d = #[63] := Array.ext' (by simpa using e)
    rw [this]

def anonB : ByteArray := ⟨#[40, 97, 110, 111, 110, 121, 109, 111, 117, 115, 41]⟩

/-- r is the name of the first call from i on whose pc is z, or else the word given -/
def FirstFrom (L : List ByteArray) (P : List Int) (z : Int) (dflt : ByteArray) (m i : Nat) (r : ByteArray) : Prop :=
  (∃ j, i ≤ j ∧ j < m ∧ P.getD j 0 = z ∧ (∀ t, i ≤ t → t < j → P.getD t 0 ≠ z) ∧ r = L.getD j ByteArray.empty) ∨ ((∀ t, i ≤ t → t < m → P.getD t 0 ≠ z) ∧ r = dflt)

theorem FirstFrom.uniq {L : List ByteArray} {P : List Int} {z : Int} {dflt : ByteArray} {m i : Nat} {r s : ByteArray} (h : FirstFrom L P z dflt m i r) (k : FirstFrom L P z dflt m i s) : r = s := by
  rcases h with ⟨j, h1, h2, h3, h4, rfl⟩ | ⟨h1, rfl⟩
  · rcases k with ⟨j', k1, k2, k3, k4, rfl⟩ | ⟨k1, rfl⟩
    · have : j = j' := by
        rcases Nat.lt_trichotomy j j' with h | h | h
        · exact absurd h3 (k4 j h1 h)
        · exact h
        · exact absurd k3 (h4 j' k1 h)
      rw [this]
    · exact absurd h3 (k1 j h1 h2)
  · rcases k with ⟨j', k1, k2, k3, k4, rfl⟩ | ⟨k1, rfl⟩
    · exact absurd k3 (h1 j' k1 k2)
    · rfl
theorem FirstFrom.last {L : List ByteArray} {P : List Int} {z : Int} {dflt : ByteArray} {m : Nat} : FirstFrom L P z dflt m m dflt := .inr ⟨fun t h1 h2 => by omega, rfl⟩
theorem FirstFrom.hit {L : List ByteArray} {P : List Int} {z : Int} {dflt : ByteArray} {m i : Nat} (hi : i < m) (h : P.getD i 0 = z) : FirstFrom L P z dflt m i (L.getD i ByteArray.empty) := .inl ⟨i, Nat.le_refl _, hi, h, fun t h1 h2 => by omega, rfl⟩
theorem FirstFrom.miss {L : List ByteArray} {P : List Int} {z : Int} {dflt r : ByteArray} {m i : Nat} (h : P.getD i 0 ≠ z) (k : FirstFrom L P z dflt m (i + 1) r) : FirstFrom L P z dflt m i r := by
  rcases k with ⟨j, k1, k2, k3, k4, rfl⟩ | ⟨k1, rfl⟩
  · refine .inl ⟨j, by omega, k2, k3, fun t h1 h2 => ?_, rfl⟩
    rcases Nat.eq_or_lt_of_le h1 with rfl | h1
    · exact h
    · exact k4 t h1 h2
  · refine .inr ⟨fun t h1 h2 => ?_, rfl⟩
    rcases Nat.eq_or_lt_of_le h1 with rfl | h1
    · exact h
    · exact k1 t h1 h2

/-- what the blocks of a frame under a Lua parent hold -/
structure Frames (w : World) (fr frf pf pff pr d m : Nat) (g : Bool) (ppc tail : Int) : Prop where
  c1 : w.cell? ⟨fr, 2, none⟩ = some (.pointer (some ⟨pf, 0, none⟩))
  c2 : w.cell? ⟨fr, 1, none⟩ = some (.pointer (some ⟨frf, 0, none⟩))
  c3 : w.cell? ⟨frf, 0, none⟩ = some (.bool g)
  c4 : w.cell? ⟨fr, 9, none⟩ = some (.int .i64 tail)
  c5 : w.cell? ⟨pf, 1, none⟩ = some (.pointer (some ⟨pff, 0, none⟩))
  c6 : w.cell? ⟨pf, 3, none⟩ = some (.int .i64 ppc)
  c7 : w.cell? ⟨pff, 0, none⟩ = some (.bool false)
  c8 : w.cell? ⟨pff, 2, none⟩ = some (.pointer (some ⟨pr, 0, none⟩))
  c9 : w.cell? ⟨pr, 12, none⟩ = some (.slice (some ⟨d, 0, none⟩) m m)

theorem Frames.later {w w' : World} {fr frf pf pff pr d m : Nat} {g : Bool} {ppc tail : Int} (h : Frames w fr frf pf pff pr d m g ppc tail) (t : Turn w w' (fun _ => False)) : Frames w' fr frf pf pff pr d m g ppc tail :=
  ⟨t.cell h.c1 id, t.cell h.c2 id, t.cell h.c3 id, t.cell h.c4 id, t.cell h.c5 id, t.cell h.c6 id, t.cell h.c7 id, t.cell h.c8 id, t.cell h.c9 id⟩
theorem Dbg.later {w w' : World} {β d m : Nat} {L : List ByteArray} {P : List Int} (h : Dbg w β d m L P) (t : Turn w w' (fun _ => False)) : Dbg w' β d m L P :=
  ⟨h.ge, Nat.lt_of_lt_of_le h.lt t.size, fun k hk => t.cell (h.name k hk) id, fun k hk => t.cell (h.pc k hk) id⟩

set_option maxRecDepth 100000 in
set_option maxHeartbeats 2000000 in
theorem newState_any (a : Bool) (w : World) :
    Calls Tryf.prog 7 #[.bool false, .int .i64 0, .int .i64 0, .bool false, .bool a] w fun e w' => ∃ p, e = .returned (.pointer (some p)) ∧ Turn w w' (fun _ => False) := by
  cases a
  · go_enter Tryf.func7, Tryf.ntmps7
    go_wp2
    go_ret
    exact ⟨_, rfl, (((Turn.refl w _).alloc _).alloc _)⟩
  · go_enter Tryf.func7, Tryf.ntmps7
    go_wp2
    go_ret
    exact ⟨_, rfl, (((Turn.refl w _).alloc _).alloc _).alloc _⟩

set_option maxRecDepth 100000 in
set_option maxHeartbeats 2000000 in
/-- a Go callee under a Lua parent: the first call's name, or the word -/
theorem ffn_go (p : Option Addr) (fr frf pf pff pr d m β : Nat) (ppc tail : Int) (L : List ByteArray) (P : List Int) (w : World) (hF : Frames w fr frf pf pff pr d m true ppc tail) (hD : Dbg w β d m L P) (hm : m ≤ 65536) (h1 : -1073741824 ≤ ppc) (h2 : ppc ≤ 1073741824) :
    Calls Tryf.prog 10 #[.pointer p, .pointer (some ⟨fr, 0, none⟩)] w fun e w' => ∃ r, e = .returned (.tuple #[.string r, .bool false]) ∧ FirstFrom L P (ppc - 1) anonB m 0 r ∧ Turn w w' (fun _ => False) := by
  go_enter Tryf.func10, Tryf.ntmps10
  have hF0 := hF
  obtain ⟨c1, c2, c3, c4, c5, c6, c7, c8, c9⟩ := hF0
  go_wp2
  clear c1 c2 c3 c4 c5 c6 c7 c8 c9
  go_loopw [46] (fun i wr => ∃ k : Nat, k ≤ m ∧ i = .int .i64 k ∧ (∀ t, t < k → P.getD t 0 ≠ ppc - 1) ∧ Turn w wr (fun _ => False)) (fun i _ => m - (intOf i).toNat)
  case atStart => exact ⟨0, Nat.zero_le _, rfl, fun t ht => by omega, Turn.refl _ _⟩
  case round =>
    obtain ⟨k, hk, rfl, hno, hT⟩ := hrel
    have hD1 := hD.later hT
    obtain ⟨c1, c2, c3, c4, c5, c6, c7, c8, c9⟩ := hF.later hT
    by_cases hlt : k < m
    · have hn := hD1.name k hlt
      have hpc := hD1.pc k hlt
      have hdl := hD1.lt
      generalize hs : L.getD k ByteArray.empty = s at hn
      generalize hz : P.getD k 0 = z at hpc
      have HS := Lib.hid hs
      have HZ := Lib.hid hz
      have HN := Lib.hid hno
      clear hs hz hno
      have T2 := hT.alloc (.cells #[.string s, .int .i64 z] 28)
      have HT := Lib.hid T2
      have e1 := T2.size
      by_cases hq : z = ppc - 1
      · subst hq
        obtain ⟨b1, b2, b3, b4, b5, b6, b7, b8, b9⟩ := hF.later T2
        clear c1 c2 c3 c4 c5 c6 c7 c8 c9
        go_wp2
        all_goals go_ret2
        all_goals exact ⟨s, rfl, .inl ⟨k, Nat.zero_le _, hlt, HZ.out, fun t _ h => HN.out t h, HS.out.symm⟩, HT.out⟩
      · clear c1 c2 c3 c4 c5 c6 c7 c8 c9
        go_wp2
        go_roundw
        case rel => 
          refine ⟨k + 1, by omega, by go_num, fun t ht => ?_, HT.out⟩
          rcases Nat.lt_or_eq_of_le (Nat.le_of_lt_succ ht) with h | h
          · exact HN.out t h
          · subst h; rw [HZ.out]; exact hq
        case measure => simp [intOf]; omega
    · have he : k = m := by omega
      subst he
      clear hlt
      go_wp2
      go_ret2
      exact ⟨_, rfl, .inr ⟨fun t _ h => hno t h, rfl⟩, hT⟩
set_option maxRecDepth 100000 in
set_option maxHeartbeats 2000000 in
/-- a Lua callee under a Lua parent, no tail calls, the first call at hand has a name other than "?": that name -/
theorem ffn_lua (p : Option Addr) (fr frf pf pff pr d m β : Nat) (ppc tail : Int) (L : List ByteArray) (P : List Int) (w : World) (j : Nat) (hj : j < m) (hjz : P.getD j 0 = ppc - 1) (hjn : ∀ t, t < j → P.getD t 0 ≠ ppc - 1) (hjs : L.getD j ByteArray.empty ≠ ⟨#[63]⟩) (htl : tail ≤ 0) (hF : Frames w fr frf pf pff pr d m false ppc tail) (hD : Dbg w β d m L P) (hm : m ≤ 65536) (h1 : -1073741824 ≤ ppc) (h2 : ppc ≤ 1073741824) :
    Calls Tryf.prog 10 #[.pointer p, .pointer (some ⟨fr, 0, none⟩)] w fun e w' => e = .returned (.tuple #[.string (L.getD j ByteArray.empty), .bool false]) ∧ Turn w w' (fun _ => False) := by
  go_enter Tryf.func10, Tryf.ntmps10
  have hF0 := hF
  obtain ⟨c1, c2, c3, c4, c5, c6, c7, c8, c9⟩ := hF0
  go_wp2
  clear c1 c2 c3 c4 c5 c6 c7 c8 c9
  go_loopw [46] (fun i wr => ∃ k : Nat, k ≤ m ∧ i = .int .i64 k ∧ (∀ t, t < k → P.getD t 0 ≠ ppc - 1) ∧ Turn w wr (fun _ => False)) (fun i _ => m - (intOf i).toNat)
  case atStart => exact ⟨0, Nat.zero_le _, rfl, fun t ht => by omega, Turn.refl _ _⟩
  case round =>
    obtain ⟨k, hk, rfl, hno, hT⟩ := hrel
    have hD1 := hD.later hT
    obtain ⟨c1, c2, c3, c4, c5, c6, c7, c8, c9⟩ := hF.later hT
    by_cases hlt : k < m
    · have hn := hD1.name k hlt
      have hpc := hD1.pc k hlt
      have hdl := hD1.lt
      generalize hs : L.getD k ByteArray.empty = s at hn
      generalize hz : P.getD k 0 = z at hpc
      have HS := Lib.hid hs
      have HZ := Lib.hid hz
      have HN := Lib.hid hno
      clear hs hz hno
      have T2 := hT.alloc (.cells #[.string s, .int .i64 z] 28)
      have HT := Lib.hid T2
      have e1 := T2.size
      by_cases hq : z = ppc - 1
      · subst hq
        have hkj : k = j := by
          rcases Nat.lt_trichotomy k j with h | h | h
          · exact absurd HZ.out (hjn k h)
          · exact h
          · exact absurd hjz (HN.out j h)
        subst hkj
        rw [HS.out] at hjs
        have hne := bytes_ne hjs
        clear hjz hjn
        obtain ⟨b1, b2, b3, b4, b5, b6, b7, b8, b9⟩ := hF.later T2
        clear c1 c2 c3 c4 c5 c6 c7 c8 c9
        go_wp2
        all_goals first
          | (go_ret2; exact ⟨congrArg (fun x => Ending.returned (.tuple #[.string x, .bool false])) HS.out.symm, HT.out⟩)
          | (exact absurd ‹s.toList = [63]› (not63 hjs))
      · clear c1 c2 c3 c4 c5 c6 c7 c8 c9
        go_wp2
        go_roundw
        case rel => 
          refine ⟨k + 1, by omega, by go_num, fun t ht => ?_, HT.out⟩
          rcases Nat.lt_or_eq_of_le (Nat.le_of_lt_succ ht) with h | h
          · exact HN.out t h
          · subst h; rw [HZ.out]; exact hq
        case measure => simp [intOf]; omega
    · have he : k = m := by omega
      subst he
      clear hlt
      exact absurd hjz (hno j hj)
end Go.Proofs.YtkbbombebfjggaaFmt
