/- The contracts of flagScanner's methods and of the law's helper zzPutS. -/
import Derived.Test.YthgdlgghdfikmaaBytes142
import Derived.Test.YthgdlgghdfikmaaInts
import Derived.Test.YthgdlgghdfikmaaAppS
import Derived.StillTailTactics
import Derived.Deep.QuietTactic
import Derived.BigQuiet
namespace Go.Proofs.Ythgdlgghdfikmaa
open Go.RowKit Go.Lib
set_option linter.unusedVariables false

theorem infoU8 : (Try.prog.info? 5).map (fun i => (i.zero, i.size, i.bytes)) = some (some (.int .u8 0), 1, 1) := by kernel_rfl

theorem cell_of_blk {w : World} {P : Nat} {cs : Array Value} {t : TypeId} (h : w.heap[P]? = some (.cells cs t (0, 0))) (i : Nat) (v : Value) (hi : cs[i]? = some v) : w.cell? ⟨P, i, none⟩ = some v := by
  simp [World.cell?, h, hi]
theorem free_of_blk {w : World} {P : Nat} {cs : Array Value} {t : TypeId} (h : w.heap[P]? = some (.cells cs t (0, 0))) (i : Nat) : w.frozen? ⟨P, i, none⟩ = false := by
  simp [World.frozen?, h]
theorem blk_setCell {w : World} {P : Nat} {cs : Array Value} {t : TypeId} (h : w.heap[P]? = some (.cells cs t (0, 0))) (i : Nat) (u : Value) : (w.setCell ⟨P, i, none⟩ u).heap[P]? = some (.cells (cs.setIfInBounds i u) t (0, 0)) := by
  have hlt := lt_of_block h
  have h' : w.heap[P] = .cells cs t (0, 0) := by simpa [Array.getElem?_eq_getElem hlt] using h
  show (w.heap.modify P _)[P]? = _
  rw [Array.getElem?_eq_getElem (by simpa using hlt), Array.getElem_modify_self, h']
  rfl
theorem alloc_blk (w : World) (o : Obj) : (w.alloc o).heap[w.heap.size]? = some o := (MapKept.heap_alloc w o).1

/-- a byte as a cell -/
def bCell (b : UInt8) : Value := .int .u8 b.toNat
/-- an owned slice of bytes in block g -/
def Owns (w : World) (β g cap : Nat) (l : List UInt8) : Prop := w.ownsRow β 5 1 (.slice (some ⟨g, 0, none⟩) l.length cap) l.length (l.map bCell)

theorem Owns.kept {w w' : World} {F : Nat → Prop} {β g cap : Nat} {l : List UInt8} (h : Owns w β g cap l) (t : Turn w w' F) (hg : ¬ F g) : Owns w' β g cap l :=
  t.ownsRow h (fun k hk => by cases hk; exact hg)
theorem Owns.ge {w : World} {β g cap : Nat} {l : List UInt8} (h : Owns w β g cap l) : β ≤ g ∧ g < w.heap.size := World.ownsRow.lt h g rfl

/-- block b is a scanner whose buffer is the bytes l, in block g -/
structure Scan (w : World) (β b g cap : Nat) (l : List UInt8) : Prop where
  blk : ∃ f s e x n, w.heap[b]? = some (.cells #[.int .u8 f, .string s, .string e, .slice (some ⟨g, 0, none⟩) l.length cap, .string x, .int .i64 n, .int .i64 0, .bool false, .bool false] 33 (0, 0))
  row : Owns w β g cap l

theorem Scan.apart {w : World} {β b g cap : Nat} {l : List UInt8} (h : Scan w β b g cap l) : g ≠ b := by
  intro e
  subst e
  obtain ⟨f, s, e, x, n, hb⟩ := h.blk
  obtain ⟨_, ⟨he, _⟩ | ⟨g0, cap0, cur, he, _, hg, _⟩⟩ := h.row
  · cases he
  · obtain ⟨rfl, rfl⟩ : g = g0 ∧ cap = cap0 := by simpa using he
    rw [hb] at hg
    simp at hg
theorem Scan.kept {w w' : World} {F : Nat → Prop} {β b g cap : Nat} {l : List UInt8} (h : Scan w β b g cap l) (t : Turn w w' F) (hg : ¬ F g) (hb : ¬ F b) : Scan w' β b g cap l := by
  obtain ⟨f, s, e, x, n, hbl⟩ := h.blk
  exact ⟨⟨f, s, e, x, n, t.heap hbl hb⟩, h.row.kept t hg⟩

def ScanMade (w : World) (e : Ending) (w' : World) : Prop := ∃ b g cap, e = .returned (.pointer (some ⟨b, 0, none⟩)) ∧ Scan w' w.heap.size b g cap [] ∧ Turn w w' (fun _ => False) ∧ w.heap.size ≤ b

set_option maxRecDepth 100000 in
theorem newScanner_any (f : Int) (s e x : ByteArray) (w : World) (hx : x.size ≤ 1048576) :
    Calls Try.prog 10 #[.int .u8 f, .string s, .string e, .string x] w (ScanMade w) := by
  obtain ⟨i0, hi, hz0, hz1, hz2⟩ := info_parts infoU8
  go_enter Try.func10, Try.ntmps10
  go_wp2_with (at_make; refine wpList_make_own _ rfl _ _ 23 rfl w.heap.size 5 i0 (.int .u8 0) 1 Try.underlying23 hi hz0 hz1 .i64 .i64 _ x.size rfl rfl rfl ?c2 ?c3 (Nat.le_refl _) ?_)
  case c2 => rw [hz2]; omega
  case c3 => unfold maxLen; omega
  intro w1 hown hgrow
  go_wp2
  go_ret
  have T0 : Turn w w1 (fun _ => False) := (Turn.refl w _).grown hgrow (fun _ h => by cases h)
  have O1 : Owns w1 w.heap.size w.heap.size x.size [] := hown
  exact ⟨w1.heap.size, w.heap.size, x.size, rfl, ⟨⟨_, _, _, _, _, alloc_blk _ _⟩, O1.kept ((Turn.refl w1 (fun _ => False)).alloc _) id⟩, T0.alloc _, T0.size⟩

/-- the buffer has grown by ns; where it lies now -/
def ScanGrown (β b g : Nat) (l ns : List UInt8) (w : World) (e : Ending) (w' : World) : Prop :=
  ∃ g' cap', e = .returned (.tuple #[]) ∧ Scan w' β b g' cap' (l ++ ns) ∧ Turn w w' (fun k => k = b ∨ k = g) ∧ (g' = g ∨ w.heap.size ≤ g')

set_option maxRecDepth 100000 in
theorem appendString_any (β b g cap : Nat) (l : List UInt8) (x : ByteArray) (w : World) (h : Scan w β b g cap l) (hβ : β ≤ w.heap.size) (hl : l.length ≤ 4194304) (hx : x.size ≤ 4194304) :
    Calls Try.prog 7 #[.pointer (some ⟨b, 0, none⟩), .string x] w (ScanGrown β b g l x.data.toList w) := by
  obtain ⟨i0, hi, hz0, hz1, hz2⟩ := info_parts infoU8
  have hne := h.apart
  obtain ⟨⟨f, s, e, y, n, hb⟩, hrow⟩ := h
  have c3 := cell_of_blk hb 3 _ rfl
  have f3 := free_of_blk hb 3
  go_enter Try.func7, Try.ntmps7
  go_wp2_with (at_builtin; refine wpList_append_string_at _ rfl _ _ 23 9 rfl β 5 i0 Try.underlying23 Try.underlying9 hi hz0 hz1 hz2 g cap l.length _ rfl hrow x rfl ?c1 ?c2 ?c3 ?_)
  case c1 => unfold maxLen; omega
  case c2 => omega
  case c3 => exact hβ
  intro g' cap' w1 hown hgrow hloc
  have T1 : Turn w w1 (fun k => k = b ∨ k = g) := (Turn.refl w _).grown hgrow (fun k hk _ => by cases hk; exact .inr rfl)
  have hb1 : w1.heap[b]? = _ := (hgrow.block b (lt_of_block hb) (fun e => hne (by injection e with e; exact e.symm))).trans hb
  have d3 := cell_of_blk hb1 3 _ rfl
  have g3 := free_of_blk hb1 3
  have hsz : x.size = x.data.toList.length := by simp
  have hO : Owns w1 β g' cap' (l ++ x.data.toList) := by
    unfold Owns
    rw [List.length_append, List.map_append, ← hsz]
    exact hown
  have hg'b : g' ≠ b := by
    have := lt_of_block hb
    rcases hloc with rfl | rfl
    · exact hne
    · omega
  have T2 := T1.setCell (p := ⟨b, 3, none⟩) (fun _ => .inl rfl) (.slice (some ⟨g', 0, none⟩) (l.length + x.size) cap')
  have hO2 := hO.kept ((Turn.refl w1 (fun k => k = b)).setCell (p := ⟨b, 3, none⟩) (fun _ => rfl) (.slice (some ⟨g', 0, none⟩) (l.length + x.size) cap')) hg'b
  have hb2 := blk_setCell hb1 3 (.slice (some ⟨g', 0, none⟩) (l.length + x.size) cap')
  have HL := Lib.hid hloc
  have HS := Lib.hid hsz
  clear hown hgrow hO hb1 c3 f3 hi hz0 hz1 hz2 hloc hsz
  go_wp2
  go_end0
  refine ⟨g', cap', rfl, ⟨⟨f, s, e, y, n, ?_⟩, hO2⟩, T2, HL.out.imp id (fun h => by omega)⟩
  rw [List.length_append, ← HS.out]
  exact hb2

set_option maxRecDepth 100000 in
theorem appendChar_any (β b g cap : Nat) (l : List UInt8) (c : UInt8) (w : World) (h : Scan w β b g cap l) (hβ : β ≤ w.heap.size) (hl : l.length ≤ 4194304) :
    Calls Try.prog 9 #[.pointer (some ⟨b, 0, none⟩), .int .u8 c.toNat] w (ScanGrown β b g l [c] w) := by
  obtain ⟨i0, hi, hz0, hz1, hz2⟩ := info_parts infoU8
  have hne := h.apart
  obtain ⟨⟨f, s, e, y, n, hb⟩, hrow⟩ := h
  have c3 := cell_of_blk hb 3 _ rfl
  have f3 := free_of_blk hb 3
  have hrow' : w.ownsRow β 5 1 (.slice (some ⟨g, 0, none⟩) l.length cap) l.length (l.map bCell) := hrow
  go_enter Try.func9, Try.ntmps9
  go_wp2_with (at_builtin; refine wpList_append_own_at _ rfl _ _ 23 rfl β 5 i0 (.int .u8 0) 1 1 Try.underlying23 hi hz0 hz1 hz2 rfl (by decide) _ l.length _ rfl (hrow'.alloc _) ⟨w.heap.size, 0, none⟩ 1 1 [.int .u8 c.toNat] rfl rfl ?c1 ?c2 ?c3 ?c4 ?c5 ?_)
  case c1 => exact cell_one_new _ _ _
  case c2 => intro u hu; simp at hu; subst hu; rfl
  case c3 => unfold maxLen; omega
  case c4 => omega
  case c5 => simp; omega
  intro v' w1 hown hgrow hnil hloc
  have T1 : Turn w w1 (fun k => k = b ∨ k = g) := ((Turn.refl w _).alloc _).grown hgrow (fun k hk _ => by cases hk; exact .inr rfl)
  have hblt := lt_of_block hb
  have hb1 : w1.heap[b]? = _ := ((hgrow.block b (by simp; omega) (fun e => hne (by injection e with e; exact e.symm))).trans (Below.heap_alloc w _ b hblt)).trans hb
  have d3 := cell_of_blk hb1 3 _ rfl
  have g3 := free_of_blk hb1 3
  obtain ⟨g', cap', rfl⟩ : ∃ g' cap', v' = .slice (some ⟨g', 0, none⟩) (l.length + 1) cap' := by
    obtain ⟨_, ⟨_, h0⟩ | ⟨g0, cap0, cur, rfl, _⟩⟩ := hown
    · omega
    · exact ⟨g0, cap0, rfl⟩
  have hO : Owns w1 β g' cap' (l ++ [c]) := by
    unfold Owns
    rw [List.length_append, List.map_append]
    exact hown
  have hloc' : g' = g ∨ g' = w.heap.size + 1 := by simpa [Value.ownBlock] using hloc
  have hg'b : g' ≠ b := by
    rcases hloc' with rfl | rfl
    · exact hne
    · omega
  have T2 := T1.setCell (p := ⟨b, 3, none⟩) (fun _ => .inl rfl) (.slice (some ⟨g', 0, none⟩) (l.length + 1) cap')
  have hO2 := hO.kept ((Turn.refl w1 (fun k => k = b)).setCell (p := ⟨b, 3, none⟩) (fun _ => rfl) (.slice (some ⟨g', 0, none⟩) (l.length + 1) cap')) hg'b
  have hb2 := blk_setCell hb1 3 (.slice (some ⟨g', 0, none⟩) (l.length + 1) cap')
  have HL := Lib.hid hloc'
  clear hown hgrow hO hb1 c3 f3 hi hz0 hz1 hz2 hloc hloc' hnil hrow'
  go_wp2
  go_end0
  refine ⟨g', cap', rfl, ⟨⟨f, s, e, y, n, ?_⟩, hO2⟩, T2, HL.out.imp id (fun h => by omega)⟩
  rw [List.length_append]
  exact hb2

set_option maxRecDepth 100000 in
theorem string_any (β b g cap : Nat) (l : List UInt8) (w : World) (h : Scan w β b g cap l) :
    Calls Try.prog 6 #[.pointer (some ⟨b, 0, none⟩)] w fun e w' => e = .returned (.string ⟨l.toArray⟩) ∧ w = w' := by
  obtain ⟨⟨f, s, e, y, n, hb⟩, hrow⟩ := h
  have c3 := cell_of_blk hb 3 _ rfl
  have hr := run_convert_bytes_back (P := Try.prog) w 23 9 5 ⟨g, 0, none⟩ cap l Try.underlying23 Try.underlying5 Try.underlying9 (fun j hj => by
    have := World.ownsRow.cells hrow rfl j (bCell l[j]) (by simp [hj])
    exact this)
  go_enter Try.func6, Try.ntmps6
  go_wp2
  go_ret
  exact ⟨rfl, rfl⟩

/-- bytes of a string put behind an owned slice -/
def Put (β g : Nat) (l ns : List UInt8) (w : World) (e : Ending) (w' : World) : Prop :=
  ∃ g' cap', e = .returned (.slice (some ⟨g', 0, none⟩) (l ++ ns).length cap') ∧ Owns w' β g' cap' (l ++ ns) ∧ Turn w w' (fun k => k = g) ∧ (g' = g ∨ w.heap.size ≤ g')

theorem take_succ_byte (x : ByteArray) (k : Nat) (h : k < x.size) : x.data.toList.take (k + 1) = x.data.toList.take k ++ [x[k]] := by
  rw [List.take_succ_eq_append_getElem (by simpa using h)]; rfl

set_option maxRecDepth 100000 in
theorem putS_any (β g cap : Nat) (l : List UInt8) (x : ByteArray) (w : World) (h : Owns w β g cap l) (hβ : β ≤ w.heap.size) (hl : l.length ≤ 4194304) (hx : x.size ≤ 4194304) :
    Calls Try.prog 8 #[.slice (some ⟨g, 0, none⟩) l.length cap, .string x] w (Put β g l x.data.toList w) := by
  obtain ⟨i0, hi, hz0, hz1, hz2⟩ := info_parts infoU8
  go_enter Try.func8, Try.ntmps8
  go_wp2
  go_loopw [0, 5] (fun v i wr => ∃ (k g' cap' : Nat), k ≤ x.size ∧ i = .int .i64 k ∧ v = .slice (some ⟨g', 0, none⟩) (l ++ x.data.toList.take k).length cap' ∧ Owns wr β g' cap' (l ++ x.data.toList.take k) ∧
    Turn w wr (fun j => j = g) ∧ (g' = g ∨ w.heap.size ≤ g')) (fun _ i _ => x.size - (intOf i).toNat)
  case atStart => exact ⟨0, g, cap, Nat.zero_le _, rfl, by simp, by simpa using h, Turn.refl _ _, .inl rfl⟩
  case round =>
    obtain ⟨k, g', cap', hk, rfl, rfl, hO, hT, hloc⟩ := hrel
    by_cases hlt : k < x.size
    · have hts := take_succ_byte x k hlt
      have hlen : (l ++ x.data.toList.take k).length ≤ 8388608 := by
        have : (x.data.toList.take k).length ≤ k := List.length_take_le _ _
        rw [List.length_append]; omega
      have hO' : wr.ownsRow β 5 1 (.slice (some ⟨g', 0, none⟩) (l ++ x.data.toList.take k).length cap') (l ++ x.data.toList.take k).length ((l ++ x.data.toList.take k).map bCell) := hO
      generalize ht : l ++ x.data.toList.take k = t at *
      have htn : t ++ [x[k]] = l ++ x.data.toList.take (k + 1) := by rw [hts, ← List.append_assoc, ht]
      have HT := Lib.hid htn
      have HL := Lib.hid hloc
      clear hts ht htn hloc
      go_wp2_with (at_builtin; refine wpList_append_own_at _ rfl _ _ 23 rfl β 5 i0 (.int .u8 0) 1 1 Try.underlying23 hi hz0 hz1 hz2 rfl (by decide) _ t.length _ rfl (hO'.alloc _) ⟨wr.heap.size, 0, none⟩ 1 1 [.int .u8 x[k].toNat] rfl rfl ?c1 ?c2 ?c3 ?c4 ?c5 ?_)
      case c1 => exact cell_one_new _ _ _
      case c2 => intro u hu; simp at hu; subst hu; rfl
      case c3 => unfold maxLen; omega
      case c4 => omega
      case c5 => have := hT.size; simp; omega
      intro v' w1 hown hgrow hnil hloc1
      obtain ⟨g1, cap1, rfl⟩ : ∃ g' cap', v' = .slice (some ⟨g', 0, none⟩) (t.length + 1) cap' := by
        obtain ⟨_, ⟨_, h0⟩ | ⟨g0, cap0, cur, rfl, _⟩⟩ := hown
        · omega
        · exact ⟨g0, cap0, rfl⟩
      have hO1 : Owns w1 β g1 cap1 (t ++ [x[k]]) := by
        unfold Owns
        rw [List.length_append, List.map_append]
        exact hown
      have hloc2 : g1 = g' ∨ g1 = wr.heap.size + 1 := by simpa [Value.ownBlock] using hloc1
      have hT1 : Turn w w1 (fun j => j = g) := by
        refine (hT.alloc _).grown hgrow (fun j hj hlt' => ?_)
        cases hj
        rcases HL.out with e | e
        · exact e
        · exact absurd hlt' (Nat.not_lt.2 e)
      have hloc3 : g1 = g ∨ w.heap.size ≤ g1 := by
        rcases hloc2 with rfl | rfl
        · exact HL.out
        · right; have := hT.size; omega
      have HL3 := Lib.hid hloc3
      clear hown hgrow hnil hloc1 hloc2 hloc3 hO hO' hT
      go_wp2
      go_roundw
      case rel => exact ⟨k + 1, g1, cap1, by omega, by go_num, by rw [← HT.out]; simp, by rw [← HT.out]; exact hO1, hT1, HL3.out⟩
      case measure => simp [intOf]; omega
    · have he : k = x.size := by omega
      subst he
      have hfull : x.data.toList.take x.size = x.data.toList := List.take_of_length_le (by simp)
      rw [hfull] at hO ⊢
      clear hlt hfull
      have HL := Lib.hid hloc
      clear hloc
      go_wp2
      go_ret
      exact ⟨g', cap', rfl, hO, hT, HL.out⟩
end Go.Proofs.Ythgdlgghdfikmaa
