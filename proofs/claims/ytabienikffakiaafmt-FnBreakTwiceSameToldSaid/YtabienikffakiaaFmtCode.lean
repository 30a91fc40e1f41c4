/- The contracts of codeStore's methods: Add, At, SetSbx, SetA. 'Code': what a code store's blocks hold. -/
import Derived.Test.YtabienikffakiaaFmtMem
import Derived.Test.YtabienikffakiaaFmtOps136
import Derived.Test.YtabienikffakiaaFmtPool
namespace Go.Proofs.YtabienikffakiaaFmt
open Go.RowKit
set_option linter.unusedVariables false

theorem infoU32 : (Tryf.prog.info? 47).map (fun i => (i.zero, i.size, i.bytes)) = some (some (.int .u32 0), 1, 4) := by kernel_rfl
theorem infoInt : (Tryf.prog.info? 3).map (fun i => (i.zero, i.size, i.bytes)) = some (some (.int .i64 0), 1, 8) := by kernel_rfl

/-- block c is a code store: its two slices own the instructions (block gc) and the lines (block gl); pc is their number -/
structure Code (w : World) (β c gc cc gl cl : Nat) (is ls : List Int) : Prop where
  blk : w.heap[c]? = some (.cells #[.slice (some ⟨gc, 0, none⟩) is.length cc, .slice (some ⟨gl, 0, none⟩) is.length cl, .int .i64 is.length] 54 (0, 0))
  codes : w.ownsRow β 47 1 (.slice (some ⟨gc, 0, none⟩) is.length cc) is.length (is.map (Value.int .u32))
  lines : w.ownsRow β 3 1 (.slice (some ⟨gl, 0, none⟩) is.length cl) is.length (ls.map (Value.int .i64))

theorem one_int (k : IntKind) (n : Int) : ∀ u ∈ [Value.int k n], u.oneCell' = true := by
  intro u hu
  simp at hu
  subst hu
  rfl

/-- the element type of an owned block -/
theorem owned_elem {w : World} {β g n cap s : Nat} {e : TypeId} {xs : List Value} (h : w.ownsRow β e s (.slice (some ⟨g, 0, none⟩) n cap) n xs) : ∃ cur, w.heap[g]? = some (.cells cur e (0, 0)) := by
  obtain ⟨_, ⟨h1, _⟩ | ⟨g', cap', cur, h1, _, hg, _⟩⟩ := h
  · cases h1
  · simp only [Value.slice.injEq, Option.some.injEq, Addr.mk.injEq, and_true, true_and] at h1
    obtain ⟨rfl, rfl⟩ := h1
    exact ⟨cur, hg⟩

theorem Code.apart {w : World} {β c gc cc gl cl : Nat} {is ls : List Int} (h : Code w β c gc cc gl cl is ls) : gc ≠ c ∧ gl ≠ c ∧ gc ≠ gl := by
  obtain ⟨cur, h1⟩ := owned_elem h.codes
  obtain ⟨cur2, h2⟩ := owned_elem h.lines
  have h0 := h.blk
  refine ⟨?_, ?_, ?_⟩
  · rintro rfl; rw [h1] at h0; simp at h0
  · rintro rfl; rw [h2] at h0; simp at h0
  · rintro rfl; rw [h1] at h2; simp at h2

/-- one instruction more; the rows may have moved to new blocks -/
def Added (β c gc gl : Nat) (is ls : List Int) (x l : Int) (w : World) (e : Ending) (w' : World) : Prop :=
  ∃ gc' cc' gl' cl', e = .returned (.tuple #[]) ∧ Code w' β c gc' cc' gl' cl' (is ++ [x]) (ls ++ [l]) ∧ Turn w w' (fun b => b = c ∨ b = gc ∨ b = gl) ∧ (gc' = gc ∨ w.heap.size ≤ gc') ∧ (gl' = gl ∨ w.heap.size ≤ gl')

theorem lens {w : World} {β c gc cc gl cl : Nat} {is ls : List Int} (h : Code w β c gc cc gl cl is ls) : ls.length = is.length := by
  have := h.lines.1
  simpa using this

set_option maxRecDepth 100000 in
set_option maxHeartbeats 1000000 in
theorem add_any (β c gc cc gl cl : Nat) (is ls : List Int) (x l : Int) (w : World) (h : Code w β c gc cc gl cl is ls) (hβ : β ≤ w.heap.size) (hn : is.length ≤ 1048576) :
    Calls Tryf.prog 48 #[.pointer (some ⟨c, 0, none⟩), .int .u32 x, .int .i64 l] w (Added β c gc gl is ls x l w) := by
  obtain ⟨i0, hi, hz0, hz1, hz2⟩ := info_parts infoU32
  obtain ⟨j0, hj, hy0, hy1, hy2⟩ := info_parts infoInt
  obtain ⟨n, hn0⟩ : ∃ n, n = is.length := ⟨_, rfl⟩
  have hap := h.apart
  obtain ⟨blk, codes, lines⟩ := h
  rw [← hn0] at blk codes lines hn
  have hll : (is.map (Value.int .u32) ++ [Value.int .u32 x]) = (is ++ [x]).map (Value.int .u32) := by simp
  have hlm : (ls.map (Value.int .i64) ++ [Value.int .i64 l]) = (ls ++ [l]).map (Value.int .i64) := by simp
  have hlen : (is ++ [x]).length = n + 1 := by simp [hn0]
  have HL := Lib.hid hll
  have HM := Lib.hid hlm
  have HN := Lib.hid hlen
  have hclt := lt_of_block blk
  have c0 := cell_of_blk blk 0 (.slice (some ⟨gc, 0, none⟩) n cc) rfl
  have c1 := cell_of_blk blk 1 (.slice (some ⟨gl, 0, none⟩) n cl) rfl
  have c2 := cell_of_blk blk 2 (.int .i64 n) rfl
  clear hn0 hll hlm hlen
  by_cases h0 : n = 0
  · subst h0
    go_enter Tryf.func48, Tryf.ntmps48
    go_wp2_with (at_builtin; refine wpList_append_own_at _ rfl _ _ 43 rfl β 47 i0 (.int .u32 0) 1 4 Tryf.underlying43 hi hz0 hz1 hz2 rfl (by decide) (.slice (some ⟨gc, 0, none⟩) 0 cc) 0 _ rfl (codes.alloc _) ⟨w.heap.size, 0, none⟩ 1 1 [.int .u32 x] rfl rfl ?c1 ?c2 ?c3 ?c4 ?c5 ?_)
    case c1 => exact cell_one_new _ _ _
    case c2 => intro u hu; simp at hu; subst hu; rfl
    case c3 => unfold maxLen; omega
    case c4 => omega
    case c5 => simp; omega
    intro v1 w1 hown hgrow _ hloc
    obtain ⟨g, cap, rfl, hg⟩ := shape_of_owned hown (by omega)
    have hloc' : g = gc ∨ g = w.heap.size + 1 := by simpa [Value.ownBlock] using hloc
    have T1 : Turn w w1 (fun b => b = gc) := ((Turn.refl w _).alloc _).grown hgrow (fun k hk _ => by cases hk; rfl)
    have blk1 := T1.heap blk (fun e => hap.1 e.symm)
    have lines1 := T1.ownsRow lines (fun k hk e => by cases hk; exact hap.2.2 e.symm)
    have hcg : g ≠ c := by
      rcases hloc' with e | e
      · rw [e]; exact hap.1
      · omega
    have d0 := cell_of_blk blk1 0 (.slice (some ⟨gc, 0, none⟩) 0 cc) rfl
    have d0' := free_of_blk blk1 0
    have blk2 := blk_setCell blk1 0 (.slice (some ⟨g, 0, none⟩) (0 + 1) cap)
    have own2 := ownsRow_setCell_other hown (a := ⟨c, 0, none⟩) (by simpa [Value.ownBlock] using hcg) (.slice (some ⟨g, 0, none⟩) (0 + 1) cap)
    have lines2 := ownsRow_setCell_other lines1 (a := ⟨c, 0, none⟩) (by simpa [Value.ownBlock] using hap.2.1) (.slice (some ⟨g, 0, none⟩) (0 + 1) cap)
    have T2 := (T1.mono (G := fun b => b = c ∨ b = gc) (fun _ _ h => .inr h)).setCell (p := ⟨c, 0, none⟩) (fun _ => .inl rfl) (.slice (some ⟨g, 0, none⟩) (0 + 1) cap)
    generalize hw2 : w1.setCell ⟨c, 0, none⟩ (.slice (some ⟨g, 0, none⟩) (0 + 1) cap) = w2 at blk2 own2 lines2 T2
    have e1 := cell_of_blk blk2 1 (.slice (some ⟨gl, 0, none⟩) 0 cl) rfl
    have e2 := cell_of_blk blk2 2 (.int .i64 0) rfl
    have hs2 := T2.size
    have hgl := (lines.lt _ rfl).2
    clear c0 c1 c2 codes lines lines1 hown hgrow hloc blk blk1
    go_wp2_with (at_builtin; refine wpList_append_own_at _ rfl _ _ 23 rfl β 3 j0 (.int .i64 0) 1 8 Tryf.underlying23 hj hy0 hy1 hy2 rfl (by decide) (.slice (some ⟨gl, 0, none⟩) 0 cl) 0 _ rfl (lines2.alloc _) ⟨w2.heap.size, 0, none⟩ 1 1 [.int .i64 l] rfl rfl (cell_one_new _ _ _) (one_int _ _) (by unfold maxLen; omega) (by omega) (by simp; omega) ?_)
    intro v2 w3 hown hgrow _ hloc
    obtain ⟨k2, cap2, rfl, hg2⟩ := shape_of_owned hown (by omega)
    have hloc2 : k2 = gl ∨ k2 = w2.heap.size + 1 := by simpa [Value.ownBlock] using hloc
    have T3 : Turn w2 w3 (fun b => b = gl) := ((Turn.refl w2 _).alloc _).grown hgrow (fun k hk _ => by cases hk; rfl)
    have hggl : g ≠ gl := by
      rcases hloc' with e | e
      · rw [e]; exact hap.2.2
      · omega
    have blk3 := T3.heap blk2 (fun e => hap.2.1 e.symm)
    have own3 := T3.ownsRow own2 (fun k hk e => by cases hk; exact hggl e)
    have hck : k2 ≠ c := by
      rcases hloc2 with e | e
      · rw [e]; exact hap.2.1
      · omega
    have blk4 := blk_setCell blk3 1 (.slice (some ⟨k2, 0, none⟩) (0 + 1) cap2)
    have blk5 := blk_setCell blk4 2 (.int .i64 ((0 + 1 : Nat) : Int))
    have own4 := ownsRow_setCell_other (ownsRow_setCell_other own3 (a := ⟨c, 1, none⟩) (by simpa [Value.ownBlock] using hcg) (.slice (some ⟨k2, 0, none⟩) (0 + 1) cap2)) (a := ⟨c, 2, none⟩) (by simpa [Value.ownBlock] using hcg) (.int .i64 ((0 + 1 : Nat) : Int))
    have lines4 := ownsRow_setCell_other (ownsRow_setCell_other hown (a := ⟨c, 1, none⟩) (by simpa [Value.ownBlock] using hck) (.slice (some ⟨k2, 0, none⟩) (0 + 1) cap2)) (a := ⟨c, 2, none⟩) (by simpa [Value.ownBlock] using hck) (.int .i64 ((0 + 1 : Nat) : Int))
    have T5 : Turn w ((w3.setCell ⟨c, 1, none⟩ (.slice (some ⟨k2, 0, none⟩) (0 + 1) cap2)).setCell ⟨c, 2, none⟩ (.int .i64 ((0 + 1 : Nat) : Int))) (fun b => b = c ∨ b = gc ∨ b = gl) :=
      (((T2.mono (G := fun b => b = c ∨ b = gc ∨ b = gl) (fun _ _ h => h.elim .inl (fun h => .inr (.inl h)))).trans' T3 (fun _ _ h => .inr (.inr h))).setCell (p := ⟨c, 1, none⟩) (fun _ => .inl rfl) _).setCell (p := ⟨c, 2, none⟩) (fun _ => .inl rfl) _
    have d1 := cell_of_blk blk3 1 (.slice (some ⟨gl, 0, none⟩) 0 cl) rfl
    have d2 := cell_of_blk blk3 2 (.int .i64 0) rfl
    have f1 := free_of_blk blk3 1
    have f2 := free_of_blk blk3 2
    have B5 := Lib.hid blk5
    have O4 := Lib.hid own4
    have L4 := Lib.hid lines4
    have HT5 := Lib.hid T5
    clear blk2 blk3 blk4 blk5 own2 own3 own4 lines4 lines2 hown hgrow hloc T5 T2 T3 T1 e1 e2 hw2
    go_wp2
    go_end0
    refine ⟨g, cap, k2, cap2, rfl, ⟨?_, ?_, ?_⟩, HT5.out, ?_, ?_⟩
    · rw [HN.out]; exact B5.out
    · rw [HN.out, ← HL.out]; exact O4.out
    · rw [HN.out, ← HM.out]; exact L4.out
    · rcases hloc' with e | e
      · exact .inl e
      · exact .inr (by omega)
    · rcases hloc2 with e | e
      · exact .inl e
      · exact .inr (by omega)

  · have z0 : (0 : Int) < (n : Int) := by omega
    go_enter Tryf.func48, Tryf.ntmps48
    go_wp2_with (at_builtin; refine wpList_append_own_at _ rfl _ _ 43 rfl β 47 i0 (.int .u32 0) 1 4 Tryf.underlying43 hi hz0 hz1 hz2 rfl (by decide) (.slice (some ⟨gc, 0, none⟩) n cc) n _ rfl (codes.alloc _) ⟨w.heap.size, 0, none⟩ 1 1 [.int .u32 x] rfl rfl ?c1 ?c2 ?c3 ?c4 ?c5 ?_)
    case c1 => exact cell_one_new _ _ _
    case c2 => intro u hu; simp at hu; subst hu; rfl
    case c3 => unfold maxLen; omega
    case c4 => omega
    case c5 => simp; omega
    intro v1 w1 hown hgrow _ hloc
    obtain ⟨g, cap, rfl, hg⟩ := shape_of_owned hown (by omega)
    have hloc' : g = gc ∨ g = w.heap.size + 1 := by simpa [Value.ownBlock] using hloc
    have T1 : Turn w w1 (fun b => b = gc) := ((Turn.refl w _).alloc _).grown hgrow (fun k hk _ => by cases hk; rfl)
    have blk1 := T1.heap blk (fun e => hap.1 e.symm)
    have lines1 := T1.ownsRow lines (fun k hk e => by cases hk; exact hap.2.2 e.symm)
    have hcg : g ≠ c := by
      rcases hloc' with e | e
      · rw [e]; exact hap.1
      · omega
    have d0 := cell_of_blk blk1 0 (.slice (some ⟨gc, 0, none⟩) n cc) rfl
    have d0' := free_of_blk blk1 0
    have blk2 := blk_setCell blk1 0 (.slice (some ⟨g, 0, none⟩) (n + 1) cap)
    have own2 := ownsRow_setCell_other hown (a := ⟨c, 0, none⟩) (by simpa [Value.ownBlock] using hcg) (.slice (some ⟨g, 0, none⟩) (n + 1) cap)
    have lines2 := ownsRow_setCell_other lines1 (a := ⟨c, 0, none⟩) (by simpa [Value.ownBlock] using hap.2.1) (.slice (some ⟨g, 0, none⟩) (n + 1) cap)
    have T2 := (T1.mono (G := fun b => b = c ∨ b = gc) (fun _ _ h => .inr h)).setCell (p := ⟨c, 0, none⟩) (fun _ => .inl rfl) (.slice (some ⟨g, 0, none⟩) (n + 1) cap)
    generalize hw2 : w1.setCell ⟨c, 0, none⟩ (.slice (some ⟨g, 0, none⟩) (n + 1) cap) = w2 at blk2 own2 lines2 T2
    have e1 := cell_of_blk blk2 1 (.slice (some ⟨gl, 0, none⟩) n cl) rfl
    have e2 := cell_of_blk blk2 2 (.int .i64 n) rfl
    have hs2 := T2.size
    have hgl := (lines.lt _ rfl).2
    clear c0 c1 c2 codes lines lines1 hown hgrow hloc blk blk1
    go_wp2_with (at_builtin; refine wpList_append_own_at _ rfl _ _ 23 rfl β 3 j0 (.int .i64 0) 1 8 Tryf.underlying23 hj hy0 hy1 hy2 rfl (by decide) (.slice (some ⟨gl, 0, none⟩) n cl) n _ rfl (lines2.alloc _) ⟨w2.heap.size, 0, none⟩ 1 1 [.int .i64 l] rfl rfl (cell_one_new _ _ _) (one_int _ _) (by unfold maxLen; omega) (by omega) (by simp; omega) ?_)
    intro v2 w3 hown hgrow _ hloc
    obtain ⟨k2, cap2, rfl, hg2⟩ := shape_of_owned hown (by omega)
    have hloc2 : k2 = gl ∨ k2 = w2.heap.size + 1 := by simpa [Value.ownBlock] using hloc
    have T3 : Turn w2 w3 (fun b => b = gl) := ((Turn.refl w2 _).alloc _).grown hgrow (fun k hk _ => by cases hk; rfl)
    have hggl : g ≠ gl := by
      rcases hloc' with e | e
      · rw [e]; exact hap.2.2
      · omega
    have blk3 := T3.heap blk2 (fun e => hap.2.1 e.symm)
    have own3 := T3.ownsRow own2 (fun k hk e => by cases hk; exact hggl e)
    have hck : k2 ≠ c := by
      rcases hloc2 with e | e
      · rw [e]; exact hap.2.1
      · omega
    have blk4 := blk_setCell blk3 1 (.slice (some ⟨k2, 0, none⟩) (n + 1) cap2)
    have blk5 := blk_setCell blk4 2 (.int .i64 ((n + 1 : Nat) : Int))
    have own4 := ownsRow_setCell_other (ownsRow_setCell_other own3 (a := ⟨c, 1, none⟩) (by simpa [Value.ownBlock] using hcg) (.slice (some ⟨k2, 0, none⟩) (n + 1) cap2)) (a := ⟨c, 2, none⟩) (by simpa [Value.ownBlock] using hcg) (.int .i64 ((n + 1 : Nat) : Int))
    have lines4 := ownsRow_setCell_other (ownsRow_setCell_other hown (a := ⟨c, 1, none⟩) (by simpa [Value.ownBlock] using hck) (.slice (some ⟨k2, 0, none⟩) (n + 1) cap2)) (a := ⟨c, 2, none⟩) (by simpa [Value.ownBlock] using hck) (.int .i64 ((n + 1 : Nat) : Int))
    have T5 : Turn w ((w3.setCell ⟨c, 1, none⟩ (.slice (some ⟨k2, 0, none⟩) (n + 1) cap2)).setCell ⟨c, 2, none⟩ (.int .i64 ((n + 1 : Nat) : Int))) (fun b => b = c ∨ b = gc ∨ b = gl) :=
      (((T2.mono (G := fun b => b = c ∨ b = gc ∨ b = gl) (fun _ _ h => h.elim .inl (fun h => .inr (.inl h)))).trans' T3 (fun _ _ h => .inr (.inr h))).setCell (p := ⟨c, 1, none⟩) (fun _ => .inl rfl) _).setCell (p := ⟨c, 2, none⟩) (fun _ => .inl rfl) _
    have d1 := cell_of_blk blk3 1 (.slice (some ⟨gl, 0, none⟩) n cl) rfl
    have d2 := cell_of_blk blk3 2 (.int .i64 n) rfl
    have f1 := free_of_blk blk3 1
    have f2 := free_of_blk blk3 2
    have B5 := Lib.hid blk5
    have O4 := Lib.hid own4
    have L4 := Lib.hid lines4
    have HT5 := Lib.hid T5
    clear blk2 blk3 blk4 blk5 own2 own3 own4 lines4 lines2 hown hgrow hloc T5 T2 T3 T1 e1 e2 hw2
    go_wp2
    go_end0
    refine ⟨g, cap, k2, cap2, rfl, ⟨?_, ?_, ?_⟩, HT5.out, ?_, ?_⟩
    · rw [HN.out]; exact B5.out
    · rw [HN.out, ← HL.out]; exact O4.out
    · rw [HN.out, ← HM.out]; exact L4.out
    · rcases hloc' with e | e
      · exact .inl e
      · exact .inr (by omega)
    · rcases hloc2 with e | e
      · exact .inl e
      · exact .inr (by omega)

theorem Code.put {w : World} {β c gc cc gl cl : Nat} {is ls : List Int} (h : Code w β c gc cc gl cl is ls) (k : Nat) (y : Int) : Code (w.setCell ⟨gc, k, none⟩ (.int .u32 y)) β c gc cc gl cl (is.set k y) ls := by
  have hap := h.apart
  have hcg : c ≠ gc := fun e => hap.1 e.symm
  refine ⟨?_, ?_, ?_⟩
  · rw [List.length_set, heap_setCell_other w ⟨gc, k, none⟩ c _ hcg]; exact h.blk
  · rw [List.length_set, List.map_set]; exact (h.codes.stored k _).1
  · rw [List.length_set]; exact ownsRow_setCell_other h.lines (a := ⟨gc, k, none⟩) (by simpa [Value.ownBlock] using fun e => hap.2.2 e.symm) _

theorem Code.cell {w : World} {β c gc cc gl cl : Nat} {is ls : List Int} (h : Code w β c gc cc gl cl is ls) (k : Nat) (hk : k < is.length) : w.cell? ⟨gc, k, none⟩ = some (.int .u32 (is.getD k 0)) := by
  rw [h.codes.cellAt k (by omega)]
  simp [List.getD, hk]




theorem Code.kept {w w' : World} {F : Nat → Prop} {β c gc cc gl cl : Nat} {is ls : List Int} (h : Code w β c gc cc gl cl is ls) (t : Turn w w' F) (h1 : ¬ F c) (h2 : ¬ F gc) (h3 : ¬ F gl) : Code w' β c gc cc gl cl is ls :=
  ⟨t.heap h.blk h1, t.ownsRow h.codes (fun k hk => by cases hk; exact h2), t.ownsRow h.lines (fun k hk => by cases hk; exact h3)⟩

end Go.Proofs.YtabienikffakiaaFmt
