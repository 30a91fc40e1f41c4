/- The contracts of varNamePool's methods: newVarNamePool, Register, LastIndex, Names, Find. 'Pool': what a pool's two blocks hold. -/
import Derived.Test.YtabienikffakiaaFmtRows
import Derived.Test.YtabienikffakiaaFmtMem
import Derived.WalkKit
import Derived.ProofKit
import Derived.WalkLawsBesides
import Derived.WalkSpells
import Derived.Handy
import Derived.Lib.Hide
import Derived.Deep.QuietTactic
import Derived.BigQuiet
namespace Go.Proofs.YtabienikffakiaaFmt
open Go.RowKit
set_option linter.unusedVariables false

theorem infoString : (Tryf.prog.info? 9).map (fun i => (i.zero, i.size, i.bytes)) = some (some (.string ByteArray.empty), 1, 16) := by kernel_rfl

/-- block P is a pool: its names' slice v owns the names, its offset -/
structure Pool (w : World) (β P : Nat) (v : Value) (ss : List ByteArray) (off : Int) : Prop where
  blk : w.heap[P]? = some (.cells #[v, .int .i64 off] 95 (0, 0))
  row : w.ownsRow β 9 1 v ss.length (ss.map Value.string)

theorem cell_of_blk {w : World} {P : Nat} {cs : Array Value} {t : TypeId} (h : w.heap[P]? = some (.cells cs t (0, 0))) (i : Nat) (v : Value) (hi : cs[i]? = some v) : w.cell? ⟨P, i, none⟩ = some v := by
  simp [World.cell?, h, hi]
theorem free_of_blk {w : World} {P : Nat} {cs : Array Value} {t : TypeId} (h : w.heap[P]? = some (.cells cs t (0, 0))) (i : Nat) : w.frozen? ⟨P, i, none⟩ = false := by
  simp [World.frozen?, h]
theorem blk_setCell {w : World} {P : Nat} {cs : Array Value} {t : TypeId} (h : w.heap[P]? = some (.cells cs t (0, 0))) (i : Nat) (u : Value) : (w.setCell ⟨P, i, none⟩ u).heap[P]? = some (.cells (cs.setIfInBounds i u) t (0, 0)) := by
  have hlt := lt_of_block h
  have h' : w.heap[P] = .cells cs t (0, 0) := by simpa [Array.getElem?_eq_getElem hlt] using h
  show (w.heap.modify P _)[P]? = _
  rw [Array.getElem?_eq_getElem (by simpa using hlt), Array.getElem_modify_self, h']
  rfl
theorem shape_of_owned {w : World} {β : Nat} {e : TypeId} {v : Value} {n : Nat} {xs : List Value} {s : Nat} (h : w.ownsRow β e s v n xs) (hn : 0 < n) : ∃ g cap, v = .slice (some ⟨g, 0, none⟩) n cap ∧ β ≤ g := by
  obtain ⟨_, ⟨_, h0⟩ | ⟨g, cap, cur, rfl, hb, _⟩⟩ := h
  · omega
  · exact ⟨g, cap, rfl, hb⟩
theorem alloc_blk (w : World) (o : Obj) : (w.alloc o).heap[w.heap.size]? = some o := (MapKept.heap_alloc w o).1

theorem Pool.kept {w w' : World} {F : Nat → Prop} {β P : Nat} {v : Value} {ss : List ByteArray} {off : Int} (h : Pool w β P v ss off) (t : Turn w w' F) (hP : ¬ F P) (hv : ∀ k, v.ownBlock = some k → ¬ F k) : Pool w' β P v ss off :=
  ⟨t.heap h.blk hP, t.ownsRow h.row hv⟩
/-- the two blocks of a pool are two -/
theorem Pool.apart {w : World} {β P : Nat} {v : Value} {ss : List ByteArray} {off : Int} (h : Pool w β P v ss off) : v.ownBlock ≠ some P := by
  intro e
  obtain ⟨_, ⟨rfl, _⟩ | ⟨g, cap, cur, rfl, _, hg, _⟩⟩ := h.row
  · cases e
  · obtain rfl : g = P := by simpa [Value.ownBlock] using e
    have := h.blk
    rw [hg] at this
    simp at this

def PoolMade (off : Int) (β : Nat) (w : World) (e : Ending) (w' : World) : Prop :=
  ∃ P v, e = .returned (.pointer (some ⟨P, 0, none⟩)) ∧ Pool w' β P v [] off ∧ Turn w w' (fun _ => False) ∧ w.heap.size ≤ P ∧ (∃ g cap, v = .slice (some ⟨g, 0, none⟩) 0 cap ∧ w.heap.size ≤ g)

set_option maxRecDepth 100000 in
theorem newPool_any (off : Int) (β : Nat) (w : World) (hβ : β ≤ w.heap.size) : Calls Tryf.prog 42 #[.int .i64 off] w (PoolMade off β w) := by
  obtain ⟨i0, hi, hz0, hz1, hz2⟩ := info_parts infoString
  go_enter Tryf.func42, Tryf.ntmps42
  go_wp2_with (at_make; refine wpList_make_own _ rfl _ _ 84 rfl w.heap.size 9 i0 (.string ByteArray.empty) 1 Tryf.underlying84 hi hz0 hz1 .i64 .i64 _ 16 rfl rfl rfl ?c2 ?c3 ?c4 ?_)
  case c2 => rw [hz2]; omega
  case c3 => unfold maxLen; omega
  case c4 => simp
  intro w1 hown hgrow
  go_wp2
  go_ret
  have T0 : Turn w w1 (fun _ => False) := (Turn.refl w _).grown hgrow (fun _ h => by cases h)
  have T1 : Turn w1 (w1.alloc (Obj.cells #[Value.slice (some { block := w.heap.size, off := 0 }) 0 16, Value.int IntKind.i64 off] 95)) (fun _ => False) := (Turn.refl w1 _).alloc _
  refine ⟨w1.heap.size, .slice (some ⟨w.heap.size, 0, none⟩) 0 16, rfl, ⟨alloc_blk _ _, ?_⟩, T0.trans T1, T0.size, ⟨w.heap.size, 16, rfl, Nat.le_refl _⟩⟩
  have hlt := (hown.lt _ rfl).2
  have h2 := T1.ownsRow hown (fun k hk => id)
  obtain ⟨l1, ⟨he, _⟩ | ⟨g, cap, cur, he, hb, r⟩⟩ := h2
  · cases he
  · exact ⟨l1, .inr ⟨g, cap, cur, he, by omega, r⟩⟩

def Registered (β P : Nat) (v : Value) (ss : List ByteArray) (off : Int) (s : ByteArray) (w : World) (e : Ending) (w' : World) : Prop :=
  ∃ v', e = .returned (.int .i64 (wrap64 (ss.length + off))) ∧ Pool w' β P v' (ss ++ [s]) off ∧ Turn w w' (fun b => b = P ∨ v.ownBlock = some b) ∧ (v'.ownBlock = v.ownBlock ∨ ∃ g, v'.ownBlock = some g ∧ w.heap.size ≤ g)

set_option maxRecDepth 100000 in
theorem register_any (β P : Nat) (v : Value) (ss : List ByteArray) (off : Int) (s : ByteArray) (w : World) (h : Pool w β P v ss off) (hβ : β ≤ w.heap.size) (hn : ss.length ≤ 1048576) :
    Calls Tryf.prog 44 #[.pointer (some ⟨P, 0, none⟩), .string s] w (Registered β P v ss off s w) := by
  obtain ⟨i0, hi, hz0, hz1, hz2⟩ := info_parts infoString
  have c0 := cell_of_blk h.blk 0 v rfl
  have c1 := cell_of_blk h.blk 1 (.int .i64 off) rfl
  have f0 := free_of_blk h.blk 0
  have hrow := h.row
  go_enter Tryf.func44, Tryf.ntmps44
  go_wp2_with (at_builtin; refine wpList_append_own_at _ rfl _ _ 84 rfl β 9 i0 (.string ByteArray.empty) 1 16 Tryf.underlying84 hi hz0 hz1 hz2 rfl (by decide) v ss.length _ rfl (hrow.alloc _) ⟨w.heap.size, 0, none⟩ 1 1 [.string s] rfl rfl ?c1 ?c2 ?c3 ?c4 ?c5 ?_)
  case c1 => exact cell_one_new _ _ _
  case c2 => intro u hu; simp at hu; subst hu; rfl
  case c3 => unfold maxLen; omega
  case c4 => omega
  case c5 => simp; omega
  intro v' w1 hown hgrow hnil hloc
  have hne := h.apart
  have hPlt := lt_of_block h.blk
  have T0 : Turn w (w.alloc (.cells #[.string s] 9)) (fun b => b = P ∨ v.ownBlock = some b) := (Turn.refl w _).alloc _
  have T1 : Turn w w1 (fun b => b = P ∨ v.ownBlock = some b) := T0.grown hgrow (fun k hk _ => .inr hk)
  have blk1 : w1.heap[P]? = some (.cells #[v, .int .i64 off] 95 (0, 0)) := by
    rw [hgrow.block P (by simp; omega) (fun e => hne e.symm)]
    exact (Below.heap_alloc w _ P hPlt).trans h.blk
  have d0 := cell_of_blk blk1 0 v rfl
  have d1 := cell_of_blk blk1 1 (.int .i64 off) rfl
  have g0 := free_of_blk blk1 0
  have hlen : (ss.map Value.string ++ [Value.string s]) = (ss ++ [s]).map Value.string := by simp
  obtain ⟨g, cap, rfl, hg⟩ := shape_of_owned hown (by omega)
  have hne' : (Value.slice (some ⟨g, 0, none⟩) (ss.length + 1) cap).ownBlock ≠ some P := by
    rcases hloc with e | e
    · rw [e]; exact hne
    · rw [e]; simp; omega
  have hrow2 := ownsRow_setCell_other hown (a := ⟨P, 0, none⟩) hne' (.slice (some ⟨g, 0, none⟩) (ss.length + 1) cap)
  have hblk2 := blk_setCell blk1 0 (.slice (some ⟨g, 0, none⟩) (ss.length + 1) cap)
  have T2 := T1.setCell (p := ⟨P, 0, none⟩) (fun _ => .inl rfl) (.slice (some ⟨g, 0, none⟩) (ss.length + 1) cap)
  have z1 : (0 : Int) ≤ (ss.length : Int) + 1 := by omega
  have z2 : (ss.length : Int) + 1 ≤ 1048577 := by omega
  have H1 := Lib.hid hrow2
  have H2 := Lib.hid hblk2
  have H3 := Lib.hid hlen
  have H4 := Lib.hid hloc
  clear hrow2 hblk2 hlen hloc hown hgrow hnil hi hz0 hz1 hz2 c0 c1 f0 blk1 hne hne'
  go_wp2
  go_quiet (fail)
  go_wp2
  go_ret
  refine ⟨.slice (some ⟨g, 0, none⟩) (ss.length + 1) cap, rfl, ⟨H2.out, ?_⟩, T2.trans' (G := fun _ => False) ⟨rfl, rfl, rfl, Nat.le_refl _, fun _ _ _ => rfl⟩ (fun _ _ h => h.elim), ?_⟩
  · rw [List.length_append, ← H3.out]; exact H1.out
  · rcases H4.out with e | e
    · exact .inl e
    · exact .inr ⟨_, e, by omega⟩

def GotInt (r : Int) (w : World) (e : Ending) (w' : World) : Prop := e = .returned (.int .i64 r) ∧ ∃ q, w.drewN q = w'

theorem lastIndex_any (β P : Nat) (v : Value) (ss : List ByteArray) (off : Int) (w : World) (h : Pool w β P v ss off) (hs : ∃ ao cap, v = .slice ao ss.length cap) (r : Int) (hr : wrap64 (off + ss.length) = r) :
    Calls Tryf.prog 37 #[.pointer (some ⟨P, 0, none⟩)] w (GotInt r w) := by
  obtain ⟨ao, cap, rfl⟩ := hs
  have c0 := cell_of_blk h.blk 0 _ rfl
  have c1 := cell_of_blk h.blk 1 (.int .i64 off) rfl
  have HR := Lib.hid hr
  clear hr
  go_enter Tryf.func37, Tryf.ntmps37
  go_wp2
  go_quiet (fail)
  go_wp2
  go_ret
  exact ⟨by rw [← HR.out]; rfl, _, rfl⟩

theorem Pool.slice {w : World} {β P : Nat} {v : Value} {ss : List ByteArray} {off : Int} (h : Pool w β P v ss off) : ∃ ao cap, v = .slice ao ss.length cap := by
  obtain ⟨_, ⟨rfl, h0⟩ | ⟨g, cap, cur, rfl, hb, _⟩⟩ := h.row
  · exact ⟨none, 0, by rw [h0]⟩
  · exact ⟨_, cap, rfl⟩

theorem Pool.strs {w : World} {β P : Nat} {ao : Option Addr} {cap : Nat} {ss : List ByteArray} {off : Int} (h : Pool w β P (.slice ao ss.length cap) ss off) : Strs w ao ss := by
  intro k hk
  have hrow := h.row
  obtain ⟨_, ⟨e, h0⟩ | ⟨g, cap', cur, e, hb, hg⟩⟩ := hrow
  · omega
  · obtain ⟨rfl, rfl⟩ : ao = some ⟨g, 0, none⟩ ∧ cap = cap' := by simpa using e
    refine ⟨g, 0, rfl, ?_⟩
    rw [Nat.zero_add, h.row.cellAt k (by omega)]
    simp [List.getD, hk]


end Go.Proofs.YtabienikffakiaaFmt
