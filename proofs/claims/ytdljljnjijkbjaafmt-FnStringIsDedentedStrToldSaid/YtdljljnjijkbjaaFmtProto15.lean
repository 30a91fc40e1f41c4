/- newFunctionProto's contract with its rows; a prototype's rows as they grow. -/
import Derived.Test.YtdljljnjijkbjaaFmtRows
import Derived.Test.YtdljljnjijkbjaaFmtMem
import Derived.Test.YtdljljnjijkbjaaFmtDrawn
import Derived.WalkKit
import Derived.ProofKit
import Derived.WalkLawsBesides
import Derived.WalkSpells
import Derived.Handy
import Derived.Lib.Hide
namespace Go.Proofs.YtdljljnjijkbjaaFmt
open Go.RowKit
set_option linter.unusedVariables false

theorem infoString : (Tryf.prog.info? 9).map (fun i => (i.zero, i.size, i.bytes)) = some (some (.string ByteArray.empty), 1, 16) := by kernel_rfl

theorem cell_of_blk {w : World} {P : Nat} {cs : Array Value} {t : TypeId} (h : w.heap[P]? = some (.cells cs t (0, 0))) (i : Nat) (v : Value) (hi : cs[i]? = some v) : w.cell? ⟨P, i, none⟩ = some v := by
  simp [World.cell?, h, hi]
theorem free_of_blk {w : World} {P : Nat} {cs : Array Value} {t : TypeId} (h : w.heap[P]? = some (.cells cs t (0, 0))) (i : Nat) : w.frozen? ⟨P, i, none⟩ = false := by
  simp [World.frozen?, h]
theorem blk_setCell {w : World} {P : Nat} {cs : Array Value} {t : TypeId} (h : w.heap[P]? = some (.cells cs t (0, 0))) (i : Nat) (u : Value) : (w.setCell ⟨P, i, none⟩ u).heap[P]? = some (.cells (cs.setIfInBounds i u) t (0, 0)) := by
  have hlt := lt_of_block h
  have h' : w.heap[P] = .cells cs t (0, 0) := by simpa [Array.getElem?_eq_getElem hlt] using h
  show (w.heap.modify P _)[P]? = _
  rw [Array.getElem?_eq_getElem (by simpa using hlt), Array.getElem_modify_self, h']
  rfl
theorem shape_of_owned {w : World} {β : Nat} {e : TypeId} {v : Value} {n : Nat} {xs : List Value} {s : Nat} (h : w.ownsRow β e s v n xs) (hn : 0 < n) : ∃ g cap, v = .slice (some ⟨g, 0, none⟩) n cap ∧ β ≤ g := by
  obtain ⟨_, ⟨_, h0⟩ | ⟨g, cap, cur, rfl, hb, _⟩⟩ := h
  · omega
  · exact ⟨g, cap, rfl, hb⟩
theorem alloc_blk (w : World) (o : Obj) : (w.alloc o).heap[w.heap.size]? = some o := (MapKept.heap_alloc w o).1

theorem infoU32 : (Tryf.prog.info? 56).map (fun i => (i.zero, i.size, i.bytes)) = some (some (.int .u32 0), 1, 4) := by kernel_rfl
theorem infoInt : (Tryf.prog.info? 3).map (fun i => (i.zero, i.size, i.bytes)) = some (some (.int .i64 0), 1, 8) := by kernel_rfl

/-- a make of an empty slice with room for 'cap', at a drawn region's step -/
theorem make_step (t e : TypeId) (z : Value) (size bytes cap : Nat) (h1 : Tryf.prog.underlying t = some (.slice e)) (hinfo : (Tryf.prog.info? e).map (fun i => (i.zero, i.size, i.bytes)) = some (some z, size, bytes)) (o : Oper) (hop : o.op = .makeSlice t (.const (.int .i64 0)) (.const (.int .i64 cap)))
    (b2 : bytes * cap ≤ 281474976710656) (b3 : cap ≤ maxLen) (β : Nat) (a : Act) (w : World) (hβ : β ≤ w.heap.size) :
    ∃ v w', (execOp a.eval o).run Tryf.prog w = .ok (.value v) w' ∧ (∃ g, v = .slice (some ⟨g, 0, none⟩) 0 cap ∧ w'.ownsRow β e size v 0 []) ∧ Turn w w' (fun _ => False) := by
  obtain ⟨i, hi, hz0, hz1, hz2⟩ := info_parts hinfo
  obtain ⟨w', hrun, r1, r2⟩ := run_make_own (P := Tryf.prog) w β t e i z size h1 hi hz0 hz1 .i64 .i64 cap (by rw [hz2]; exact b2) b3 hβ
  refine ⟨_, w', ?_, ⟨w.heap.size, rfl, r1⟩, (Turn.refl w _).grown r2 (fun _ h => by cases h)⟩
  simp [execOp, hop, Act.eval, hrun, Result.andThen]

theorem infoLV : (Tryf.prog.info? 55).map (fun i => (i.zero, i.size, i.bytes)) = some (some .nilIface, 1, 16) := by kernel_rfl
theorem infoPFP : (Tryf.prog.info? 23).map (fun i => (i.zero, i.size, i.bytes)) = some (some (.pointer none), 1, 8) := by kernel_rfl
theorem infoPDL : (Tryf.prog.info? 48).map (fun i => (i.zero, i.size, i.bytes)) = some (some (.pointer none), 1, 8) := by kernel_rfl
theorem infoDC : (Tryf.prog.info? 100).map (fun i => (i.zero, i.size, i.bytes)) = some (some (.agg #[.string ByteArray.empty, .int .i64 0]), 2, 24) := by kernel_rfl

theorem nondst {ops : Array Oper} {t : Tmp} (h : ops.all (fun o => o.dst != some t) = true) : ∀ (j : Nat) oj, ops[j]? = some oj → oj.dst ≠ some t := by
  intro j oj hj
  have h1 := Array.all_eq_true_iff_forall_mem.1 h oj (Array.mem_of_getElem? hj)
  simpa using h1

/-- the element types of a prototype's rows, by the field's number -/
def el : Nat → TypeId
  | 7 => 56
  | 8 => 55
  | 9 => 23
  | 10 => 3
  | 11 => 48
  | 12 => 100
  | 13 => 9
  | _ => 9
def sz : Nat → Nat
  | 12 => 2
  | _ => 1
def cp : Nat → Nat
  | 7 => 128
  | 8 => 32
  | 9 => 16
  | 10 => 128
  | 11 => 16
  | 12 => 128
  | 13 => 16
  | _ => 32

def pCells (s : ByteArray) (v : Nat → Value) : Array Value :=
  #[.string s, .int .i64 0, .int .i64 0, .int .u8 0, .int .u8 0, .int .u8 0, .int .u8 2, v 7, v 8, v 9, v 10, v 11, v 12, v 13, v 14]

/-- block p is a prototype: its eight rows, apart from each other -/
structure PS (w : World) (β p : Nat) (s : ByteArray) (v : Nat → Value) (xs : Nat → List Value) : Prop where
  ge : β ≤ p
  blk : w.heap[p]? = some (.cells (pCells s v) 33 (0, 0))
  row : ∀ f, 7 ≤ f → f ≤ 14 → ∃ g n cap, v f = .slice (some ⟨g, 0, none⟩) n cap ∧ w.ownsRow β (el f) (sz f) (v f) n (xs f) ∧ n * sz f = (xs f).length
  apart : ∀ f f', 7 ≤ f → f ≤ 14 → 7 ≤ f' → f' ≤ 14 → f ≠ f' → (v f).ownBlock ≠ (v f').ownBlock

theorem owned_elem {w : World} {β g n cap s : Nat} {e : TypeId} {xs : List Value} (h : w.ownsRow β e s (.slice (some ⟨g, 0, none⟩) n cap) n xs) : ∃ cur, w.heap[g]? = some (.cells cur e (0, 0)) := by
  obtain ⟨_, ⟨h1, _⟩ | ⟨g', cap', cur, h1, _, hg, _⟩⟩ := h
  · cases h1
  · simp only [Value.slice.injEq, Option.some.injEq, Addr.mk.injEq, and_true, true_and] at h1
    obtain ⟨rfl, rfl⟩ := h1
    exact ⟨cur, hg⟩

theorem el_ne (f : Nat) (h : 7 ≤ f) (h' : f ≤ 14) : el f ≠ 33 := by
  rcases (by omega : f = 7 ∨ f = 8 ∨ f = 9 ∨ f = 10 ∨ f = 11 ∨ f = 12 ∨ f = 13 ∨ f = 14) with rfl | rfl | rfl | rfl | rfl | rfl | rfl | rfl <;> decide

theorem PS.row_ne {w : World} {β p : Nat} {s : ByteArray} {v : Nat → Value} {xs : Nat → List Value} (h : PS w β p s v xs) (f : Nat) (h7 : 7 ≤ f) (h14 : f ≤ 14) {q : Nat} {X : Array Value} (hq : w.heap[q]? = some (.cells X 33 (0, 0))) : (v f).ownBlock ≠ some q := by
  obtain ⟨g, n, cap, hv, ho, _⟩ := h.row f h7 h14
  rw [hv] at ho ⊢
  obtain ⟨cur, hg⟩ := owned_elem ho
  intro e
  obtain rfl : g = q := by simpa [Value.ownBlock] using e
  rw [hg] at hq
  simp at hq
  exact el_ne f h7 h14 hq.2

theorem PS.kept {w w' : World} {β p : Nat} {s : ByteArray} {v : Nat → Value} {xs : Nat → List Value} {G : Nat → Prop} (h : PS w β p s v xs) (t : Turn w w' G) (h1 : ¬ G p) (h2 : ∀ f k, 7 ≤ f → f ≤ 14 → (v f).ownBlock = some k → ¬ G k) : PS w' β p s v xs :=
  ⟨h.ge, t.heap h.blk h1, fun f a b => by
    obtain ⟨g, n, cap, e1, e2, e3⟩ := h.row f a b
    exact ⟨g, n, cap, e1, t.ownsRow e2 (fun k hk => h2 f k a b hk), e3⟩, h.apart⟩

def upd {α : Type} (v : Nat → α) (f : Nat) (x : α) : Nat → α := fun k => if k = f then x else v k
theorem upd_same {α : Type} (v : Nat → α) (f : Nat) (x : α) : upd v f x f = x := by simp [upd]
theorem upd_ne {α : Type} (v : Nat → α) (f k : Nat) (x : α) (h : k ≠ f) : upd v f x k = v k := by simp [upd, h]

/-- a row grown by an append: the field holds the new slice -/
theorem PS.grown {w w1 : World} {β p f n : Nat} {s : ByteArray} {v : Nat → Value} {xs : Nat → List Value} (h : PS w β p s v xs) (h7 : 7 ≤ f) (h14 : f ≤ 14) (tmp : Obj) {v' : Value} {news : List Value}
    (own : w1.ownsRow β (el f) (sz f) v' n (xs f ++ news)) (hn : n * sz f = (xs f ++ news).length) (hv' : ∃ g cap, v' = .slice (some ⟨g, 0, none⟩) n cap) (gr : (w.alloc tmp).grownBy w1 (v f).ownBlock) (loc : v'.ownBlock = (v f).ownBlock ∨ v'.ownBlock = some (w.alloc tmp).heap.size) :
    PS (w1.setCell ⟨p, f, none⟩ v') β p s (upd v f v') (upd xs f (xs f ++ news)) ∧ Turn w (w1.setCell ⟨p, f, none⟩ v') (fun k => k = p ∨ (v f).ownBlock = some k) ∧ ((upd v f v' f).ownBlock = (v f).ownBlock ∨ ∃ k, (upd v f v' f).ownBlock = some k ∧ w.heap.size < k) := by
  have T1 : Turn w w1 (fun k => (v f).ownBlock = some k) := ((Turn.refl w _).alloc tmp).grown gr (fun k hk _ => hk)
  have hp1 : ¬ (v f).ownBlock = some p := h.row_ne f h7 h14 h.blk
  have blk1 := T1.heap h.blk hp1
  have hloc : ∀ k, v'.ownBlock = some k → k ≠ p := by
    intro k hk
    rcases loc with e | e
    · rw [e] at hk
      rintro rfl
      exact hp1 hk
    · rw [e] at hk
      have h1 : (w.alloc tmp).heap.size = k := by simpa using hk
      have h2 := lt_of_block h.blk
      simp at h1
      omega
  have T2 := (T1.mono (G := fun k => k = p ∨ (v f).ownBlock = some k) (fun _ _ h => .inr h)).setCell (p := ⟨p, f, none⟩) (fun _ => .inl rfl) v'
  refine ⟨⟨h.ge, ?_, ?_, ?_⟩, T2, ?_⟩
  · rw [blk_setCell blk1 f v']
    congr 2
    rcases (by omega : f = 7 ∨ f = 8 ∨ f = 9 ∨ f = 10 ∨ f = 11 ∨ f = 12 ∨ f = 13 ∨ f = 14) with rfl | rfl | rfl | rfl | rfl | rfl | rfl | rfl <;> rfl
  · intro k k7 k14
    by_cases e : k = f
    · subst e
      rw [upd_same, upd_same]
      obtain ⟨g, cap, rfl⟩ := hv'
      exact ⟨g, n, cap, rfl, ownsRow_setCell_other own (a := ⟨p, k, none⟩) (by
        intro h
        exact hloc g rfl (by simpa [Value.ownBlock] using h)) _, hn⟩
    · rw [upd_ne _ _ _ _ e, upd_ne _ _ _ _ e]
      obtain ⟨g, m, cap, e1, e2, e3⟩ := h.row k k7 k14
      refine ⟨g, m, cap, e1, T2.ownsRow e2 ?_, e3⟩
      intro x hx h'
      rcases h' with h' | h'
      · exact h.row_ne k k7 k14 h.blk (by rw [hx, h'])
      · exact h.apart k f k7 k14 h7 h14 e (by rw [hx, h'])
  · have fresh : ∀ k, 7 ≤ k → k ≤ 14 → k ≠ f → (v k).ownBlock ≠ v'.ownBlock := by
      intro k k7 k14 e
      rcases loc with e' | e'
      · rw [e']; exact h.apart k f k7 k14 h7 h14 e
      · rw [e']
        obtain ⟨g, m, cap, e1, e2, _⟩ := h.row k k7 k14
        rw [e1] at e2 ⊢
        obtain ⟨cur, hg⟩ := owned_elem e2
        have := lt_of_block hg
        simp [Value.ownBlock]
        omega
    intro a b a7 a14 b7 b14 hab
    by_cases ea : a = f
    · subst ea
      rw [upd_same, upd_ne _ _ _ _ (fun e => hab e.symm)]
      exact (fresh b b7 b14 (fun e => hab e.symm)).symm
    · by_cases eb : b = f
      · subst eb
        rw [upd_same, upd_ne _ _ _ _ ea]
        exact fresh a a7 a14 ea
      · rw [upd_ne _ _ _ _ ea, upd_ne _ _ _ _ eb]
        exact h.apart a b a7 a14 b7 b14 hab
  · rw [upd_same]
    rcases loc with e | e
    · exact .inl e
    · exact .inr ⟨_, e, by simp⟩
end Go.Proofs.YtdljljnjijkbjaaFmt
