/- A prototype under construction by zzBuild: what its block, its two growing rows and its locals' blocks hold; each append's step. -/
import Derived.Test.YtdljljnjijkbjaaFmtHelpC15
import Derived.Test.YtdljljnjijkbjaaFmtDrawnEndC
namespace Go.Proofs.YtdljljnjijkbjaaFmt
open Go.RowKit Go.Kit Go.Extern.Stop Go.Stop Go.Extern
set_option linter.unusedVariables false

def dCells (s : ByteArray) (nu np nr : Int) (v : Nat → Value) (a b : Value) : Array Value :=
  #[.string s, .int .i64 0, .int .i64 0, .int .u8 nu, .int .u8 np, .int .u8 0, .int .u8 nr, v 7, v 8, v 9, v 10, a, v 12, b, v 14]
def ptrs (ps : List Nat) : List Value := ps.map fun b => .pointer (some ⟨b, 0, none⟩)
def strs (L : List ByteArray) : List Value := L.map Value.string
def lCells (x : ByteArray) (k : Nat) : Array Value := #[.string x, .int .i64 k, .int .i64 ((k : Int) + 1)]

structure Bd (w0 w : World) (p g1 n1 c1 g2 n2 c2 : Nat) (s : ByteArray) (nu np nr : Int) (v : Nat → Value) (ps : List Nat) (ls us : List ByteArray) : Prop where
  blk : w.heap[p]? = some (.cells (dCells s nu np nr v (.slice (some ⟨g1, 0, none⟩) n1 c1) (.slice (some ⟨g2, 0, none⟩) n2 c2)) 33 (0, 0))
  ge : w0.heap.size ≤ p
  row1 : w.ownsRow w0.heap.size 48 1 (.slice (some ⟨g1, 0, none⟩) n1 c1) n1 (ptrs ps)
  row2 : w.ownsRow w0.heap.size 9 1 (.slice (some ⟨g2, 0, none⟩) n2 c2) n2 (strs us)
  locs : ∀ j, j < ps.length → w.heap[ps.getD j 0]? = some (.cells (lCells (ls.getD j ByteArray.empty) j) 50 (0, 0))
  turn : Turn w0 w (fun _ => False)

theorem Bd.l1 {w0 w : World} {p g1 n1 c1 g2 n2 c2 : Nat} {s : ByteArray} {nu np nr : Int} {v : Nat → Value} {ps : List Nat} {ls us : List ByteArray} (h : Bd w0 w p g1 n1 c1 g2 n2 c2 s nu np nr v ps ls us) : ps.length = n1 := by
  have := h.row1.1
  simpa [ptrs] using this
theorem Bd.l2 {w0 w : World} {p g1 n1 c1 g2 n2 c2 : Nat} {s : ByteArray} {nu np nr : Int} {v : Nat → Value} {ps : List Nat} {ls us : List ByteArray} (h : Bd w0 w p g1 n1 c1 g2 n2 c2 s nu np nr v ps ls us) : us.length = n2 := by
  have := h.row2.1
  simpa [strs] using this

theorem ne_type {w : World} {x y : Nat} {cx cy : Array Value} {tx ty : TypeId} (hx : w.heap[x]? = some (.cells cx tx (0, 0))) (hy : w.heap[y]? = some (.cells cy ty (0, 0))) (h : tx ≠ ty) : x ≠ y := by
  rintro rfl
  rw [hx] at hy
  simp at hy
  exact h hy.2

theorem Bd.start {w0 w1 : World} {p : Nat} {s : ByteArray} {g : Nat → Nat} (h : PS w1 w0.heap.size p s (v0 g) (fun _ => [])) (T : Turn w0 w1 (fun _ => False)) (nu np nr : Int) (ls : List ByteArray) :
    Bd w0 (((w1.setCell ⟨p, 3, none⟩ (.int .u8 nu)).setCell ⟨p, 4, none⟩ (.int .u8 np)).setCell ⟨p, 6, none⟩ (.int .u8 nr)) p (g 11) 0 16 (g 13) 0 16 s nu np nr (v0 g) [] ls [] := by
  have S : Turn w1 (((w1.setCell ⟨p, 3, none⟩ (.int .u8 nu)).setCell ⟨p, 4, none⟩ (.int .u8 np)).setCell ⟨p, 6, none⟩ (.int .u8 nr)) (fun j => j = p) :=
    (((Turn.refl w1 (fun j => j = p)).setCell (p := ⟨p, 3, none⟩) (fun _ => rfl) _).setCell (p := ⟨p, 4, none⟩) (fun _ => rfl) _).setCell (p := ⟨p, 6, none⟩) (fun _ => rfl) _
  have b1 := blk_setCell h.blk 3 (.int .u8 nu)
  have b2 := blk_setCell b1 4 (.int .u8 np)
  have b3 := blk_setCell b2 6 (.int .u8 nr)
  have hge := h.ge
  refine ⟨b3, h.ge, ?_, ?_, fun j hj => absurd hj (by simp), T.trans' S (fun j hj e => by omega)⟩
  · obtain ⟨g', n, cap, e1, e2, e3⟩ := h.row 11 (by decide) (by decide)
    have hn := h.row_ne 11 (by decide) (by decide) h.blk
    simp only [v0, Value.slice.injEq, Option.some.injEq, Addr.mk.injEq, and_true] at e1
    obtain ⟨rfl, rfl, rfl⟩ := e1
    exact S.ownsRow e2 (fun j hj e => hn (e ▸ hj))
  · obtain ⟨g', n, cap, e1, e2, e3⟩ := h.row 13 (by decide) (by decide)
    have hn := h.row_ne 13 (by decide) (by decide) h.blk
    simp only [v0, Value.slice.injEq, Option.some.injEq, Addr.mk.injEq, and_true] at e1
    obtain ⟨rfl, rfl, rfl⟩ := e1
    exact S.ownsRow e2 (fun j hj e => hn (e ▸ hj))

theorem Bd.step1 {w0 w w3 : World} {p g1 k c1 g2 n2 c2 b q c : Nat} {s x : ByteArray} {nu np nr : Int} {v : Nat → Value} {ps : List Nat} {ls us : List ByteArray} (h : Bd w0 w p g1 k c1 g2 n2 c2 s nu np nr v ps ls us) (T : Turn w w3 (fun j => j = g1))
    (hx : x = ls.getD k ByteArray.empty) (hb : w3.heap[b]? = some (.cells (lCells x k) 50 (0, 0))) (hq : w3.ownsRow w0.heap.size 48 1 (.slice (some ⟨q, 0, none⟩) (k + 1) c) (k + 1) (ptrs ps ++ [.pointer (some ⟨b, 0, none⟩)])) :
    Bd w0 (w3.setCell ⟨p, 11, none⟩ (.slice (some ⟨q, 0, none⟩) (k + 1) c)) p q (k + 1) c g2 n2 c2 s nu np nr v (ps ++ [b]) ls us := by
  have hl := h.l1
  obtain ⟨u1, hu1⟩ := owned_elem h.row1
  obtain ⟨u2, hu2⟩ := owned_elem h.row2
  obtain ⟨uq, huq⟩ := owned_elem hq
  have npg : p ≠ g1 := ne_type h.blk hu1 (by decide)
  have n21 : g2 ≠ g1 := ne_type hu2 hu1 (by decide)
  have n2p : g2 ≠ p := ne_type hu2 h.blk (by decide)
  have blk3 := T.heap h.blk npg
  have nqp : q ≠ p := ne_type huq blk3 (by decide)
  have nbp : b ≠ p := ne_type hb blk3 (by decide)
  have S : Turn w3 (w3.setCell ⟨p, 11, none⟩ (.slice (some ⟨q, 0, none⟩) (k + 1) c)) (fun j => j = p) := (Turn.refl w3 (fun j => j = p)).setCell (p := ⟨p, 11, none⟩) (fun _ => rfl) _
  have hg1 := (h.row1.lt g1 rfl).1
  refine ⟨?_, h.ge, ?_, ?_, ?_, ?_⟩
  · rw [blk_setCell blk3 11]
    rfl
  · have := S.ownsRow hq (fun j hj e => nqp (by rw [← e]; simpa [Value.ownBlock] using hj))
    simpa [ptrs] using this
  · exact S.ownsRow (T.ownsRow h.row2 (fun j hj e => n21 (by rw [← e]; simpa [Value.ownBlock] using hj))) (fun j hj e => n2p (by rw [← e]; simpa [Value.ownBlock] using hj))
  · intro j hj
    by_cases e : j < ps.length
    · have hp := h.locs j e
      have e1 : (ps ++ [b]).getD j 0 = ps.getD j 0 := by simp only [List.getD]; rw [List.getElem?_append_left e]
      rw [e1]
      have n1 : ps.getD j 0 ≠ g1 := ne_type hp hu1 (by decide)
      have n2 : ps.getD j 0 ≠ p := ne_type hp h.blk (by decide)
      exact S.heap (T.heap hp n1) n2
    · have ej : j = ps.length := by simp at hj; omega
      subst ej
      have e1 : (ps ++ [b]).getD ps.length 0 = b := by simp [List.getD]
      rw [e1, hl, ← hx]
      exact S.heap hb nbp
  · exact (h.turn.trans' T (fun j hj e => by omega)).trans' S (fun j hj e => by have := h.ge; omega)

theorem Bd.step2 {w0 w w3 : World} {p g1 n1 c1 g2 k c2 q c : Nat} {s x : ByteArray} {nu np nr : Int} {v : Nat → Value} {ps : List Nat} {ls us : List ByteArray} (h : Bd w0 w p g1 n1 c1 g2 k c2 s nu np nr v ps ls us) (T : Turn w w3 (fun j => j = g2))
    (hq : w3.ownsRow w0.heap.size 9 1 (.slice (some ⟨q, 0, none⟩) (k + 1) c) (k + 1) (strs us ++ [.string x])) :
    Bd w0 (w3.setCell ⟨p, 13, none⟩ (.slice (some ⟨q, 0, none⟩) (k + 1) c)) p g1 n1 c1 q (k + 1) c s nu np nr v ps ls (us ++ [x]) := by
  obtain ⟨u1, hu1⟩ := owned_elem h.row1
  obtain ⟨u2, hu2⟩ := owned_elem h.row2
  obtain ⟨uq, huq⟩ := owned_elem hq
  have npg : p ≠ g2 := ne_type h.blk hu2 (by decide)
  have n12 : g1 ≠ g2 := ne_type hu1 hu2 (by decide)
  have n1p : g1 ≠ p := ne_type hu1 h.blk (by decide)
  have blk3 := T.heap h.blk npg
  have nqp : q ≠ p := ne_type huq blk3 (by decide)
  have S : Turn w3 (w3.setCell ⟨p, 13, none⟩ (.slice (some ⟨q, 0, none⟩) (k + 1) c)) (fun j => j = p) := (Turn.refl w3 (fun j => j = p)).setCell (p := ⟨p, 13, none⟩) (fun _ => rfl) _
  have hg2 := (h.row2.lt g2 rfl).1
  refine ⟨?_, h.ge, ?_, ?_, ?_, ?_⟩
  · rw [blk_setCell blk3 13]
    rfl
  · exact S.ownsRow (T.ownsRow h.row1 (fun j hj e => n12 (by rw [← e]; simpa [Value.ownBlock] using hj))) (fun j hj e => n1p (by rw [← e]; simpa [Value.ownBlock] using hj))
  · have := S.ownsRow hq (fun j hj e => nqp (by rw [← e]; simpa [Value.ownBlock] using hj))
    simpa [strs] using this
  · intro j hj
    have hp := h.locs j hj
    have n1 : ps.getD j 0 ≠ g2 := ne_type hp hu2 (by decide)
    have n2 : ps.getD j 0 ≠ p := ne_type hp h.blk (by decide)
    exact S.heap (T.heap hp n1) n2
  · exact (h.turn.trans' T (fun j hj e => by omega)).trans' S (fun j hj e => by have := h.ge; omega)

theorem Bd.pr {w0 w : World} {p g1 n1 c1 g2 n2 c2 g7 c7 g8 c8 : Nat} {s : ByteArray} {nu np nr : Int} {v : Nat → Value} {ps : List Nat} {ls us : List ByteArray} (h : Bd w0 w p g1 n1 c1 g2 n2 c2 s nu np nr v ps ls us) (hn1 : n1 = ls.length) (hv7 : v 7 = .slice (some ⟨g7, 0, none⟩) 0 c7) (hv8 : v 8 = .slice (some ⟨g8, 0, none⟩) 0 c8)
    (bnu : 0 ≤ nu ∧ nu ≤ 255) (bnp : 0 ≤ np ∧ np ≤ 255) (bnr : 0 ≤ nr ∧ nr ≤ 255) (bls : ls.length ≤ 4096 ∧ ∀ s ∈ ls, s.size ≤ 1048576) (bus : us.length ≤ 4096 ∧ ∀ s ∈ us, s.size ≤ 1048576) :
    Pr w p nu np nr (some ⟨g1, 0, none⟩) c1 ps ls (some ⟨g2, 0, none⟩) c2 us (some ⟨g8, 0, none⟩) c8 (some ⟨g7, 0, none⟩) c7 := by
  have hl1 := h.l1
  have hl2 := h.l2
  subst hn1
  refine ⟨cell_of_blk h.blk 3 _ rfl, cell_of_blk h.blk 4 _ rfl, cell_of_blk h.blk 6 _ rfl, cell_of_blk h.blk 11 _ rfl, ?_, ?_, ?_, ?_, ?_, bnu, bnp, bnr, bls, bus⟩
  · rw [hl2]; exact cell_of_blk h.blk 13 _ rfl
  · rw [← hv8]; exact cell_of_blk h.blk 8 _ rfl
  · rw [← hv7]; exact cell_of_blk h.blk 7 _ rfl
  · intro k hk
    refine ⟨g1, 0, rfl, ?_, ?_⟩
    · rw [Nat.zero_add, h.row1.cellAt k (by omega)]
      have hk' : k < ps.length := by omega
      simp [ptrs, List.getD, hk']
    · exact cell_of_blk (h.locs k (by omega)) 0 _ rfl
  · intro k hk
    refine ⟨g2, 0, rfl, ?_⟩
    rw [Nat.zero_add, h.row2.cellAt k (by omega)]
    simp [strs, List.getD, hk]
end Go.Proofs.YtdljljnjijkbjaaFmt
