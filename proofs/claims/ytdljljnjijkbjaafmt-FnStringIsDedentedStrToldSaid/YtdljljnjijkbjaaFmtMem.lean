/- Words on memory: what a slice of strings that came in reads as; which blocks a call has turned; small posts. Over any program. No condition. -/
import Derived.WalkKit
import Derived.ProofKit
import Derived.Maps.AppendAt
import Derived.Lib.Hide
namespace Go.Proofs.YtdljljnjijkbjaaFmt
open Go.RowKit
set_option linter.unusedVariables false

/-- the elements of a slice of strings -/
def Strs (w : World) (ao : Option Addr) (L : List ByteArray) : Prop :=
  ∀ k, k < L.length → ∃ b off, ao = some ⟨b, off, none⟩ ∧ w.cell? ⟨b, off + k, none⟩ = some (.string (L.getD k ByteArray.empty))

/-- what the frame hands over of a slice of strings that came in: 'ss' all that lies up to the capacity -/
def IsStrs (w : World) (a : Option Addr) (len cap : Nat) (ss : List ByteArray) : Prop :=
  (a = none ∧ len = 0 ∧ cap = 0 ∧ ss = []) ∨
  ∃ x, a = some x ∧ len ≤ cap ∧ cap ≤ maxLen ∧ ss.length = cap ∧ (∀ i, i < ss.length → w.cell? (x.add i) = some (.string (ss.getD i ByteArray.empty))) ∧ ∀ s ∈ ss, s.size ≤ maxLen

theorem IsStrs.open {w : World} {a : Option Addr} {len cap : Nat} {ss : List ByteArray} (h : IsStrs w a len cap ss) :
    ∃ L : List ByteArray, L.length = len ∧ Strs w a L ∧ (∀ s ∈ L, s.size ≤ maxLen) ∧ len ≤ maxLen ∧ (a = none → len = 0 ∧ cap = 0) := by
  rcases h with ⟨rfl, rfl, rfl, rfl⟩ | ⟨x, rfl, hl, hm, hz, hcell, hws⟩
  · exact ⟨[], rfl, fun k hk => absurd hk (by simp), fun s hs => absurd hs (by simp), by unfold maxLen; omega, fun _ => ⟨rfl, rfl⟩⟩
  · refine ⟨ss.take len, by simp; omega, ?_, fun s hs => hws s (List.mem_of_mem_take hs), by omega, fun h => by cases h⟩
    intro k hk
    have hk' : k < len := by simp at hk; omega
    have hc := hcell k (by omega)
    have hc0 := hcell 0 (by omega)
    obtain ⟨b, off, spot⟩ := x
    have hspot : spot = none := by simpa [Addr.add] using World.cell?_spot hc0
    subst hspot
    refine ⟨b, off, rfl, ?_⟩
    have e : (ss.take len).getD k ByteArray.empty = ss.getD k ByteArray.empty := by
      simp [List.getD, hk']
    rw [e, ← hc]
    congr 1
    by_cases h0 : k = 0
    · subst h0; simp [Addr.add]
    · simp [Addr.add, h0]

/-- which of the blocks that were there have turned: at most those in F -/
structure Turn (w w' : World) (F : Nat → Prop) : Prop where
  os : w'.os = w.os
  tape : w'.tape = w.tape
  output : w'.output = w.output
  size : w.heap.size ≤ w'.heap.size
  block : ∀ k, k < w.heap.size → ¬ F k → w'.heap[k]? = w.heap[k]?

theorem Turn.refl (w : World) (F : Nat → Prop) : Turn w w F := ⟨rfl, rfl, rfl, Nat.le_refl _, fun _ _ _ => rfl⟩
theorem Turn.trans {a b c : World} {F : Nat → Prop} (h : Turn a b F) (k : Turn b c F) : Turn a c F :=
  ⟨k.os.trans h.os, k.tape.trans h.tape, k.output.trans h.output, Nat.le_trans h.size k.size,
    fun j hj hf => (k.block j (Nat.lt_of_lt_of_le hj h.size) hf).trans (h.block j hj hf)⟩
/-- a later turn may also touch what is new -/
theorem Turn.trans' {a b c : World} {F G : Nat → Prop} (h : Turn a b F) (k : Turn b c G) (hG : ∀ j, j < a.heap.size → G j → F j) : Turn a c F :=
  ⟨k.os.trans h.os, k.tape.trans h.tape, k.output.trans h.output, Nat.le_trans h.size k.size,
    fun j hj hf => (k.block j (Nat.lt_of_lt_of_le hj h.size) (fun g => hf (hG j hj g))).trans (h.block j hj hf)⟩
theorem Turn.mono {a b : World} {F G : Nat → Prop} (h : Turn a b F) (hG : ∀ j, j < a.heap.size → F j → G j) : Turn a b G :=
  ⟨h.os, h.tape, h.output, h.size, fun j hj hg => h.block j hj (fun f => hg (hG j hj f))⟩
theorem Turn.drew {a b : World} {F : Nat → Prop} (h : Turn a b F) : Turn a b.drew F := ⟨h.os, h.tape, h.output, h.size, h.block⟩
theorem Turn.alloc {a b : World} {F : Nat → Prop} (h : Turn a b F) (o : Obj) : Turn a (b.alloc o) F :=
  ⟨h.os, h.tape, h.output, by have := h.size; simp; omega, fun j hj hf => (Below.heap_alloc b o j (Nat.lt_of_lt_of_le hj h.size)).trans (h.block j hj hf)⟩
theorem Turn.setCell {a b : World} {F : Nat → Prop} (h : Turn a b F) {p : Addr} (hp : p.block < a.heap.size → F p.block) (u : Value) : Turn a (b.setCell p u) F :=
  ⟨h.os, h.tape, h.output, by have := h.size; simpa using this,
    fun j hj hf => (Below.heap_setCell b p u j (fun e => hf (e ▸ hp (e ▸ hj)))).trans (h.block j hj hf)⟩
theorem Turn.grown {a b c : World} {F : Nat → Prop} {row : Option Nat} (h : Turn a b F) (g : b.grownBy c row) (hr : ∀ k, row = some k → k < a.heap.size → F k) : Turn a c F :=
  ⟨g.os.trans h.os, g.tape.trans h.tape, g.output.trans h.output, Nat.le_trans h.size g.size,
    fun j hj hf => (g.block j (Nat.lt_of_lt_of_le hj h.size) (fun e => hf (hr j e.symm hj))).trans (h.block j hj hf)⟩
theorem Turn.below {a b : World} {F : Nat → Prop} {B : Nat} (h : Turn a b F) (hB : B ≤ a.heap.size) (hF : ∀ j, F j → B ≤ j) : Below B a b :=
  ⟨h.os, h.tape, h.output, h.size, fun k hk => h.block k (Nat.lt_of_lt_of_le hk hB) (fun f => by have := hF k f; omega)⟩
theorem Turn.cell {a b : World} {F : Nat → Prop} (h : Turn a b F) {p : Addr} {v : Value} (hc : a.cell? p = some v) (hf : ¬ F p.block) : b.cell? p = some v := by
  rw [← hc]
  exact World.cell?_of_block (h.block _ (World.block_lt_of_cell? _ _ hc) hf)
theorem Turn.heap {a b : World} {F : Nat → Prop} (h : Turn a b F) {k : Nat} {o : Obj} (hk : a.heap[k]? = some o) (hf : ¬ F k) : b.heap[k]? = some o :=
  (h.block k (lt_of_block hk) hf).trans hk
theorem Turn.ownsRow {a b : World} {F : Nat → Prop} (h : Turn a b F) {β : Nat} {e : TypeId} {s : Nat} {v : Value} {n : Nat} {xs : List Value} (ho : a.ownsRow β e s v n xs) (hf : ∀ k, v.ownBlock = some k → ¬ F k) : b.ownsRow β e s v n xs := by
  obtain ⟨h1, h2 | ⟨g, cap, cur, rfl, hb, hg, r⟩⟩ := ho
  · exact ⟨h1, .inl h2⟩
  · exact ⟨h1, .inr ⟨g, cap, cur, rfl, hb, h.heap hg (hf g rfl), r⟩⟩
theorem Turn.strs {a b : World} {F : Nat → Prop} (h : Turn a b F) {ao : Option Addr} {L : List ByteArray} (hs : Strs a ao L) (hf : ∀ x, ao = some x → ¬ F x.block) : Strs b ao L := by
  intro k hk
  obtain ⟨bl, off, rfl, hc⟩ := hs k hk
  exact ⟨bl, off, rfl, h.cell hc (hf ⟨bl, off, none⟩ rfl)⟩

/-- a bool comes back; where it is true P is known; the world stands -/
def SomeBool (P : Prop) (w : World) (e : Ending) (w' : World) : Prop := ∃ b : Bool, e = .returned (.bool b) ∧ (b = true → P) ∧ w = w'

def sumSizes (L : List ByteArray) : Nat := (L.map ByteArray.size).sum
theorem sumSizes_nil : sumSizes [] = 0 := rfl
theorem sumSizes_take_succ (L : List ByteArray) (k : Nat) (h : k < L.length) : sumSizes (L.take (k + 1)) = sumSizes (L.take k) + (L.getD k ByteArray.empty).size := by
  unfold sumSizes
  rw [List.take_succ_eq_append_getElem h, List.map_append, List.sum_append]
  simp [List.getD, h]
theorem sumSizes_mem {L : List ByteArray} {s : ByteArray} (h : s ∈ L) : s.size ≤ sumSizes L := by
  unfold sumSizes
  induction L with
  | nil => cases h
  | cons x r ih =>
    rw [List.map_cons, List.sum_cons]
    rcases List.mem_cons.1 h with rfl | h'
    · omega
    · have := ih h'; omega

end Go.Proofs.YtdljljnjijkbjaaFmt
