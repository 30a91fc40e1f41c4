/- What a slice of integers (or of bools) that came in reads as. Over any program. No condition. -/
import Derived.Test.YtabienikffakiaaFmtMem
namespace Go.Proofs.YtabienikffakiaaFmt
open Go.RowKit
set_option linter.unusedVariables false

/-- the elements of a slice of integers of kind q -/
def Ints (q : IntKind) (w : World) (ao : Option Addr) (L : List Int) : Prop :=
  ∀ k, k < L.length → ∃ b off, ao = some ⟨b, off, none⟩ ∧ w.cell? ⟨b, off + k, none⟩ = some (.int q (L.getD k 0))

/-- what the frame hands over of a slice of integers that came in -/
def IsRow (k : IntKind) (w : World) (a : Option Addr) (len cap : Nat) (zs : List Int) : Prop :=
  (a = none ∧ len = 0 ∧ cap = 0 ∧ zs = []) ∨
  ∃ x, a = some x ∧ len ≤ cap ∧ cap ≤ maxLen ∧ zs.length = cap ∧ (∀ i, i < zs.length → w.cell? (x.add i) = some (.int k (zs.getD i 0))) ∧ ∀ n ∈ zs, (Lit.int k n).wf = true

theorem IsRow.open {q : IntKind} {w : World} {a : Option Addr} {len cap : Nat} {zs : List Int} (h : IsRow q w a len cap zs) :
    ∃ L : List Int, L.length = len ∧ Ints q w a L ∧ (∀ n ∈ L, (Lit.int q n).wf = true) ∧ len ≤ maxLen ∧ (a = none → len = 0 ∧ cap = 0) := by
  rcases h with ⟨rfl, rfl, rfl, rfl⟩ | ⟨x, rfl, hl, hm, hz, hcell, hws⟩
  · exact ⟨[], rfl, fun k hk => absurd hk (by simp), fun s hs => absurd hs (by simp), by unfold maxLen; omega, fun _ => ⟨rfl, rfl⟩⟩
  · refine ⟨zs.take len, by simp; omega, ?_, fun s hs => hws s (List.mem_of_mem_take hs), by omega, fun h => by cases h⟩
    intro k hk
    have hk' : k < len := by simp at hk; omega
    have hc := hcell k (by omega)
    have hc0 := hcell 0 (by omega)
    obtain ⟨b, off, spot⟩ := x
    have hspot : spot = none := by simpa [Addr.add] using World.cell?_spot hc0
    subst hspot
    refine ⟨b, off, rfl, ?_⟩
    have e : (zs.take len).getD k 0 = zs.getD k 0 := by
      simp [List.getD, hk']
    rw [e, ← hc]
    congr 1
    by_cases h0 : k = 0
    · subst h0; simp [Addr.add]
    · simp [Addr.add, h0]

theorem Turn.ints {a b : World} {F : Nat → Prop} (h : Turn a b F) {q : IntKind} {ao : Option Addr} {L : List Int} (hs : Ints q a ao L) (hf : ∀ x, ao = some x → ¬ F x.block) : Ints q b ao L := by
  intro k hk
  obtain ⟨bl, off, rfl, hc⟩ := hs k hk
  exact ⟨bl, off, rfl, h.cell hc (hf ⟨bl, off, none⟩ rfl)⟩
theorem ints_later {q : IntKind} {w w' : World} {a : Option Addr} {L : List Int} (h : Below w.heap.size w w') (S : Ints q w a L) : Ints q w' a L := by
  intro k hk
  obtain ⟨b, o, rfl, hc⟩ := S k hk
  exact ⟨b, o, rfl, (h.cell (p := ⟨b, o + k, none⟩) (World.block_lt_of_cell? _ _ hc)).trans hc⟩
theorem strs_later {w w' : World} {a : Option Addr} {L : List ByteArray} (h : Below w.heap.size w w') (S : Strs w a L) : Strs w' a L := by
  intro k hk
  obtain ⟨b, o, rfl, hc⟩ := S k hk
  exact ⟨b, o, rfl, (h.cell (p := ⟨b, o + k, none⟩) (World.block_lt_of_cell? _ _ hc)).trans hc⟩
theorem bytes_eq {a b : ByteArray} (h : (a.toList == b.toList) = true) : a = b := by
  have h1 : a.toList = b.toList := by simpa using h
  rw [ByteArray.toList_eq, ByteArray.toList_eq] at h1
  have h2 : a.data = b.data := Array.ext' h1
  cases a
  cases b
  exact congrArg ByteArray.mk h2
theorem bytes_ne {a b : ByteArray} (h : a ≠ b) : (a.toList == b.toList) = false := by
  cases hbb : (a.toList == b.toList)
  · rfl
  · exact absurd (bytes_eq hbb) h

def Bools (w : World) (ao : Option Addr) (L : List Bool) : Prop :=
  ∀ k, k < L.length → ∃ b off, ao = some ⟨b, off, none⟩ ∧ w.cell? ⟨b, off + k, none⟩ = some (.bool (L.getD k false))
def IsBools (w : World) (a : Option Addr) (len cap : Nat) (B : Nat → Bool) : Prop :=
  (a = none ∧ len = 0 ∧ cap = 0) ∨ ∃ x, a = some x ∧ len ≤ cap ∧ cap ≤ maxLen ∧ ∀ i, i < cap → w.cell? (x.add i) = some (.bool (B i))

theorem IsBools.open {w : World} {a : Option Addr} {len cap : Nat} {B : Nat → Bool} (h : IsBools w a len cap B) :
    ∃ L : List Bool, L.length = len ∧ Bools w a L ∧ len ≤ maxLen ∧ (a = none → len = 0 ∧ cap = 0) := by
  rcases h with ⟨rfl, rfl, rfl⟩ | ⟨x, rfl, hl, hm, hcell⟩
  · exact ⟨[], rfl, fun k hk => absurd hk (by simp), by unfold maxLen; omega, fun _ => ⟨rfl, rfl⟩⟩
  · refine ⟨(List.range len).map B, by simp, ?_, by omega, fun h => by cases h⟩
    intro k hk
    have hk' : k < len := by simpa using hk
    have hc := hcell k (by omega)
    have hc0 := hcell 0 (by omega)
    obtain ⟨b, off, spot⟩ := x
    have hspot : spot = none := by simpa [Addr.add] using World.cell?_spot hc0
    subst hspot
    refine ⟨b, off, rfl, ?_⟩
    have e : ((List.range len).map B).getD k false = B k := by
      simp [List.getD, hk']
    rw [e, ← hc]
    congr 1
    by_cases h0 : k = 0
    · subst h0; simp [Addr.add]
    · simp [Addr.add, h0]
theorem bools_later {w w' : World} {a : Option Addr} {L : List Bool} (h : Below w.heap.size w w') (S : Bools w a L) : Bools w' a L := by
  intro k hk
  obtain ⟨b, o, rfl, hc⟩ := S k hk
  exact ⟨b, o, rfl, (h.cell (p := ⟨b, o + k, none⟩) (World.block_lt_of_cell? _ _ hc)).trans hc⟩

end Go.Proofs.YtabienikffakiaaFmt
