/- What a function context with entered blocks holds: 'Stt'; what a registered local, an entered block, a mark and a new label make of it. -/
import Derived.Test.YtabienikffakiaaFmtEnterC
import Derived.Test.YtabienikffakiaaFmtMk135
namespace Go.Proofs.YtabienikffakiaaFmt
open Go.RowKit
set_option linter.unusedVariables false

/-- one block of a function context -/
structure Bk where
  (b lv M : Nat)
  (lab : Int)
  (ref : Bool)
  (off l1 l2 : Int)
  (pv : Value)
  (ss : List ByteArray)

def Bk.cells (B : Bk) (par : Option Addr) : Array Value := newCells B.lv B.M B.lab par B.ref B.l1 B.l2
/-- the first register that the block leaves free -/
def Bk.top (B : Bk) : Int := B.off + B.ss.length
def parOf : List Bk → Option Addr
  | [] => none
  | B :: _ => some ⟨B.b, 0, none⟩

structure Anc (w : World) (β : Nat) (B : Bk) (par : Option Addr) : Prop where
  blk : w.heap[B.b]? = some (.cells (B.cells par) 71 (0, 0))
  pool : Pool w β B.lv B.pv B.ss B.off
  bge : β ≤ B.b
  lvge : β ≤ B.lv

def Chain (w : World) (β : Nat) : List Bk → Prop
  | [] => True
  | B :: R => Anc w β B (parOf R) ∧ Chain w β R
def Apart : List Bk → Prop
  | [] => True
  | B :: R => (∀ C ∈ R, C.lv ≠ B.lv ∧ ∀ k, C.pv.ownBlock = some k → B.pv.ownBlock ≠ some k) ∧ Apart R
def offOf : List Bk → Int
  | [] => 0
  | B :: _ => B.top
def Offs : List Bk → Prop
  | [] => True
  | B :: R => B.off = offOf R ∧ Offs R

theorem Anc.kept {w w' : World} {G : Nat → Prop} {β : Nat} {B : Bk} {par : Option Addr} (h : Anc w β B par) (t : Turn w w' G) (h1 : ¬ G B.b) (h2 : ¬ G B.lv) (h3 : ∀ k, B.pv.ownBlock = some k → ¬ G k) : Anc w' β B par :=
  ⟨t.heap h.blk h1, h.pool.kept t h2 h3, h.bge, h.lvge⟩
theorem Chain.mem {w : World} {β : Nat} {L : List Bk} (h : Chain w β L) {C : Bk} (hC : C ∈ L) : ∃ par, Anc w β C par := by
  induction L with
  | nil => cases hC
  | cons B R ih =>
    rcases List.mem_cons.1 hC with rfl | hC
    · exact ⟨_, h.1⟩
    · exact ih h.2 hC
theorem Chain.kept {w w' : World} {G : Nat → Prop} {β : Nat} {L : List Bk} (h : Chain w β L) (t : Turn w w' G) (hG : ∀ C ∈ L, ¬ G C.b ∧ ¬ G C.lv ∧ ∀ k, C.pv.ownBlock = some k → ¬ G k) : Chain w' β L := by
  induction L with
  | nil => trivial
  | cons B R ih =>
    have hB := hG B (by simp)
    exact ⟨h.1.kept t hB.1 hB.2.1 hB.2.2, ih h.2 (fun C hC => hG C (by simp [hC]))⟩

/-- a pool's row, if it has one, is a block of strings -/
theorem Pool.rowKind {w : World} {β P : Nat} {v : Value} {ss : List ByteArray} {off : Int} (h : Pool w β P v ss off) {k : Nat} (hk : v.ownBlock = some k) : ∃ X, w.heap[k]? = some (.cells X 9 (0, 0)) ∧ β ≤ k ∧ k < w.heap.size := by
  obtain ⟨_, ⟨rfl, _⟩ | ⟨g, cap, cur, rfl, hb, hg, _⟩⟩ := h.row
  · cases hk
  · obtain rfl : g = k := by simpa [Value.ownBlock] using hk
    exact ⟨cur, hg, hb, lt_of_block hg⟩

/-- of what kind a block is that a registered local may turn -/
theorem Loc.kind {w : World} {β fc : Nat} {F : FcAt} {gbv : Value} {bl lv : Nat} {bc : Array Value} {off rt lid : Int} {n : Nat} {pv : Value} {v : Nat → Value} {xs : List Value} {ss : List ByteArray} (h : Loc w β fc F gbv bl lv bc off rt lid n pv v xs ss)
    {k : Nat} {X : Array Value} {t : TypeId} (hk : w.heap[k]? = some (.cells X t (0, 0))) (hG : k = fc ∨ k = lv ∨ pv.ownBlock = some k ∨ k = F.pr ∨ (v 11).ownBlock = some k) :
    t = 62 ∨ (k = lv ∧ t = 95) ∨ (pv.ownBlock = some k ∧ t = 9) ∨ t = 86 ∨ t = 87 := by
  rcases hG with rfl | rfl | hG | rfl | hG
  · have := h.blk; rw [hk] at this; simp at this; exact .inl this.2
  · have := h.pool.blk; rw [hk] at this; simp at this; exact .inr (.inl ⟨rfl, this.2⟩)
  · obtain ⟨Y, hY, _⟩ := h.pool.rowKind hG
    rw [hk] at hY; simp at hY; exact .inr (.inr (.inl ⟨hG, hY.2⟩))
  · have := h.pblk; rw [hk] at this; simp at this; exact .inr (.inr (.inr (.inl this.2)))
  · obtain ⟨g, cap, e, r⟩ := h.row
    obtain ⟨cu, hu⟩ := owned_elem r
    rw [e] at hG
    obtain rfl : g = k := by simpa [Value.ownBlock] using hG
    rw [hk] at hu; simp at hu; exact .inr (.inr (.inr (.inr hu.2)))

/-- what a function context with entered blocks holds -/
structure Stt (w : World) (β fc : Nat) (F : FcAt) (B : Bk) (R : List Bk) (g m cap : Nat) (ys : List Value) (lid : Int) (n : Nat) (v : Nat → Value) (xs : List Value) : Prop where
  loc : Loc w β fc F (.slice (some ⟨g, 0, none⟩) m cap) B.b B.lv (B.cells (parOf R)) B.off B.top lid n B.pv v xs B.ss
  bge : β ≤ B.b
  rest : Chain w β R
  apart : Apart (B :: R)
  offs : Offs (B :: R)
  row : w.ownsRow β 32 1 (.slice (some ⟨g, 0, none⟩) m cap) m ys

/-- blocks of int's stay as they are -/
def IntsKept (w w' : World) : Prop := ∀ (k : Nat) (X : Array Value), w.heap[k]? = some (Obj.cells X 3 (0, 0)) → w'.heap[k]? = some (Obj.cells X 3 (0, 0))
theorem IntsKept.refl (w : World) : IntsKept w w := fun _ _ h => h
theorem IntsKept.trans {a b c : World} (h : IntsKept a b) (k : IntsKept b c) : IntsKept a c := fun i X hX => k i X (h i X hX)
theorem Turn.intsKept {a b : World} {G : Nat → Prop} (t : Turn a b G) (h : ∀ (k : Nat) (X : Array Value), a.heap[k]? = some (Obj.cells X 3 (0, 0)) → ¬ G k) : IntsKept a b := fun k X hX => t.heap hX (h k X hX)

theorem Stt.reg {w w' : World} {β fc : Nat} {F : FcAt} {B : Bk} {R : List Bk} {g m cap : Nat} {ys : List Value} {lid : Int} {n : Nat} {v : Nat → Value} {xs : List Value} {s : ByteArray} {e : Ending} (h : Stt w β fc F B R g m cap ys lid n v xs)
    (hm : LocMore β fc F (.slice (some ⟨g, 0, none⟩) m cap) B.b B.lv (B.cells (parOf R)) B.off B.top lid n B.pv v xs B.ss s w e w') :
    ∃ pv' v' xs', e = .returned (.int .i64 (wrap64 (B.ss.length + B.off))) ∧ Stt w' β fc F { B with pv := pv', ss := B.ss ++ [s] } R g m cap ys lid (n + 1) v' xs' ∧ Turn w w' (fun k => β ≤ k) ∧ IntsKept w w' := by
  obtain ⟨pv', v', xs', he, hL, hT, hp, hv⟩ := hm
  have hkind := fun (k : Nat) (X : Array Value) (t : TypeId) (hk : w.heap[k]? = some (Obj.cells X t (0, 0))) => h.loc.kind hk
  obtain ⟨cg, hcg⟩ := owned_elem h.row
  have hB : Stt w' β fc F { B with pv := pv', ss := B.ss ++ [s] } R g m cap ys lid (n + 1) v' xs' := by
    refine ⟨?_, h.bge, h.rest.kept hT ?_, ⟨?_, h.apart.2⟩, h.offs, hT.ownsRow h.row ?_⟩
    · have e1 : ({ B with pv := pv', ss := B.ss ++ [s] } : Bk).top = B.top + 1 := by simp [Bk.top]; omega
      rw [e1]
      exact hL
    · intro C hC
      obtain ⟨par, hA⟩ := h.rest.mem hC
      have hap := h.apart.1 C hC
      refine ⟨?_, ?_, ?_⟩
      · intro hG
        rcases hkind _ _ _ hA.blk hG with e | ⟨_, e⟩ | ⟨_, e⟩ | e | e <;> exact absurd e (by decide)
      · intro hG
        rcases hkind _ _ _ hA.pool.blk hG with e | ⟨e, _⟩ | ⟨_, e⟩ | e | e
        · exact absurd e (by decide)
        · exact hap.1 e
        · exact absurd e (by decide)
        · exact absurd e (by decide)
        · exact absurd e (by decide)
      · intro k hk hG
        obtain ⟨X, hX, _⟩ := hA.pool.rowKind hk
        rcases hkind _ _ _ hX hG with e | ⟨_, e⟩ | ⟨e, _⟩ | e | e
        · exact absurd e (by decide)
        · exact absurd e (by decide)
        · exact hap.2 k hk e
        · exact absurd e (by decide)
        · exact absurd e (by decide)
    · intro C hC
      obtain ⟨par, hA⟩ := h.rest.mem hC
      have hap := h.apart.1 C hC
      refine ⟨hap.1, ?_⟩
      intro k hk e
      rcases hp with l | ⟨g', l, hg'⟩
      · exact hap.2 k hk (by rw [← l]; exact e)
      · obtain ⟨X, hX, _, hlt⟩ := hA.pool.rowKind hk
        have e2 : pv'.ownBlock = some k := e
        rw [l] at e2
        have : g' = k := by simpa using e2
        omega
    · intro k hk hG
      obtain rfl : g = k := by simpa [Value.ownBlock] using hk
      rcases hkind _ _ _ hcg hG with e | ⟨_, e⟩ | ⟨_, e⟩ | e | e <;> exact absurd e (by decide)
  refine ⟨pv', v', xs', he, hB, hT.mono ?_, hT.intsKept ?_⟩
  · intro k _ hG
    rcases hG with rfl | rfl | hG | rfl | hG
    · exact h.loc.ge
    · exact h.loc.lvge
    · exact (h.loc.pool.rowKind hG).choose_spec.2.1
    · exact h.loc.prge
    · obtain ⟨g', cap', e, r⟩ := h.loc.row
      rw [e] at hG
      exact (r.lt k hG).1
  · intro k X hX hG
    rcases hkind _ _ _ hX hG with e | ⟨_, e⟩ | ⟨_, e⟩ | e | e <;> exact absurd e (by decide)

/-- a block entered -/
theorem Stt.enter {w w' : World} {β fc : Nat} {F : FcAt} {B : Bk} {R : List Bk} {g m cap : Nat} {ys : List Value} {lid lab l1 l2 : Int} {n : Nat} {v : Nat → Value} {xs : List Value} {e : Ending} (h : Stt w β fc F B R g m cap ys lid n v xs) (hβ : β ≤ w.heap.size)
    (hm : Entered β fc F g m B.b B.top lid lab l1 l2 ys w e w') :
    ∃ N q c y, e = .returned (.tuple #[]) ∧ Stt w' β fc F N (B :: R) q (m + 1) c (ys ++ [y]) lid n v xs ∧ N.lab = lab ∧ N.ref = false ∧ N.ss = [] ∧ (N.off = B.top ∧ ∀ C ∈ B :: R, C.b ≠ N.b) ∧ Turn w w' (fun k => β ≤ k) ∧ IntsKept w w' := by
  obtain ⟨he, b, lv, gN, capN, q, c, y, hblk, hb, hbb, hlv, hgN, hp, hrow, hq, hT⟩ := hm
  obtain ⟨cg, hcg⟩ := owned_elem h.row
  have kin : ∀ (k : Nat) (X : Array Value) (t : TypeId), w.heap[k]? = some (Obj.cells X t (0, 0)) → t ≠ 62 → t ≠ 32 → ¬ (k = fc ∨ k = g) := by
    intro k X t hk h1 h2 h3
    rcases h3 with rfl | rfl
    · have := h.loc.blk; rw [hk] at this; simp at this; exact h1 this.2
    · rw [hk] at hcg; simp at hcg; exact h2 hcg.2
  obtain ⟨c1, u1⟩ := owned_elem h.loc.code.codes
  obtain ⟨c2, u2⟩ := owned_elem h.loc.code.lines
  obtain ⟨gd, capd, ed, rd⟩ := h.loc.row
  obtain ⟨c3, u3⟩ := owned_elem rd
  have hch : Chain w β (B :: R) := ⟨⟨h.loc.bblk, h.loc.pool, h.bge, h.loc.lvge⟩, h.rest⟩
  have hkeep : ∀ C ∈ B :: R, ¬ (C.b = fc ∨ C.b = g) ∧ ¬ (C.lv = fc ∨ C.lv = g) ∧ ∀ k, C.pv.ownBlock = some k → ¬ (k = fc ∨ k = g) := by
    intro C hC
    obtain ⟨par, hA⟩ := hch.mem hC
    refine ⟨kin _ _ _ hA.blk (by decide) (by decide), kin _ _ _ hA.pool.blk (by decide) (by decide), fun k hk => ?_⟩
    obtain ⟨X, hX, _⟩ := hA.pool.rowKind hk
    exact kin _ _ _ hX (by decide) (by decide)
  refine ⟨⟨b + 1, lv, b, lab, false, B.top, l1, l2, .slice (some ⟨gN, 0, none⟩) 0 capN, []⟩, q, c, y, he, ⟨?_, by show β ≤ b + 1; omega, hch.kept hT hkeep, ⟨?_, h.apart⟩, ⟨rfl, h.offs⟩, hrow⟩, rfl, rfl, rfl, ⟨rfl, ?_⟩, hT.mono ?_, hT.intsKept ?_⟩
  · have e1 : (⟨b + 1, lv, b, lab, false, B.top, l1, l2, .slice (some ⟨gN, 0, none⟩) 0 capN, []⟩ : Bk).top = B.top := by simp [Bk.top]
    refine ⟨h.loc.ge, by rw [e1]; exact hblk, h.loc.code.kept hT (kin _ _ _ h.loc.code.blk (by decide) (by decide)) (kin _ _ _ u1 (by decide) (by decide)) (kin _ _ _ u2 (by decide) (by decide)), h.loc.cge, hbb, rfl, hp, by show β ≤ lv; omega, hT.heap h.loc.pblk (kin _ _ _ h.loc.pblk (by decide) (by decide)), h.loc.prge, gd, capd, ed, hT.ownsRow rd (fun k hk => by cases hk; exact kin _ _ _ u3 (by decide) (by decide))⟩
  · intro C hC
    obtain ⟨par, hA⟩ := hch.mem hC
    have h1 := lt_of_block hA.pool.blk
    refine ⟨by show C.lv ≠ lv; omega, ?_⟩
    intro k hk e2
    obtain ⟨X, hX, _, hlt⟩ := hA.pool.rowKind hk
    have : gN = k := by simpa [Value.ownBlock] using e2
    omega
  · intro C hC
    obtain ⟨par, hA⟩ := hch.mem hC
    have h1 := lt_of_block hA.blk
    show C.b ≠ b + 1
    omega
  · intro k _ hG
    rcases hG with rfl | rfl
    · exact h.loc.ge
    · exact (h.row.lt _ rfl).1
  · intro k X hX
    exact kin _ _ _ hX (by decide) (by decide)
end Go.Proofs.YtabienikffakiaaFmt
