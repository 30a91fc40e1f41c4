/- What both break laws use: the target of a break, the state before a break and behind it. -/
import Derived.Test.YtabienikffakiaaFmtBuild135
import Derived.Test.YtabienikffakiaaFmtBytes135
namespace Go.Proofs.YtabienikffakiaaFmt
open Go.RowKit
set_option linter.unusedVariables false

theorem Turn.of_below {w w' : World} (h : Below w.heap.size w w') : Turn w w' (fun _ => False) := ⟨h.os, h.tape, h.output, h.size, fun k hk _ => h.block k hk⟩
theorem Turn.bools {a b : World} {F : Nat → Prop} (h : Turn a b F) {ao : Option Addr} {L : List Bool} (hs : Bools a ao L) (hf : ∀ x, ao = some x → ¬ F x.block) : Bools b ao L := by
  intro k hk
  obtain ⟨bl, off, rfl, hc⟩ := hs k hk
  exact ⟨bl, off, rfl, h.cell hc (hf ⟨bl, off, none⟩ rfl)⟩

theorem psum_nonneg {L : List Int} {n : Nat} (h : ∀ k, k < n → 0 ≤ L.getD k 0) : ∀ k, k ≤ n → 0 ≤ psum L k := by
  intro k hk
  induction k with
  | zero => exact Int.le_refl _
  | succ k ih =>
    have := ih (by omega)
    have := h k (by omega)
    unfold psum
    omega
theorem labAt_true {L : List Bool} {k : Nat} (h : L.getD k false = true) : labAt L k = 1 + (cntT L k : Int) := by unfold labAt; rw [h]; rfl
theorem labAt_false {L : List Bool} {k : Nat} (h : L.getD k false = false) : labAt L k = 0 := by unfold labAt; rw [h]; rfl

/-- the last loop among the first k blocks -/
def lastT (L : List Bool) : Nat → Int
  | 0 => -1
  | k + 1 => if L.getD k false then (k : Int) else lastT L k
theorem lastT_spec (L : List Bool) (n : Nat) : lastT L n = -1 ∨ ∃ t : Nat, t < n ∧ lastT L n = t ∧ L.getD t false = true ∧ ∀ k, t < k → k < n → L.getD k false = false := by
  induction n with
  | zero => exact .inl rfl
  | succ n ih =>
    cases h : L.getD n false with
    | true => exact .inr ⟨n, by omega, by unfold lastT; rw [h]; rfl, h, fun k h1 h2 => by omega⟩
    | false =>
      have e : lastT L (n + 1) = lastT L n := by
        show (if L.getD n false then (n : Int) else lastT L n) = _
        rw [h]; rfl
      rw [e]
      rcases ih with ih | ⟨t, h1, h2, h3, h4⟩
      · exact .inl ih
      · refine .inr ⟨t, by omega, h2, h3, fun k k1 k2 => ?_⟩
        rcases Nat.lt_succ_iff_lt_or_eq.1 k2 with g | g
        · exact h4 k k1 g
        · subst g; exact h

theorem Fits.split {r : Int} {ns : List Int} {loops refs : List Bool} : ∀ {L : List Bk} {t : Nat}, Fits r ns loops refs L → t + 1 < L.length → (∀ k, t < k → k + 1 < L.length → labAt loops k = 0) →
    ∃ pre T N R, L = pre ++ T :: N :: R ∧ (∀ C ∈ pre, C.lab = 0) ∧ T.lab = labAt loops t ∧ T.ref = refs.getD t false ∧ T.off = r + psum ns t ∧ N.top = r + psum ns t := by
  intro L
  induction L with
  | nil => intro t h; exact h.elim
  | cons B R ih =>
    intro t h ht hz
    cases R with
    | nil => simp at ht
    | cons C R =>
      by_cases e : t = R.length
      · subst e
        have hN := h.2.topIs
        exact ⟨[], B, C, R, rfl, (fun C hC => by cases hC), h.1.1, h.1.2.1, h.1.2.2.1, hN⟩
      · have ht2 : t < R.length := by simp at ht; omega
        obtain ⟨pre, T, N, R', h1, h2, h3⟩ := ih (t := t) h.2 (by simp; omega) (fun k k1 k2 => hz k k1 (by simp at k2 ⊢; omega))
        refine ⟨B :: pre, T, N, R', by rw [h1]; rfl, ?_, h3⟩
        intro D hD
        rcases List.mem_cons.1 hD with rfl | hD
        · rw [h.1.1]
          exact hz R.length ht2 (by simp)
        · exact h2 D hD

/-- a context that a break may be compiled in -/
structure Rdy (w : World) (β fc c b gc cc gl cl : Nat) (is ls : List Int) (rt lid : Int) (ref : Bool) (lab off : Int) : Prop where
  blk : ∃ fcc, w.heap[fc]? = some (.cells fcc 62 (0, 0)) ∧ fcc[1]? = some (.pointer (some ⟨c, 0, none⟩)) ∧ fcc[4]? = some (.pointer (some ⟨b, 0, none⟩)) ∧ fcc[6]? = some (.int .i64 rt) ∧ fcc[7]? = some (.int .i64 lid)
  code : Code w β c gc cc gl cl is ls
  chain : ∃ pre T N R, some ⟨b, 0, none⟩ = parOf (pre ++ T :: N :: R) ∧ Chain w β (pre ++ T :: N :: R) ∧ (∀ C ∈ pre, C.lab = 0) ∧ T.lab = lab ∧ T.ref = ref ∧ T.off = off ∧ N.top = off
  lab0 : lab ≠ 0
  off0 : 0 ≤ off
  off1 : off ≤ 199

theorem Rdy.moved {w w' : World} {β fc c b gc cc gl cl gc' cc' gl' cl' : Nat} {is ls is' ls' : List Int} {rt lid lab off : Int} {ref : Bool} {G : Nat → Prop} (h : Rdy w β fc c b gc cc gl cl is ls rt lid ref lab off) (t : Turn w w' G)
    (hG : ∀ (k : Nat) (X : Array Value) (t : TypeId), w.heap[k]? = some (.cells X t (0, 0)) → t = 62 ∨ t = 71 ∨ t = 95 ∨ t = 9 → ¬ G k) (hc : Code w' β c gc' cc' gl' cl' is' ls') : Rdy w' β fc c b gc' cc' gl' cl' is' ls' rt lid ref lab off := by
  obtain ⟨⟨fcc, h1, h2⟩, h3, ⟨pre, T, N, R, k1, k2, k3⟩, h5, h6, h7⟩ := h
  refine ⟨⟨fcc, t.heap h1 (hG _ _ _ h1 (.inl rfl)), h2⟩, hc, ⟨pre, T, N, R, k1, k2.kept t ?_, k3⟩, h5, h6, h7⟩
  intro C hC
  obtain ⟨par, hA⟩ := k2.mem hC
  refine ⟨hG _ _ _ hA.blk (.inr (.inl rfl)), hG _ _ _ hA.pool.blk (.inr (.inr (.inl rfl))), fun k hk => ?_⟩
  obtain ⟨X, hX, _⟩ := hA.pool.rowKind hk
  exact hG _ _ _ hX (.inr (.inr (.inr rfl)))
theorem Rdy.same {w w' : World} {β fc c b gc cc gl cl : Nat} {is ls : List Int} {rt lid lab off : Int} {ref : Bool} (h : Rdy w β fc c b gc cc gl cl is ls rt lid ref lab off) (t : Turn w w' (fun _ => False)) : Rdy w' β fc c b gc cc gl cl is ls rt lid ref lab off :=
  h.moved t (fun _ _ _ _ _ => id) (h.code.kept t id id id)

theorem Rdy.face {w : World} {β fc c b gc cc gl cl : Nat} {is ls : List Int} {rt lid lab off : Int} {ref : Bool} (h : Rdy w β fc c b gc cc gl cl is ls rt lid ref lab off) (p : Nat) (hp : is.length = p) :
    Face w fc c b (.slice (some ⟨gc, 0, none⟩) p cc) (.slice (some ⟨gl, 0, none⟩) p cl) p rt lid := by
  subst hp
  obtain ⟨fcc, h1, h2, h3, h4, h5⟩ := h.blk
  exact ⟨cell_of_blk h1 1 _ h2, cell_of_blk h1 4 _ h3, cell_of_blk h1 6 _ h4, cell_of_blk h1 7 _ h5, cell_of_blk h.code.blk 0 _ rfl, cell_of_blk h.code.blk 1 _ rfl, cell_of_blk h.code.blk 2 _ rfl⟩

theorem Face.drew {w : World} {fc c b : Nat} {cv lv : Value} {pc rt lid : Int} (h : Face w fc c b cv lv pc rt lid) : Face w.drew fc c b cv lv pc rt lid := ⟨h.c1, h.c4, h.c6, h.c7, h.d0, h.d1, h.d2⟩

theorem Built.rdy {r : Int} {ns : List Int} {loops refs : List Bool} {w w' : World} {fc : Nat} {F : FcAt} {gL j : Nat} {B : Bk} {R : List Bk} {g cap : Nat} {ys : List Value} {n : Nat} {v : Nat → Value} {xs : List Value} (h : Built r ns loops refs w fc F gL j B R g cap ys n v xs w') (t : Nat) (ht : t < j) (hl : loops.getD t false = true) (hz : ∀ k, t < k → k < j → loops.getD k false = false) (h0 : 0 ≤ r + psum ns t) (h1 : r + psum ns t ≤ 199) :
    Rdy w' w.heap.size fc F.c B.b F.gc 1024 F.gl 1024 [] [] B.top (1 + (cntT loops j : Int)) (refs.getD t false) (labAt loops t) (r + psum ns t) := by
  have hlen := h.len
  obtain ⟨pre, T, N, R', e1, e2, e3, e4, e5, e6⟩ := h.fits.split (t := t) (by simp; omega) (fun k k1 k2 => labAt_false (hz k k1 (by simp at k2; omega)))
  have s := h.st
  have hch : Chain w' w.heap.size (B :: R) := ⟨⟨s.loc.bblk, s.loc.pool, s.bge, s.loc.lvge⟩, s.rest⟩
  refine ⟨⟨_, s.loc.blk, rfl, rfl, rfl, rfl⟩, s.loc.code, ⟨pre, T, N, R', ?_, ?_, e2, e3, e4, e5, e6⟩, ?_, h0, h1⟩
  · rw [← e1]; rfl
  · rw [← e1]; exact hch
  · rw [labAt_true hl]; omega

theorem Built.labels {r : Int} {ns : List Int} {loops refs : List Bool} {w w' : World} {fc : Nat} {F : FcAt} {gL : Nat} {B : Bk} {R : List Bk} {g cap : Nat} {ys : List Value} {n : Nat} {v : Nat → Value} {xs : List Value} (h : Built r ns loops refs w fc F gL loops.length B R g cap ys n v xs w') (k : Nat) (hk : k < loops.length) :
    w'.cell? ⟨gL, k, none⟩ = some (.int .i64 (labAt loops k)) := by
  rw [h.row.cellAt k (by omega)]
  have e : (labs loops).take loops.length = labs loops := by rw [← labs_len loops, List.take_length]
  rw [e, Nat.sub_self, List.replicate_zero, List.append_nil]
  have := labs_get loops k hk
  have hl := labs_len loops
  simp [List.getD, hl, hk] at this ⊢
  exact this

def BrokeR (β fc c b gc gl st : Nat) (is ls : List Int) (rt lid lab off l : Int) (ref : Bool) (w : World) (e : Ending) (w' : World) : Prop :=
  ∃ gc' cc' gl' cl', e = .returned (.tuple #[]) ∧ Rdy w' β fc c b gc' cc' gl' cl' (is ++ brk ref lab off) (ls ++ List.replicate (brk ref lab off).length l) rt lid ref lab off ∧ Turn w w' (fun k => k = c ∨ k = gc ∨ k = gl) ∧ w'.heap[st]? = some (.cells #[.int .i64 l, .int .i64 0] 40 (0, 0)) ∧ (gc' = gc ∨ w.heap.size ≤ gc') ∧ (gl' = gl ∨ w.heap.size ≤ gl')

theorem ZZbreak_any {w : World} {β fc c b gc cc gl cl : Nat} {is ls : List Int} {rt lid lab off : Int} {ref : Bool} (st : Nat) (l : Int) (h : Rdy w β fc c b gc cc gl cl is ls rt lid ref lab off) (hst : w.heap[st]? = some (.cells #[.int .i64 l, .int .i64 0] 40 (0, 0))) (hβ : β ≤ w.heap.size) (hn : is.length ≤ 1000) :
    Calls Tryf.prog 15 #[.pointer (some ⟨fc, 0, none⟩), .pointer (some ⟨st, 0, none⟩)] w (BrokeR β fc c b gc gl st is ls rt lid lab off l ref w) := by
  have h' := h
  obtain ⟨⟨fcc, h1, h2, h3, h4, h5⟩, hco, ⟨pre, T, N, R, k1, k2, k3, k4, k5, k6, k7⟩, h6, h7, h8⟩ := h'
  have ne : ∀ (k : Nat) (X : Array Value) (t : TypeId), w.heap[k]? = some (.cells X t (0, 0)) → t ≠ 54 → t ≠ 47 → t ≠ 3 → ¬ (k = c ∨ k = gc ∨ k = gl) := by
    obtain ⟨i1, g1⟩ := owned_elem hco.codes
    obtain ⟨i2, g2⟩ := owned_elem hco.lines
    have g0 := hco.blk
    rintro k X t hk a1 a2 a3 (e | e | e)
    · rw [e, g0] at hk; simp at hk; exact a1 hk.2.symm
    · rw [e, g1] at hk; simp at hk; exact a2 hk.2.symm
    · rw [e, g2] at hk; simp at hk; exact a3 hk.2.symm
  have hns := ne _ _ _ hst (by decide) (by decide) (by decide)
  go_enter Tryf.func15, Tryf.ntmps15
  go_wp2_with fail
  refine (break_any β fc st c gc cc gl cl fcc _ is ls pre T N R l w h1 h2 h3 k1 hco k2 k3 (by rw [k4]; exact h6) (by rw [k6]; exact k7) (by rw [k6]; exact h7) (by rw [k6]; omega) (cell_of_blk hst 0 (.int .i64 l) rfl) hns hβ (by omega)).mono ?_
  rintro e w' ⟨gc', cc', gl', cl', rfl, a1, a2, a3, a4⟩
  rw [k4, k5, k6] at a1
  have HR : BrokeR β fc c b gc gl st is ls rt lid lab off l ref w (.returned (.tuple #[])) w' :=
    ⟨gc', cc', gl', cl', rfl, h.moved a2 (fun k X t hk ht => ne k X t hk (by rcases ht with e | e | e | e <;> subst e <;> decide) (by rcases ht with e | e | e | e <;> subst e <;> decide) (by rcases ht with e | e | e | e <;> subst e <;> decide)) a1, a2, a2.heap hst hns, a3, a4⟩
  have HH := Lib.hid HR
  clear HR a1 a2 a3 a4 hco k2 h h1
  go_wp2
  go_end0
  exact HH.out

theorem Rdy.line {w : World} {β fc c b gc cc gl cl : Nat} {is ls : List Int} {rt lid lab off : Int} {ref : Bool} (h : Rdy w β fc c b gc cc gl cl is ls rt lid ref lab off) (k : Nat) (hk : k < is.length) : w.cell? ⟨gl, k, none⟩ = some (.int .i64 (ls.getD k 0)) := by
  have hl := lens h.code
  rw [h.code.lines.cellAt k (by omega)]
  simp [List.getD, hl, hk]
end Go.Proofs.YtabienikffakiaaFmt
