/- 'Ctx': what a function context holds as the laws of folder n005_136 turn it; how it lives on; the contract of AddUnresolvedGoto. -/
import Derived.Test.YtdhmpfijdmlfoaaFmtFc
import Derived.StillTailTactics
namespace Go.Proofs.YtdhmpfijdmlfoaaFmt
open Go.RowKit Go.Maps
set_option linter.unusedVariables false

def ctxCells (F : FcAt) (gb : Value × Option Addr) (cnt : Int) : Array Value :=
  #[.pointer (some ⟨F.pr, 0, none⟩), .pointer (some ⟨F.c, 0, none⟩), .pointer none, .pointer (some ⟨F.up, 0, none⟩), .pointer (some ⟨F.b + 1, 0, none⟩), gb.1, .int .i64 0, .int .i64 1, .map (some F.M1), .int .i64 cnt, .map (some F.M2)]
def blkCells (lv b : Nat) (par : Option Addr) (up : Bool) : Array Value :=
  #[.pointer (some ⟨lv, 0, none⟩), .int .i64 0, .pointer par, .bool up, .int .i64 0, .int .i64 0, .map (some b), .int .i64 0]

/-- the context fc: its code (rows gc, gl), its count of gotos, its three maps: label names DL (block F.b), label pcs D1, pending gotos D2 -/
structure Ctx (w : World) (β fc : Nat) (F : FcAt) (gb : Value × Option Addr) (gc cc gl cl : Nat) (is ls : List Int) (cnt : Int) (up : Bool) (DL D1 D2 : DataW Unit) (nL n1 n2 : Nat) : Prop where
  ge : β ≤ fc
  blk : w.heap[fc]? = some (.cells (ctxCells F gb cnt) 40 (0, 0))
  code : Code w β F.c gc cc gl cl is ls
  cge : β ≤ F.c
  bblk : w.heap[F.b + 1]? = some (.cells (blkCells F.lv F.b gb.2 up) 67 (0, 0))
  bge : β ≤ F.b
  ownL : w.ownsMap Tryf.prog 9 ptrElem F.b nL DL
  own1 : w.ownsMap Tryf.prog 3 (plainElem Tryf.prog 3) F.M1 n1 D1
  m1ge : β ≤ F.M1
  own2 : w.ownsMap Tryf.prog 3 ptrElem F.M2 n2 D2
  m2ge : β ≤ F.M2
  ne1 : F.b ≠ F.M1
  ne2 : F.b ≠ F.M2
  ne12 : F.M1 ≠ F.M2

theorem empty_own {w : World} {M : Nat} {k : TypeId} {R : Value → Option (DataW Unit × List MemPlace)} (h : w.heap[M]? = some (.map #[] 0)) : w.ownsMap Tryf.prog k R M 0 (.map []) := by
  have h1 := World.ownsMap_made (H := Unit) w Tryf.prog k R
  obtain ⟨es, cl, e1, e2, e3, e4⟩ := h1
  rw [heap_alloc_new w _] at e1
  cases e1
  exact ⟨#[], 0, h, e2, e3, e4⟩

theorem FcMade.ctx {w w' : World} {e : Ending} (h : FcMade w e w') : ∃ fc F g, e = .returned (.pointer (some ⟨fc, 0, none⟩)) ∧ Ctx w' w.heap.size fc F (.slice (some ⟨g, 0, none⟩) 1 1, none) F.gc 1024 F.gl 1024 [] [] 0 false (.map []) (.map []) (.map []) 0 0 0 ∧ Turn w w' (fun _ => False) ∧
    w.heap.size ≤ g ∧ w'.heap[g]? = some (.cells #[.pointer (some ⟨F.b + 1, 0, none⟩)] 35 (0, 0)) := by
  obtain ⟨fc, F, g, h1, h2, h3, h4, h5, h6, h7⟩ := h
  refine ⟨fc, F, g, h1, ?_, h5, h6, h7⟩
  exact ⟨h2, h3, h4.code, h4.cge, h4.blk, h4.bge, empty_own h4.lmap, empty_own h4.m1, h4.m1ge, empty_own h4.m2, h4.m2ge, h4.ne1, h4.ne2, h4.ne12⟩

theorem intKey : Keyed Tryf.prog 3 := int_keyed Tryf.underlying3
def kI (n : Int) : Lit := .int .i64 n

theorem Ctx.lets {w : World} {β fc : Nat} {F : FcAt} {gb : Value × Option Addr} {gc cc gl cl : Nat} {is ls : List Int} {cnt : Int} {up : Bool} {DL D1 D2 : DataW Unit} {nL n1 n2 : Nat} (h : Ctx w β fc F gb gc cc gl cl is ls cnt up DL D1 D2 nL n1 n2) :
    fc ≠ F.c ∧ fc ≠ F.b + 1 ∧ fc ≠ F.b ∧ fc ≠ F.M1 ∧ fc ≠ F.M2 ∧ fc ≠ gc ∧ fc ≠ gl := by
  have hne : ∀ (k : Nat) (o : Obj), w.heap[k]? = some o → (∀ Y, o ≠ .cells Y 40 (0, 0)) → fc ≠ k := by
    rintro k o hk ho rfl
    have f := h.blk
    rw [hk] at f
    exact ho _ (by simpa using f)
  obtain ⟨c1, h1⟩ := owned_elem h.code.codes
  obtain ⟨c2, h2⟩ := owned_elem h.code.lines
  obtain ⟨e1, k1, q1, _⟩ := h.ownL
  obtain ⟨e2, k2, q2, _⟩ := h.own1
  obtain ⟨e3, k3, q3, _⟩ := h.own2
  exact ⟨hne _ _ h.code.blk (by simp), hne _ _ h.bblk (by simp), hne _ _ q1 (by simp), hne _ _ q2 (by simp), hne _ _ q3 (by simp), hne _ _ h1 (by simp), hne _ _ h2 (by simp)⟩

theorem ownsMap_kept {w w' : World} {k : TypeId} {R : Value → Option (DataW Unit × List MemPlace)} {M n : Nat} {D : DataW Unit} {G : Nat → Prop} (h : w.ownsMap Tryf.prog k R M n D) (t : Turn w w' G) (hM : ¬ G M) : w'.ownsMap Tryf.prog k R M n D := by
  obtain ⟨es, c, h1, h2⟩ := h
  exact ⟨es, c, t.heap h1 hM, h2⟩

theorem Ctx.apart {w : World} {β fc : Nat} {F : FcAt} {gb : Value × Option Addr} {gc cc gl cl : Nat} {is ls : List Int} {cnt : Int} {up : Bool} {DL D1 D2 : DataW Unit} {nL n1 n2 : Nat} (h : Ctx w β fc F gb gc cc gl cl is ls cnt up DL D1 D2 nL n1 n2) :
    F.M2 ≠ F.c ∧ F.M2 ≠ gc ∧ F.M2 ≠ gl ∧ F.M2 ≠ F.b + 1 := by
  obtain ⟨e3, k3, q3, _⟩ := h.own2
  have hne : ∀ (k : Nat) (Y : Array Value) (t : TypeId), w.heap[k]? = some (.cells Y t (0, 0)) → F.M2 ≠ k := by
    rintro k Y t hk rfl
    rw [hk] at q3
    cases q3
  obtain ⟨c1, h1⟩ := owned_elem h.code.codes
  obtain ⟨c2, h2⟩ := owned_elem h.code.lines
  exact ⟨hne _ _ _ h.code.blk, hne _ _ _ h1, hne _ _ _ h2, hne _ _ _ h.bblk⟩

/-- only the context's own cells and the map of pending gotos have turned -/
theorem Ctx.gotos {w w' : World} {β fc : Nat} {F : FcAt} {gb : Value × Option Addr} {gc cc gl cl : Nat} {is ls : List Int} {cnt cnt' : Int} {up : Bool} {DL D1 D2 D2' : DataW Unit} {nL n1 n2 n2' : Nat} (h : Ctx w β fc F gb gc cc gl cl is ls cnt up DL D1 D2 nL n1 n2)
    (t : Turn w w' (fun k => k = fc ∨ k = F.M2)) (hb : w'.heap[fc]? = some (.cells (ctxCells F gb cnt') 40 (0, 0))) (ho : w'.ownsMap Tryf.prog 3 ptrElem F.M2 n2' D2') : Ctx w' β fc F gb gc cc gl cl is ls cnt' up DL D1 D2' nL n1 n2' := by
  obtain ⟨a1, a2, a3, a4, a5, a6, a7⟩ := h.lets
  obtain ⟨b1, b2, b3, b4⟩ := h.apart
  have q : ∀ k, fc ≠ k → F.M2 ≠ k → ¬ (k = fc ∨ k = F.M2) := fun k h1 h2 h3 => h3.elim (fun e => h1 e.symm) (fun e => h2 e.symm)
  exact ⟨h.ge, hb, h.code.kept t (q _ a1 b1) (q _ a6 b2) (q _ a7 b3), h.cge, t.heap h.bblk (q _ a2 b4), h.bge, ownsMap_kept h.ownL t (q _ a3 (fun e => h.ne2 e.symm)), ownsMap_kept h.own1 t (q _ a4 (fun e => h.ne12 e.symm)), h.m1ge, ho, h.m2ge, h.ne1, h.ne2, h.ne12⟩

/-- what lies apart of what -/
structure CtxNe (fc : Nat) (F : FcAt) (gc gl : Nat) : Prop where
  fc_c : fc ≠ F.c
  fc_k : fc ≠ F.b + 1
  fc_b : fc ≠ F.b
  fc_1 : fc ≠ F.M1
  fc_2 : fc ≠ F.M2
  fc_g : fc ≠ gc
  fc_l : fc ≠ gl
  c_k : F.c ≠ F.b + 1
  c_b : F.c ≠ F.b
  c_1 : F.c ≠ F.M1
  c_2 : F.c ≠ F.M2
  k_b : F.b + 1 ≠ F.b
  k_1 : F.b + 1 ≠ F.M1
  k_2 : F.b + 1 ≠ F.M2
  k_g : F.b + 1 ≠ gc
  k_l : F.b + 1 ≠ gl
  g_b : gc ≠ F.b
  g_1 : gc ≠ F.M1
  g_2 : gc ≠ F.M2
  l_b : gl ≠ F.b
  l_1 : gl ≠ F.M1
  l_2 : gl ≠ F.M2
  b_1 : F.b ≠ F.M1
  b_2 : F.b ≠ F.M2
  m12 : F.M1 ≠ F.M2
  g_c : gc ≠ F.c
  l_c : gl ≠ F.c
  g_l : gc ≠ gl

theorem blocks_ne {w : World} {a b : Nat} {o p : Obj} (ha : w.heap[a]? = some o) (hb : w.heap[b]? = some p) (h : o ≠ p) : a ≠ b := by
  rintro rfl
  rw [ha] at hb
  exact h (by simpa using hb)

theorem Ctx.nes {w : World} {β fc : Nat} {F : FcAt} {gb : Value × Option Addr} {gc cc gl cl : Nat} {is ls : List Int} {cnt : Int} {up : Bool} {DL D1 D2 : DataW Unit} {nL n1 n2 : Nat} (h : Ctx w β fc F gb gc cc gl cl is ls cnt up DL D1 D2 nL n1 n2) : CtxNe fc F gc gl := by
  obtain ⟨cu1, h1⟩ := owned_elem h.code.codes
  obtain ⟨cu2, h2⟩ := owned_elem h.code.lines
  obtain ⟨e1, k1, q1, _⟩ := h.ownL
  obtain ⟨e2, k2, q2, _⟩ := h.own1
  obtain ⟨e3, k3, q3, _⟩ := h.own2
  have a := h.blk
  have b := h.code.blk
  have c := h.bblk
  have d := h.code.apart
  exact ⟨blocks_ne a b (by simp), blocks_ne a c (by simp), blocks_ne a q1 (by simp), blocks_ne a q2 (by simp), blocks_ne a q3 (by simp), blocks_ne a h1 (by simp), blocks_ne a h2 (by simp),
    blocks_ne b c (by simp), blocks_ne b q1 (by simp), blocks_ne b q2 (by simp), blocks_ne b q3 (by simp), by omega, blocks_ne c q2 (by simp), blocks_ne c q3 (by simp), blocks_ne c h1 (by simp), blocks_ne c h2 (by simp),
    blocks_ne h1 q1 (by simp), blocks_ne h1 q2 (by simp), blocks_ne h1 q3 (by simp), blocks_ne h2 q1 (by simp), blocks_ne h2 q2 (by simp), blocks_ne h2 q3 (by simp), h.ne1, h.ne2, h.ne12, d.1, d.2.1, d.2.2⟩

/-- the blocks of a context -/
def CtxAll (fc : Nat) (F : FcAt) (gc gl : Nat) (P : Nat → Prop) : Prop := P fc ∧ P F.c ∧ P gc ∧ P gl ∧ P (F.b + 1) ∧ P F.b ∧ P F.M1 ∧ P F.M2

theorem Ctx.lt {w : World} {β fc : Nat} {F : FcAt} {gb : Value × Option Addr} {gc cc gl cl : Nat} {is ls : List Int} {cnt : Int} {up : Bool} {DL D1 D2 : DataW Unit} {nL n1 n2 : Nat} (h : Ctx w β fc F gb gc cc gl cl is ls cnt up DL D1 D2 nL n1 n2) : CtxAll fc F gc gl (fun k => k < w.heap.size) := by
  obtain ⟨cu1, h1⟩ := owned_elem h.code.codes
  obtain ⟨cu2, h2⟩ := owned_elem h.code.lines
  obtain ⟨e1, k1, q1, _⟩ := h.ownL
  obtain ⟨e2, k2, q2, _⟩ := h.own1
  obtain ⟨e3, k3, q3, _⟩ := h.own2
  exact ⟨lt_of_block h.blk, lt_of_block h.code.blk, lt_of_block h1, lt_of_block h2, lt_of_block h.bblk, lt_of_block q1, lt_of_block q2, lt_of_block q3⟩

theorem Ctx.ges {w : World} {β fc : Nat} {F : FcAt} {gb : Value × Option Addr} {gc cc gl cl : Nat} {is ls : List Int} {cnt : Int} {up : Bool} {DL D1 D2 : DataW Unit} {nL n1 n2 : Nat} (h : Ctx w β fc F gb gc cc gl cl is ls cnt up DL D1 D2 nL n1 n2) : CtxAll fc F gc gl (fun k => β ≤ k) :=
  ⟨h.ge, h.cge, (h.code.codes.lt _ rfl).1, (h.code.lines.lt _ rfl).1, by have := h.bge; omega, h.bge, h.m1ge, h.m2ge⟩

theorem CtxAll.mono {fc : Nat} {F : FcAt} {gc gl : Nat} {P Q : Nat → Prop} (h : CtxAll fc F gc gl P) (k : ∀ x, P x → Q x) : CtxAll fc F gc gl Q :=
  ⟨k _ h.1, k _ h.2.1, k _ h.2.2.1, k _ h.2.2.2.1, k _ h.2.2.2.2.1, k _ h.2.2.2.2.2.1, k _ h.2.2.2.2.2.2.1, k _ h.2.2.2.2.2.2.2⟩

theorem Ctx.kept {w' : World} {G : Nat → Prop} {w : World} {β fc : Nat} {F : FcAt} {gb : Value × Option Addr} {gc cc gl cl : Nat} {is ls : List Int} {cnt : Int} {up : Bool} {DL D1 D2 : DataW Unit} {nL n1 n2 : Nat} (h : Ctx w β fc F gb gc cc gl cl is ls cnt up DL D1 D2 nL n1 n2) (t : Turn w w' G) (a : CtxAll fc F gc gl (fun k => ¬ G k)) : Ctx w' β fc F gb gc cc gl cl is ls cnt up DL D1 D2 nL n1 n2 := by
  obtain ⟨a1, a2, a3, a4, a5, a6, a7, a8⟩ := a
  exact ⟨h.ge, t.heap h.blk a1, h.code.kept t a2 a3 a4, h.cge, t.heap h.bblk a5, h.bge, ownsMap_kept h.ownL t a6, ownsMap_kept h.own1 t a7, h.m1ge, ownsMap_kept h.own2 t a8, h.m2ge, h.ne1, h.ne2, h.ne12⟩

theorem Ctx.same {w' : World} {w : World} {β fc : Nat} {F : FcAt} {gb : Value × Option Addr} {gc cc gl cl : Nat} {is ls : List Int} {cnt : Int} {up : Bool} {DL D1 D2 : DataW Unit} {nL n1 n2 : Nat} (h : Ctx w β fc F gb gc cc gl cl is ls cnt up DL D1 D2 nL n1 n2) (t : Turn w w' (fun _ => False)) : Ctx w' β fc F gb gc cc gl cl is ls cnt up DL D1 D2 nL n1 n2 :=
  h.kept t ⟨id, id, id, id, id, id, id, id⟩

/-- the code alone has turned -/
theorem Ctx.coded {w' : World} {is' ls' : List Int} {gc' cc' gl' cl' : Nat} {w : World} {β fc : Nat} {F : FcAt} {gb : Value × Option Addr} {gc cc gl cl : Nat} {is ls : List Int} {cnt : Int} {up : Bool} {DL D1 D2 : DataW Unit} {nL n1 n2 : Nat} (h : Ctx w β fc F gb gc cc gl cl is ls cnt up DL D1 D2 nL n1 n2) (t : Turn w w' (fun b => b = F.c ∨ b = gc ∨ b = gl)) (hc : Code w' β F.c gc' cc' gl' cl' is' ls') : Ctx w' β fc F gb gc' cc' gl' cl' is' ls' cnt up DL D1 D2 nL n1 n2 := by
  have n := h.nes
  have q : ∀ k, k ≠ F.c → k ≠ gc → k ≠ gl → ¬ (k = F.c ∨ k = gc ∨ k = gl) := fun k a b c d => d.elim a (fun d => d.elim b c)
  exact ⟨h.ge, t.heap h.blk (q _ n.fc_c n.fc_g n.fc_l), hc, h.cge, t.heap h.bblk (q _ n.c_k.symm n.k_g n.k_l), h.bge, ownsMap_kept h.ownL t (q _ n.c_b.symm n.g_b.symm n.l_b.symm), ownsMap_kept h.own1 t (q _ n.c_1.symm n.g_1.symm n.l_1.symm), h.m1ge,
    ownsMap_kept h.own2 t (q _ n.c_2.symm n.g_2.symm n.l_2.symm), h.m2ge, h.ne1, h.ne2, h.ne12⟩

/-- one map alone has turned -/
theorem Ctx.two {w' : World} {D2' : DataW Unit} {n2' : Nat} {w : World} {β fc : Nat} {F : FcAt} {gb : Value × Option Addr} {gc cc gl cl : Nat} {is ls : List Int} {cnt : Int} {up : Bool} {DL D1 D2 : DataW Unit} {nL n1 n2 : Nat} (h : Ctx w β fc F gb gc cc gl cl is ls cnt up DL D1 D2 nL n1 n2) (t : Turn w w' (fun b => b = F.M2)) (ho : w'.ownsMap Tryf.prog 3 ptrElem F.M2 n2' D2') : Ctx w' β fc F gb gc cc gl cl is ls cnt up DL D1 D2' nL n1 n2' := by
  have n := h.nes
  exact ⟨h.ge, t.heap h.blk n.fc_2, h.code.kept t n.c_2 n.g_2 n.l_2, h.cge, t.heap h.bblk n.k_2, h.bge, ownsMap_kept h.ownL t n.b_2, ownsMap_kept h.own1 t n.m12, h.m1ge, ho, h.m2ge, h.ne1, h.ne2, h.ne12⟩
theorem Ctx.one {w' : World} {D1' : DataW Unit} {n1' : Nat} {w : World} {β fc : Nat} {F : FcAt} {gb : Value × Option Addr} {gc cc gl cl : Nat} {is ls : List Int} {cnt : Int} {up : Bool} {DL D1 D2 : DataW Unit} {nL n1 n2 : Nat} (h : Ctx w β fc F gb gc cc gl cl is ls cnt up DL D1 D2 nL n1 n2) (t : Turn w w' (fun b => b = F.M1)) (ho : w'.ownsMap Tryf.prog 3 (plainElem Tryf.prog 3) F.M1 n1' D1') : Ctx w' β fc F gb gc cc gl cl is ls cnt up DL D1' D2 nL n1' n2 := by
  have n := h.nes
  exact ⟨h.ge, t.heap h.blk n.fc_1, h.code.kept t n.c_1 n.g_1 n.l_1, h.cge, t.heap h.bblk n.k_1, h.bge, ownsMap_kept h.ownL t n.b_1, ho, h.m1ge, ownsMap_kept h.own2 t n.m12.symm, h.m2ge, h.ne1, h.ne2, h.ne12⟩
theorem Ctx.names {w' : World} {DL' : DataW Unit} {nL' : Nat} {w : World} {β fc : Nat} {F : FcAt} {gb : Value × Option Addr} {gc cc gl cl : Nat} {is ls : List Int} {cnt : Int} {up : Bool} {DL D1 D2 : DataW Unit} {nL n1 n2 : Nat} (h : Ctx w β fc F gb gc cc gl cl is ls cnt up DL D1 D2 nL n1 n2) (t : Turn w w' (fun b => b = F.b)) (ho : w'.ownsMap Tryf.prog 9 ptrElem F.b nL' DL') : Ctx w' β fc F gb gc cc gl cl is ls cnt up DL' D1 D2 nL' n1 n2 := by
  have n := h.nes
  exact ⟨h.ge, t.heap h.blk n.fc_b, h.code.kept t n.c_b n.g_b n.l_b, h.cge, t.heap h.bblk n.k_b, h.bge, ho, ownsMap_kept h.own1 t n.b_1.symm, h.m1ge, ownsMap_kept h.own2 t n.b_2.symm, h.m2ge, h.ne1, h.ne2, h.ne12⟩
theorem Ctx.refs {w' : World} {up' : Bool} {w : World} {β fc : Nat} {F : FcAt} {gb : Value × Option Addr} {gc cc gl cl : Nat} {is ls : List Int} {cnt : Int} {up : Bool} {DL D1 D2 : DataW Unit} {nL n1 n2 : Nat} (h : Ctx w β fc F gb gc cc gl cl is ls cnt up DL D1 D2 nL n1 n2) (t : Turn w w' (fun b => b = F.b + 1)) (hb : w'.heap[F.b + 1]? = some (.cells (blkCells F.lv F.b gb.2 up') 67 (0, 0))) : Ctx w' β fc F gb gc cc gl cl is ls cnt up' DL D1 D2 nL n1 n2 := by
  have n := h.nes
  exact ⟨h.ge, t.heap h.blk n.fc_k, h.code.kept t n.c_k n.k_g.symm n.k_l.symm, h.cge, hb, h.bge, ownsMap_kept h.ownL t n.k_b.symm, ownsMap_kept h.own1 t n.k_1.symm, h.m1ge, ownsMap_kept h.own2 t n.k_2.symm, h.m2ge, h.ne1, h.ne2, h.ne12⟩

set_option maxRecDepth 100000 in
/-- a goto more in the pending map -/
theorem addGoto_any (β fc : Nat) (F : FcAt) (gb : Value × Option Addr) (gc cc gl cl : Nat) (is ls : List Int) (cnt : Nat) (up : Bool) (DL D1 D2 : DataW Unit) (nL n1 n2 l : Nat) (w : World) (h : Ctx w β fc F gb gc cc gl cl is ls cnt up DL D1 D2 nL n1 n2) (hn : n2 < maxLen) (hc : cnt ≤ 1048576) :
    Calls Tryf.prog 33 #[.pointer (some ⟨fc, 0, none⟩), .pointer (some ⟨l, 0, none⟩)] w fun e w' => e = .returned (.tuple #[]) ∧
      Ctx w' β fc F gb gc cc gl cl is ls ((cnt + 1 : Nat) : Int) up DL D1 (D2.put (kI cnt) (.lit (.int .i64 l))) nL n1 (n2 + 1) ∧ Turn w w' (fun k => k = fc ∨ k = F.M2) := by
  have c9 := cell_of_blk h.blk 9 (.int .i64 cnt) rfl
  have c10 := cell_of_blk h.blk 10 (.map (some F.M2)) rfl
  have hown := h.own2
  have hlets := h.lets
  have hkey : keyOf Tryf.prog 3 (.int .i64 cnt) = some (kI cnt) := keyOf_int_mk Tryf.underlying3 (by simp [Lit.wf, IntKind.min, IntKind.max, IntKind.signed, IntKind.bits]; omega)
  go_enter Tryf.func33, Tryf.ntmps33
  go_wp2_with fail
  go_still_tail 9, (by kernel_rfl)
  have hown' : w.drew.ownsMap Tryf.prog 3 ptrElem F.M2 n2 D2 := hown
  go_wp2_with (at_mapUpdate; refine wpList_mapUpdate_own _ rfl _ _ _ 38 rfl 3 27 intKey Tryf.underlying38 ptrElem F.M2 n2 D2 rfl hown' hn _ _ (kI cnt) rfl rfl hkey _ [] (ptrElem_mk l) ?_)
  intro w1 hown1 hgrow
  have T1 : Turn w w1 (fun k => k = fc ∨ k = F.M2) := (Turn.refl w _).drew.grown hgrow (fun k hk _ => by cases hk; exact .inr rfl)
  have b1 : w1.heap[fc]? = some (.cells (ctxCells F gb cnt) 40 (0, 0)) := by
    have := ((Turn.refl w (fun k => k = F.M2)).drew.grown hgrow (fun k hk _ => by cases hk; rfl)).heap h.blk hlets.2.2.2.2.1
    exact this
  have d9 := cell_of_blk b1 9 (.int .i64 cnt) rfl
  have f9 := free_of_blk b1 9
  have b2 := blk_setCell b1 9 (.int .i64 ((cnt + 1 : Nat) : Int))
  have T2 := T1.setCell (p := ⟨fc, 9, none⟩) (fun _ => .inl rfl) (.int .i64 ((cnt + 1 : Nat) : Int))
  have o2 : (w1.setCell ⟨fc, 9, none⟩ (.int .i64 ((cnt + 1 : Nat) : Int))).ownsMap Tryf.prog 3 ptrElem F.M2 (n2 + 1) (D2.put (kI cnt) (.lit (.int .i64 l))) :=
    ownsMap_kept hown1 ((Turn.refl w1 (fun k => k = fc)).setCell (p := ⟨fc, 9, none⟩) (fun _ => rfl) _) (fun e => hlets.2.2.2.2.1 e.symm)
  have HC := Lib.hid (h.gotos T2 b2 o2)
  have HT := Lib.hid T2
  have z1 : (cnt : Int) ≤ 1048576 := by omega
  clear h hown hown' hown1 hgrow T1 T2 b1 b2 o2 c9 c10 hkey hlets
  go_wp2
  go_end0
  exact ⟨rfl, HC.out, HT.out⟩
end Go.Proofs.YtdhmpfijdmlfoaaFmt
