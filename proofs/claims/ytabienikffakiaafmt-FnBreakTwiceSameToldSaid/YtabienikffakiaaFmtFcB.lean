/- newFuncContext's contract, with any parent, and with the new prototype's rows. -/
import Derived.Test.YtabienikffakiaaFmtNewPB
import Derived.Test.YtabienikffakiaaFmtBlockB
namespace Go.Proofs.YtabienikffakiaaFmt
open Go.RowKit
set_option linter.unusedVariables false

def MadeRow (β e size cap : Nat) (v : Value) (w : World) : Prop := ∃ g, v = .slice (some ⟨g, 0, none⟩) 0 cap ∧ w.ownsRow β e size v 0 []

theorem MadeRow.later {β e size cap : Nat} {v : Value} {w w' : World} (h : MadeRow β e size cap v w) (t : Turn w w' (fun _ => False)) : MadeRow β e size cap v w' := by
  obtain ⟨g, rfl, h⟩ := h
  exact ⟨g, rfl, t.ownsRow h (fun _ _ => id)⟩

/-- the blocks of a new function context -/
structure FcAt where
  (pr up c gc gl b lv glv M1 M2 : Nat)
  (upc lvc : Nat)
  par : Option Addr
  pg : Nat → Nat
  nm : ByteArray

def blockCells (lv b : Nat) : Array Value :=
  #[.pointer (some ⟨lv, 0, none⟩), .int .i64 0, .pointer none, .bool false, .int .i64 0, .int .i64 0, .map (some b), .int .i64 0]

def fcCells (F : FcAt) (blocks : Value) : Array Value :=
  #[.pointer (some ⟨F.pr, 0, none⟩), .pointer (some ⟨F.c, 0, none⟩), .pointer F.par, .pointer (some ⟨F.up, 0, none⟩), .pointer (some ⟨F.b + 1, 0, none⟩), blocks, .int .i64 0, .int .i64 1, .map (some F.M1), .int .i64 0, .map (some F.M2)]

/-- what the parts of a new function context hold, every block at β or above -/
structure FcIs (w : World) (β : Nat) (F : FcAt) : Prop where
  code : Code w β F.c F.gc 1024 F.gl 1024 [] []
  cge : β ≤ F.c
  lmap : w.heap[F.b]? = some (.map #[] 0)
  bge : β ≤ F.b
  blk : w.heap[F.b + 1]? = some (.cells (blockCells F.lv F.b) 71 (0, 0))
  lvp : Pool w β F.lv (.slice (some ⟨F.glv, 0, none⟩) 0 F.lvc) [] 0
  lvge : β ≤ F.lv
  m1 : w.heap[F.M1]? = some (.map #[] 0)
  m1ge : β ≤ F.M1
  m2 : w.heap[F.M2]? = some (.map #[] 0)
  m2ge : β ≤ F.M2
  ne1 : F.b ≠ F.M1
  ne2 : F.b ≠ F.M2
  ne12 : F.M1 ≠ F.M2
  proto : PS w β F.pr F.nm (v0 F.pg) (fun _ => [])

theorem FcIs.later {w w' : World} {β : Nat} {F : FcAt} (h : FcIs w β F) (t : Turn w w' (fun _ => False)) : FcIs w' β F :=
  ⟨h.code.kept t id id id, h.cge, t.heap h.lmap id, h.bge, t.heap h.blk id, h.lvp.kept t id (fun _ _ => id), h.lvge, t.heap h.m1 id, h.m1ge, t.heap h.m2 id, h.m2ge, h.ne1, h.ne2, h.ne12, h.proto.kept t id (fun _ _ _ _ _ => id)⟩

theorem FcIs.besides {w w' : World} {β fc : Nat} {F : FcAt} {X : Array Value} (h : FcIs w β F) (f : w.heap[fc]? = some (.cells X 62 (0, 0))) (t : Turn w w' (fun k => k = fc)) : FcIs w' β F := by
  have hne : ∀ (k : Nat) (o : Obj), w.heap[k]? = some o → (∀ Y, o ≠ .cells Y 62 (0, 0)) → ¬ k = fc := by
    rintro k o hk ho rfl
    rw [hk] at f
    exact ho X (by simpa using f)
  obtain ⟨cc, h1⟩ := owned_elem h.code.codes
  obtain ⟨cl, h2⟩ := owned_elem h.code.lines
  obtain ⟨cg, h3⟩ := owned_elem h.lvp.row
  exact ⟨h.code.kept t (hne _ _ h.code.blk (by simp)) (hne _ _ h1 (by simp)) (hne _ _ h2 (by simp)), h.cge, t.heap h.lmap (hne _ _ h.lmap (by simp)), h.bge, t.heap h.blk (hne _ _ h.blk (by simp)),
    h.lvp.kept t (hne _ _ h.lvp.blk (by simp)) (fun k hk => by cases hk; exact hne _ _ h3 (by simp)), h.lvge, t.heap h.m1 (hne _ _ h.m1 (by simp)), h.m1ge, t.heap h.m2 (hne _ _ h.m2 (by simp)), h.m2ge, h.ne1, h.ne2, h.ne12, h.proto.kept t (hne _ _ h.proto.blk (by simp)) (fun f k a b hk => by
      obtain ⟨g, n, cap, e, r, _⟩ := h.proto.row f a b
      rw [e] at r hk
      obtain ⟨cu, hu⟩ := owned_elem r
      obtain rfl : g = k := by simpa [Value.ownBlock] using hk
      exact hne _ _ hu (fun Y hY => el_ne_fc f a b (by simpa using (Obj.cells.inj hY).2.1)))⟩

def FcMade (s : ByteArray) (par : Option Addr) (w : World) (e : Ending) (w' : World) : Prop :=
  ∃ fc F g, e = .returned (.pointer (some ⟨fc, 0, none⟩)) ∧ w.heap.size ≤ fc ∧ w'.heap[fc]? = some (.cells (fcCells F (.slice (some ⟨g, 0, none⟩) 1 1)) 62 (0, 0)) ∧ FcIs w' w.heap.size F ∧ Turn w w' (fun _ => False) ∧ w.heap.size ≤ g ∧ w'.heap[g]? = some (.cells #[.pointer (some ⟨F.b + 1, 0, none⟩)] 32 (0, 0)) ∧ F.par = par ∧ F.nm = s

def FcSlot (s : ByteArray) (par : Option Addr) (β : Nat) (j : Nat) (v : Value) (w : World) : Prop :=
  match j with
  | 0 => v = .string s
  | 1 => ∃ p g, v = .pointer (some ⟨p, 0, none⟩) ∧ PS w β p s (v0 g) (fun _ => [])
  | 2 => MadeRow β 47 1 1024 v w
  | 3 => MadeRow β 3 1 1024 v w
  | 4 => ∃ gc gl, v = .agg #[.slice (some ⟨gc, 0, none⟩) 0 1024, .slice (some ⟨gl, 0, none⟩) 0 1024, .int .i64 0] ∧ w.ownsRow β 47 1 (.slice (some ⟨gc, 0, none⟩) 0 1024) 0 [] ∧ w.ownsRow β 3 1 (.slice (some ⟨gl, 0, none⟩) 0 1024) 0 []
  | 5 => ∃ c gc gl, v = .pointer (some ⟨c, 0, none⟩) ∧ β ≤ c ∧ Code w β c gc 1024 gl 1024 [] []
  | 6 => v = .pointer par
  | 7 => ∃ p, v = .pointer (some ⟨p, 0, none⟩)
  | 8 => ∃ p g cap, v = .pointer (some ⟨p, 0, none⟩) ∧ β ≤ p ∧ Pool w β p (.slice (some ⟨g, 0, none⟩) 0 cap) [] 0
  | 9 => ∃ b lv g cap, v = .pointer (some ⟨b + 1, 0, none⟩) ∧ β ≤ b ∧ w.heap[b]? = some (.map #[] 0) ∧ w.heap[b + 1]? = some (.cells (blockCells lv b) 71 (0, 0)) ∧ β ≤ lv ∧ Pool w β lv (.slice (some ⟨g, 0, none⟩) 0 cap) [] 0
  | 10 => ∃ M, v = .map (some M) ∧ β ≤ M ∧ w.heap[M]? = some (.map #[] 0)
  | 11 => ∃ M, v = .map (some M) ∧ β ≤ M ∧ w.heap[M]? = some (.map #[] 0)
  | 12 => ∃ F, v = .agg (fcCells F (.slice none 0 0)) ∧ FcIs w β F ∧ F.par = par ∧ F.nm = s
  | _ => ∃ fc F, v = .pointer (some ⟨fc, 0, none⟩) ∧ β ≤ fc ∧ w.heap[fc]? = some (.cells (fcCells F (.slice none 0 0)) 62 (0, 0)) ∧ FcIs w β F ∧ F.par = par ∧ F.nm = s

def FcFoot (j : Nat) (v : Value) (x : Nat) : Prop :=
  match j with
  | 9 => ∃ b, v = .pointer (some ⟨b + 1, 0, none⟩) ∧ x = b
  | 10 => v = .map (some x)
  | 11 => v = .map (some x)
  | _ => False

theorem FcSlot.later {s : ByteArray} {par : Option Addr} {β j : Nat} {v : Value} {w w' : World} (h : FcSlot s par β j v w) (t : Turn w w' (fun _ => False)) : FcSlot s par β j v w' := by
  unfold FcSlot at *
  split at h
  all_goals first
    | exact h
    | exact h.later t
    | (obtain ⟨gc, gl, h1, h2, h3⟩ := h; exact ⟨gc, gl, h1, t.ownsRow h2 (fun _ _ => id), t.ownsRow h3 (fun _ _ => id)⟩)
    | (obtain ⟨c, gc, gl, h1, h2, h3⟩ := h; exact ⟨c, gc, gl, h1, h2, h3.kept t id id id⟩)
    | (obtain ⟨p, g, cap, h1, h2, h3⟩ := h; exact ⟨p, g, cap, h1, h2, h3.kept t id (fun _ _ => id)⟩)
    | (obtain ⟨b, lv, g, cap, h1, h2, h3, h4, h5, h6⟩ := h; exact ⟨b, lv, g, cap, h1, h2, t.heap h3 id, t.heap h4 id, h5, h6.kept t id (fun _ _ => id)⟩)
    | (obtain ⟨M, h1, h2, h3⟩ := h; exact ⟨M, h1, h2, t.heap h3 id⟩)
    | (obtain ⟨p, g, h1, h2⟩ := h; exact ⟨p, g, h1, h2.kept t id (fun _ _ _ _ _ => id)⟩)
    | (obtain ⟨F, h1, h2, h3⟩ := h; exact ⟨F, h1, h2.later t, h3⟩)
    | (obtain ⟨fc, F, h1, h2, h3, h4, h5⟩ := h; exact ⟨fc, F, h1, h2, t.heap h3 id, h4.later t, h5⟩)

/-- a call of a function of the program, at a drawn region's step -/
theorem wp_call {Q : Exit → Act → World → Prop} {K : Act → World → Prop} {o : Oper} {a : Act} {w : World} {f : FuncId} {vals : Array Value} (hrun : (execOp a.eval o).run Tryf.prog w = .ok (.enter f vals) w)
    (hc : Calls Tryf.prog f vals w (fun e w' => ∃ v, e = .returned v ∧ K (a.put o.dst v) w')) : o.wp Tryf.prog a w K Q := by
  unfold Oper.wp
  rw [hrun]
  unfold Oper.upon
  exact hc.mono fun e w' ⟨v, he, hk⟩ => by subst he; exact hk

theorem make_wp {Q : Exit → Act → World → Prop} {K : Act → World → Prop} (t e : TypeId) (z : Value) (size bytes cap : Nat) (h1 : Tryf.prog.underlying t = some (.slice e)) (hinfo : (Tryf.prog.info? e).map (fun i => (i.zero, i.size, i.bytes)) = some (some z, size, bytes)) (β : Nat) (a : Act) (w : World) (hβ : β ≤ w.heap.size) (b2 : bytes * cap ≤ 281474976710656) (b3 : cap ≤ maxLen)
    (o : Oper) (hop : o.op = .makeSlice t (.const (.int .i64 0)) (.const (.int .i64 cap))) (hK : ∀ v w', MadeRow β e size cap v w' → Turn w w' (fun _ => False) → K (a.put o.dst v) w') : o.wp Tryf.prog a w K Q := by
  obtain ⟨v, w2, q1, q2, q3⟩ := make_step t e z size bytes cap h1 hinfo o hop b2 b3 β a w hβ
  exact wp_value q1 (hK v w2 q2 q3)

theorem lit29 (l : List Value) (h : l.length = 29) : ∃ x0 x1 x2 x3 x4 x5 x6 x7 x8 x9 x10 x11 x12 x13 x14 x15 x16 x17 x18 x19 x20 x21 x22 x23 x24 x25 x26 x27 x28, l = [x0, x1, x2, x3, x4, x5, x6, x7, x8, x9, x10, x11, x12, x13, x14, x15, x16, x17, x18, x19, x20, x21, x22, x23, x24, x25, x26, x27, x28] := by
  match l, h with
  | [x0, x1, x2, x3, x4, x5, x6, x7, x8, x9, x10, x11, x12, x13, x14, x15, x16, x17, x18, x19, x20, x21, x22, x23, x24, x25, x26, x27, x28], _ => exact ⟨x0, x1, x2, x3, x4, x5, x6, x7, x8, x9, x10, x11, x12, x13, x14, x15, x16, x17, x18, x19, x20, x21, x22, x23, x24, x25, x26, x27, x28, rfl⟩

set_option maxRecDepth 100000 in
theorem newFc_any (s : ByteArray) (par : Option Addr) (w : World) :
    Calls Tryf.prog 32 #[.string s, .pointer par] w (FcMade s par w) := by
  go_enter Tryf.func32, Tryf.ntmps32
  go_wp2_with fail
  refine wp_region_news (by kernel_rfl) (FcSlot s par w.heap.size) FcFoot (by kernel_rfl) (by kernel_rfl) (fun j v w1 w2 h t => h.later t) ?_ ?_
  · intro i o ho a w1 hT hnd hV hF K hK
    have hi := lt_of_get ho
    simp at hi
    have hβ := hT.size
    have n0 := hnd 0 (nondst (by kernel_rfl))
    have n1 := hnd 1 (nondst (by kernel_rfl))
    clear hnd
    rcases (by omega : i = 0 ∨ i = 1 ∨ i = 2 ∨ i = 3 ∨ i = 4 ∨ i = 5 ∨ i = 6 ∨ i = 7 ∨ i = 8 ∨ i = 9 ∨ i = 10 ∨ i = 11 ∨ i = 12 ∨ i = 13 ∨ i = 14) with rfl | rfl | rfl | rfl | rfl | rfl | rfl | rfl | rfl | rfl | rfl | rfl | rfl | rfl | rfl
    all_goals (simp at ho; subst ho)
    · exact wp_value (by simp [execOp, Act.eval, n0]) (hK (.string s) w1 rfl (Turn.refl _ _) (fun x h => h.elim))
    · have k0 : a.tmps.getD 6 undef = .string s := hV ⟨0, .data⟩ (by simp) rfl _ 6 rfl rfl
      refine wp_call (f := 41) (vals := #[.string s]) (by simp only [execOp, resolve, Act.eval, List.map_toArray, List.map_cons, List.map_nil, k0]; kernel_rfl) ((newProto_any s w1).mono ?_)
      rintro e w2 ⟨p, g, rfl, h1, h3⟩
      exact ⟨_, rfl, hK _ w2 ⟨p, g, rfl, h1.weaken hβ⟩ h3 (fun x h => h.elim)⟩
    · exact make_wp 43 47 (.int .u32 0) 1 4 1024 Tryf.underlying43 infoU32 w.heap.size a w1 hβ (by omega) (by unfold maxLen; omega) _ (by rfl) (fun v w2 h2 h3 => hK v w2 h2 h3 (fun x h => h.elim))
    · exact make_wp 23 3 (.int .i64 0) 1 8 1024 Tryf.underlying23 infoInt w.heap.size a w1 hβ (by omega) (by unfold maxLen; omega) _ (by rfl) (fun v w2 h2 h3 => hK v w2 h2 h3 (fun x h => h.elim))
    · obtain ⟨gc, k1, r1⟩ : MadeRow _ _ _ 1024 (a.tmps.getD 8 undef) w1 := hV ⟨2, .data⟩ (by simp) rfl _ 8 rfl rfl
      obtain ⟨gl, k2, r2⟩ : MadeRow _ _ _ 1024 (a.tmps.getD 9 undef) w1 := hV ⟨3, .data⟩ (by simp) rfl _ 9 rfl rfl
      rw [k1] at r1
      rw [k2] at r2
      refine wp_value (v := .agg #[.slice (some ⟨gc, 0, none⟩) 0 1024, .slice (some ⟨gl, 0, none⟩) 0 1024, .int .i64 0]) (w' := w1) ?_ (hK _ w1 ⟨gc, gl, rfl, r1, r2⟩ (Turn.refl _ _) (fun x h => h.elim))
      simp only [execOp, Act.eval, List.map_toArray, List.map_cons, List.map_nil, k1, k2]
      kernel_rfl
    · obtain ⟨gc, gl, k1, r1, r2⟩ : ∃ gc gl, a.tmps.getD 10 undef = .agg #[.slice (some ⟨gc, 0, none⟩) 0 1024, .slice (some ⟨gl, 0, none⟩) 0 1024, .int .i64 0] ∧ w1.ownsRow w.heap.size 47 1 (.slice (some ⟨gc, 0, none⟩) 0 1024) 0 [] ∧ w1.ownsRow w.heap.size 3 1 (.slice (some ⟨gl, 0, none⟩) 0 1024) 0 [] := hV ⟨4, .data⟩ (by simp) rfl _ 10 rfl rfl
      have T : Turn w1 (w1.alloc (.cells #[.slice (some ⟨gc, 0, none⟩) 0 1024, .slice (some ⟨gl, 0, none⟩) 0 1024, .int .i64 0] 54)) (fun _ => False) := (Turn.refl _ _).alloc _
      refine wp_value (v := .pointer (some ⟨w1.heap.size, 0, none⟩)) (w' := w1.alloc (.cells #[.slice (some ⟨gc, 0, none⟩) 0 1024, .slice (some ⟨gl, 0, none⟩) 0 1024, .int .i64 0] 54)) ?_
        (hK _ _ ⟨w1.heap.size, gc, gl, rfl, hβ, alloc_blk _ _, T.ownsRow r1 (fun _ _ => id), T.ownsRow r2 (fun _ _ => id)⟩ T (fun x h => h.elim))
      simp only [execOp, Act.eval, k1]
      kernel_rfl
    · exact wp_value (by simp [execOp, Act.eval, n1]) (hK (.pointer par) w1 rfl (Turn.refl _ _) (fun x h => h.elim))
    · refine wp_call (f := 42) (vals := #[.int .i64 0]) (by simp only [execOp, resolve, Act.eval, List.map_toArray, List.map_cons, List.map_nil]; kernel_rfl) ((newPool_any 0 w.heap.size w1 hβ).mono ?_)
      rintro e w2 ⟨p, v, rfl, h1, h2, h3, _⟩
      exact ⟨_, rfl, hK _ w2 ⟨p, rfl⟩ h2 (fun x h => h.elim)⟩
    · refine wp_call (f := 42) (vals := #[.int .i64 0]) (by simp only [execOp, resolve, Act.eval, List.map_toArray, List.map_cons, List.map_nil]; kernel_rfl) ((newPool_any 0 w.heap.size w1 hβ).mono ?_)
      rintro e w2 ⟨p, v, rfl, h1, h2, h3, g, cap, rfl, _⟩
      exact ⟨_, rfl, hK _ w2 ⟨p, g, cap, rfl, by omega, h1⟩ h2 (fun x h => h.elim)⟩
    · obtain ⟨p, g, cap, k8, r1, r2⟩ : ∃ p g cap, a.tmps.getD 14 undef = .pointer (some ⟨p, 0, none⟩) ∧ w.heap.size ≤ p ∧ Pool w1 w.heap.size p (.slice (some ⟨g, 0, none⟩) 0 cap) [] 0 := hV ⟨8, .data⟩ (by simp) rfl _ 14 rfl rfl
      refine wp_call (f := 43) (vals := #[.pointer (some ⟨p, 0, none⟩), .int .i64 0, .pointer none, .nilIface, .int .i64 0]) (by simp only [execOp, resolve, Act.eval, List.map_toArray, List.map_cons, List.map_nil, k8]; kernel_rfl) ((newCodeBlock_any (some ⟨p, 0, none⟩) none 0 0 w1).mono ?_)
      rintro e w2 ⟨rfl, rfl⟩
      have T := ((Turn.refl w1 (fun _ => False)).alloc (.map #[] 0)).alloc (.cells (blockCells p w1.heap.size) 71)
      refine ⟨_, rfl, hK _ _ ⟨w1.heap.size, p, g, cap, rfl, hβ, ?_, ?_, r1, r2.kept T id (fun _ _ => id)⟩ T ?_⟩
      · rw [Below.heap_alloc _ _ _ (by simp)]; exact heap_alloc_new w1 _
      · have := heap_alloc_new (w1.alloc (.map #[] 0)) (.cells (blockCells p w1.heap.size) 71)
        rwa [show (w1.alloc (.map #[] 0)).heap.size = w1.heap.size + 1 from by simp] at this
      · rintro x ⟨b', hb, rfl⟩
        have : w1.heap.size = x := by simpa using hb
        subst this
        refine ⟨Nat.le_refl _, ?_⟩
        simp
        try omega
    · refine wp_value (v := .map (some w1.heap.size)) (w' := w1.alloc (.map #[] 0)) ?_ (hK _ _ ⟨w1.heap.size, rfl, hβ, heap_alloc_new w1 _⟩ ((Turn.refl _ _).alloc _) ?_)
      · simp only [execOp]
        kernel_rfl
      · intro x hx
        have : w1.heap.size = x := by simpa [FcFoot] using hx
        subst this
        simp
    · refine wp_value (v := .map (some w1.heap.size)) (w' := w1.alloc (.map #[] 0)) ?_ (hK _ _ ⟨w1.heap.size, rfl, hβ, heap_alloc_new w1 _⟩ ((Turn.refl _ _).alloc _) ?_)
      · simp only [execOp]
        kernel_rfl
      · intro x hx
        have : w1.heap.size = x := by simpa [FcFoot] using hx
        subst this
        simp
    · obtain ⟨pr, pgg, k1, hps⟩ : ∃ p g, a.tmps.getD 7 undef = .pointer (some ⟨p, 0, none⟩) ∧ PS w1 w.heap.size p s (v0 g) (fun _ => []) := hV ⟨1, .data⟩ (by simp) rfl _ 7 rfl rfl
      obtain ⟨c, gc, gl, k5, c1, c2⟩ : ∃ c gc gl, a.tmps.getD 11 undef = .pointer (some ⟨c, 0, none⟩) ∧ w.heap.size ≤ c ∧ Code w1 w.heap.size c gc 1024 gl 1024 [] [] := hV ⟨5, .data⟩ (by simp) rfl _ 11 rfl rfl
      have k6 : a.tmps.getD 12 undef = .pointer par := hV ⟨6, .data⟩ (by simp) rfl _ 12 rfl rfl
      obtain ⟨up, k7⟩ : ∃ p, a.tmps.getD 13 undef = .pointer (some ⟨p, 0, none⟩) := hV ⟨7, .data⟩ (by simp) rfl _ 13 rfl rfl
      obtain ⟨b, lv, g, cap, k9, b1, b2, b3, b4, b5⟩ : ∃ b lv g cap, a.tmps.getD 15 undef = .pointer (some ⟨b + 1, 0, none⟩) ∧ w.heap.size ≤ b ∧ w1.heap[b]? = some (.map #[] 0) ∧ w1.heap[b + 1]? = some (.cells (blockCells lv b) 71 (0, 0)) ∧ w.heap.size ≤ lv ∧ Pool w1 w.heap.size lv (.slice (some ⟨g, 0, none⟩) 0 cap) [] 0 := hV ⟨9, .data⟩ (by simp) rfl _ 15 rfl rfl
      obtain ⟨M1, k10, m1, m1'⟩ : ∃ M, a.tmps.getD 16 undef = .map (some M) ∧ w.heap.size ≤ M ∧ w1.heap[M]? = some (.map #[] 0) := hV ⟨10, .data⟩ (by simp) rfl _ 16 rfl rfl
      obtain ⟨M2, k11, m2, m2'⟩ : ∃ M, a.tmps.getD 17 undef = .map (some M) ∧ w.heap.size ≤ M ∧ w1.heap[M]? = some (.map #[] 0) := hV ⟨11, .data⟩ (by simp) rfl _ 17 rfl rfl
      have s1 : b ≠ M1 := fun e => hF ⟨9, .data⟩ (by simp) ⟨10, .data⟩ (by simp) rfl rfl (by decide) _ _ 15 16 b rfl rfl rfl rfl ⟨b, k9, rfl⟩ (by rw [k10, e]; rfl)
      have s2 : b ≠ M2 := fun e => hF ⟨9, .data⟩ (by simp) ⟨11, .data⟩ (by simp) rfl rfl (by decide) _ _ 15 17 b rfl rfl rfl rfl ⟨b, k9, rfl⟩ (by rw [k11, e]; rfl)
      have s3 : M1 ≠ M2 := fun e => hF ⟨10, .data⟩ (by simp) ⟨11, .data⟩ (by simp) rfl rfl (by decide) _ _ 16 17 M1 rfl rfl rfl rfl (by rw [k10]; rfl) (by rw [k11, e]; rfl)
      clear hV hF
      refine wp_value (v := .agg (fcCells ⟨pr, up, c, gc, gl, b, lv, g, M1, M2, 0, cap, par, pgg, s⟩ (.slice none 0 0))) (w' := w1) ?_ (hK _ w1 ⟨⟨pr, up, c, gc, gl, b, lv, g, M1, M2, 0, cap, par, pgg, s⟩, rfl, ⟨c2, c1, b2, b1, b3, b5, b4, m1', m1, m2', m2, s1, s2, s3, hps⟩, rfl, rfl⟩ (Turn.refl _ _) (fun x h => h.elim))
      simp only [execOp, Act.eval, List.map_toArray, List.map_cons, List.map_nil, k1, k5, k6, k7, k9, k10, k11]
      kernel_rfl
    · obtain ⟨F, k12, f1, f9⟩ : ∃ F, a.tmps.getD 18 undef = .agg (fcCells F (.slice none 0 0)) ∧ FcIs w1 w.heap.size F ∧ F.par = par ∧ F.nm = s := hV ⟨12, .data⟩ (by simp) rfl _ 18 rfl rfl
      have T : Turn w1 (w1.alloc (.cells (fcCells F (.slice none 0 0)) 62)) (fun _ => False) := (Turn.refl _ _).alloc _
      refine wp_value (v := .pointer (some ⟨w1.heap.size, 0, none⟩)) (w' := w1.alloc (.cells (fcCells F (.slice none 0 0)) 62)) ?_ (hK _ _ ⟨w1.heap.size, F, rfl, hβ, alloc_blk _ _, f1.later T, f9⟩ T (fun x h => h.elim))
      simp only [execOp, Act.eval, k12]
      kernel_rfl
    · obtain ⟨fc, F, k13, f0, f1, f2, f9⟩ : ∃ fc F, a.tmps.getD 19 undef = .pointer (some ⟨fc, 0, none⟩) ∧ w.heap.size ≤ fc ∧ w1.heap[fc]? = some (.cells (fcCells F (.slice none 0 0)) 62 (0, 0)) ∧ FcIs w1 w.heap.size F ∧ F.par = par ∧ F.nm = s := hV ⟨13, .data⟩ (by simp) rfl _ 19 rfl rfl
      exact wp_value (by simp [execOp, Act.eval, k13]) (hK (.pointer (some ⟨fc, 0, none⟩)) w1 ⟨fc, F, rfl, f0, f1, f2, f9⟩ (Turn.refl _ _) (fun x h => h.elim))
  · intro a w1 hsz hdf hnd hV hdis hT
    obtain ⟨fc, F, k13, f0, f1, f2, f9⟩ : ∃ fc F, a.tmps.getD 5 undef = .pointer (some ⟨fc, 0, none⟩) ∧ w.heap.size ≤ fc ∧ w1.heap[fc]? = some (.cells (fcCells F (.slice none 0 0)) 62 (0, 0)) ∧ FcIs w1 w.heap.size F ∧ F.par = par ∧ F.nm = s := hV 14 _ 5 rfl rfl
    clear hV hdis hnd
    rename_i K hK
    refine hK a w1 ?_
    clear hK
    obtain ⟨⟨l⟩, df⟩ := a
    obtain ⟨x0, x1, x2, x3, x4, x5, x6, x7, x8, x9, x10, x11, x12, x13, x14, x15, x16, x17, x18, x19, x20, x21, x22, x23, x24, x25, x26, x27, x28, rfl⟩ := lit29 l (by simpa using hsz)
    obtain rfl : df = [] := hdf
    obtain rfl : x5 = .pointer (some ⟨fc, 0, none⟩) := k13
    have e4 := cell_of_blk f1 4 (.pointer (some ⟨F.b + 1, 0, none⟩)) rfl
    have e5 := cell_of_blk f1 5 (.slice none 0 0) rfl
    have e6 := free_of_blk f1 5
    have hlt := lt_of_block f1
    clear hsz
    have T1 : Turn w1 (w1.setCell ⟨fc, 5, none⟩ (.slice (some ⟨w1.heap.size, 0, none⟩) 1 1)) (fun k => k = fc) := (Turn.refl w1 (fun k => k = fc)).setCell (p := ⟨fc, 5, none⟩) (fun _ => rfl) (.slice (some ⟨w1.heap.size, 0, none⟩) 1 1)
    have T2 := T1.alloc (.cells #[.pointer (some ⟨F.b + 1, 0, none⟩)] 32)
    have b2 := ((Turn.refl (w1.setCell ⟨fc, 5, none⟩ (.slice (some ⟨w1.heap.size, 0, none⟩) 1 1)) (fun _ => False)).alloc (.cells #[.pointer (some ⟨F.b + 1, 0, none⟩)] 32)).heap (blk_setCell f1 5 (.slice (some ⟨w1.heap.size, 0, none⟩) 1 1)) id
    have TT := (hT.setCell (p := ⟨fc, 5, none⟩) (fun h => by have : fc < w.heap.size := h; omega) (.slice (some ⟨w1.heap.size, 0, none⟩) 1 1)).alloc (.cells #[.pointer (some ⟨F.b + 1, 0, none⟩)] 32)
    have FF := f2.besides f1 T2
    have H1 := Lib.hid b2
    have H2 := Lib.hid TT
    have H3 := Lib.hid FF
    have H4 := Lib.hid (alloc_blk (w1.setCell ⟨fc, 5, none⟩ (.slice (some ⟨w1.heap.size, 0, none⟩) 1 1)) (.cells #[.pointer (some ⟨F.b + 1, 0, none⟩)] 32))
    have H5 := Lib.hid hT.size
    clear T1 T2 b2 TT FF f1 f2 hT
    go_wp2
    go_ret
    exact ⟨fc, F, w1.heap.size, rfl, f0, H1.out, H3.out, H2.out, H5.out, by simpa using H4.out, f9⟩
end Go.Proofs.YtabienikffakiaaFmt
