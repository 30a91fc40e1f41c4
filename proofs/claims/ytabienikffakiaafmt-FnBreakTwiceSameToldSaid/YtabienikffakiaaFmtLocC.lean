/- RegisterLocalVar's contract in whatever block: 'Loc' says what a context holds of its current block's locals. -/
import Derived.Test.YtabienikffakiaaFmtFcB
import Derived.Test.YtabienikffakiaaFmtDrawnEndB
import Derived.StillTailTactics
namespace Go.Proofs.YtabienikffakiaaFmt
open Go.RowKit
set_option linter.unusedVariables false

theorem setRegTop_any (fc : Nat) (n : Int) (x : Value) (w : World) (h : w.cell? ⟨fc, 6, none⟩ = some x) (hf : w.frozen? ⟨fc, 6, none⟩ = false) (hn : n ≤ 200) :
    Calls Tryf.prog 46 #[.pointer (some ⟨fc, 0, none⟩), .int .i64 n] w fun e w' => e = .returned (.tuple #[]) ∧ w.setCell ⟨fc, 6, none⟩ (.int .i64 n) = w' := by
  go_enter Tryf.func46, Tryf.ntmps46
  go_wp2
  go_end0
  exact ⟨rfl, rfl⟩
theorem regTop_any (fc : Nat) (n : Int) (w : World) (h : w.cell? ⟨fc, 6, none⟩ = some (.int .i64 n)) :
    Calls Tryf.prog 47 #[.pointer (some ⟨fc, 0, none⟩)] w fun e w' => e = .returned (.int .i64 n) ∧ w' = w := by
  go_enter Tryf.func47, Tryf.ntmps47
  go_wp2
  go_ret
  exact ⟨rfl, rfl⟩
theorem lastPC_any (c : Nat) (n : Int) (w : World) (h : w.cell? ⟨c, 2, none⟩ = some (.int .i64 n)) (h0 : 0 ≤ n) (h1 : n ≤ 1048576) :
    Calls Tryf.prog 45 #[.pointer (some ⟨c, 0, none⟩)] w fun e w' => e = .returned (.int .i64 (n - 1)) ∧ w' = w := by
  go_enter Tryf.func45, Tryf.ntmps45
  go_wp2
  go_ret
  exact ⟨rfl, rfl⟩

def locCells (F : FcAt) (bl : Nat) (gbv : Value) (rt lid : Int) : Array Value :=
  #[.pointer (some ⟨F.pr, 0, none⟩), .pointer (some ⟨F.c, 0, none⟩), .pointer F.par, .pointer (some ⟨F.up, 0, none⟩), .pointer (some ⟨bl, 0, none⟩), gbv, .int .i64 rt, .int .i64 lid, .map (some F.M1), .int .i64 0, .map (some F.M2)]

/-- a context whose current block bl declares the names ss from register off on; n locals are listed in its prototype -/
structure Loc (w : World) (β fc : Nat) (F : FcAt) (gbv : Value) (bl lv : Nat) (bc : Array Value) (off rt lid : Int) (n : Nat) (pv : Value) (v : Nat → Value) (xs : List Value) (ss : List ByteArray) : Prop where
  ge : β ≤ fc
  blk : w.heap[fc]? = some (.cells (locCells F bl gbv rt lid) 62 (0, 0))
  code : Code w β F.c F.gc 1024 F.gl 1024 [] []
  cge : β ≤ F.c
  bblk : w.heap[bl]? = some (.cells bc 71 (0, 0))
  bc0 : bc[0]? = some (.pointer (some ⟨lv, 0, none⟩))
  pool : Pool w β lv pv ss off
  lvge : β ≤ lv
  pblk : w.heap[F.pr]? = some (.cells (pCells F.nm v) 86 (0, 0))
  prge : β ≤ F.pr
  row : ∃ g cap, v 11 = .slice (some ⟨g, 0, none⟩) n cap ∧ w.ownsRow β 87 1 (.slice (some ⟨g, 0, none⟩) n cap) n xs

theorem lit45 (l : List Value) (h : l.length = 45) : ∃ x0 x1 x2 x3 x4 x5 x6 x7 x8 x9 x10 x11 x12 x13 x14 x15 x16 x17 x18 x19 x20 x21 x22 x23 x24 x25 x26 x27 x28 x29 x30 x31 x32 x33 x34 x35 x36 x37 x38 x39 x40 x41 x42 x43 x44, l = [x0, x1, x2, x3, x4, x5, x6, x7, x8, x9, x10, x11, x12, x13, x14, x15, x16, x17, x18, x19, x20, x21, x22, x23, x24, x25, x26, x27, x28, x29, x30, x31, x32, x33, x34, x35, x36, x37, x38, x39, x40, x41, x42, x43, x44] := by
  match l, h with
  | x0 :: x1 :: x2 :: x3 :: x4 :: x5 :: x6 :: x7 :: x8 :: x9 :: x10 :: x11 :: x12 :: x13 :: x14 :: x15 :: x16 :: x17 :: x18 :: x19 :: x20 :: x21 :: x22 :: x23 :: x24 :: x25 :: x26 :: x27 :: x28 :: x29 :: x30 :: x31 :: x32 :: x33 :: x34 :: x35 :: x36 :: x37 :: x38 :: x39 :: x40 :: x41 :: x42 :: x43 :: x44 :: [], _ => exact ⟨x0, x1, x2, x3, x4, x5, x6, x7, x8, x9, x10, x11, x12, x13, x14, x15, x16, x17, x18, x19, x20, x21, x22, x23, x24, x25, x26, x27, x28, x29, x30, x31, x32, x33, x34, x35, x36, x37, x38, x39, x40, x41, x42, x43, x44, rfl⟩

def LocMore (β fc : Nat) (F : FcAt) (gbv : Value) (bl lv : Nat) (bc : Array Value) (off rt lid : Int) (n : Nat) (pv : Value) (v : Nat → Value) (xs : List Value) (ss : List ByteArray) (s : ByteArray) (w : World) (e : Ending) (w' : World) : Prop :=
  ∃ pv' v' xs', e = .returned (.int .i64 (wrap64 (ss.length + off))) ∧ Loc w' β fc F gbv bl lv bc off (rt + 1) lid (n + 1) pv' v' xs' (ss ++ [s]) ∧ Turn w w' (fun k => k = fc ∨ k = lv ∨ pv.ownBlock = some k ∨ k = F.pr ∨ (v 11).ownBlock = some k) ∧ (pv'.ownBlock = pv.ownBlock ∨ ∃ g, pv'.ownBlock = some g ∧ w.heap.size ≤ g) ∧ ((v' 11).ownBlock = (v 11).ownBlock ∨ ∃ g, (v' 11).ownBlock = some g ∧ w.heap.size ≤ g)

def RlSlot (s : ByteArray) (fc : Nat) (F : FcAt) (β gr n cap : Nat) (xs : List Value) (B : Nat) (j : Nat) (v : Value) (w : World) : Prop :=
  match j with
  | 0 => v = .pointer (some ⟨fc, 0, none⟩)
  | 1 => v = .pointer (some ⟨fc, 0, none⟩)
  | 2 => v = .pointer (some ⟨fc, 0, none⟩)
  | 3 => v = .pointer (some ⟨F.pr, 0, none⟩)
  | 4 => v = .pointer (some ⟨fc, 0, none⟩)
  | 5 => v = .pointer (some ⟨fc, 0, none⟩)
  | 6 => v = .pointer (some ⟨fc, 0, none⟩)
  | 7 => v = .pointer (some ⟨F.pr, 0, none⟩)
  | 8 => v = .pointer (some ⟨F.pr, 0, none⟩)
  | 9 => v = .pointer (some ⟨F.pr, 11, none⟩)
  | 10 => v = .slice (some ⟨gr, 0, none⟩) n cap
  | 11 => v = .string s
  | 12 => v = .pointer (some ⟨fc, 0, none⟩)
  | 13 => v = .pointer (some ⟨fc, 0, none⟩)
  | 14 => v = .pointer (some ⟨fc, 1, none⟩)
  | 15 => v = .pointer (some ⟨F.c, 0, none⟩)
  | 16 => v = .int .i64 (-1)
  | 17 => v = .int .i64 0
  | 18 => v = .agg #[.string s, .int .i64 0, .int .i64 0]
  | 19 => ∃ l, v = .pointer (some ⟨l, 0, none⟩)
  | 20 => ∃ t l, v = .slice (some ⟨t, 0, none⟩) 1 1 ∧ t ≠ gr ∧ w.heap[t]? = some (.cells #[.pointer (some ⟨l, 0, none⟩)] 87 (0, 0))
  | 21 => ∃ q c x, v = .slice (some ⟨q, 0, none⟩) (n + 1) c ∧ w.ownsRow β 87 1 (.slice (some ⟨q, 0, none⟩) (n + 1) c) (n + 1) (xs ++ [x]) ∧ (q = gr ∨ B ≤ q)
  | 22 => v = .pointer (some ⟨F.pr, 0, none⟩)
  | _ => v = .pointer (some ⟨F.pr, 11, none⟩)

theorem RlSlot.later {s : ByteArray} {fc : Nat} {F : FcAt} {β gr n cap : Nat} {xs : List Value} {B j : Nat} {v : Value} {w w' : World} (h : RlSlot s fc F β gr n cap xs B j v w) (t : Turn w w' (fun k => k = gr)) (t0 : j = 21 → Turn w w' (fun _ => False)) : RlSlot s fc F β gr n cap xs B j v w' := by
  unfold RlSlot at *
  split at h
  all_goals first
    | exact h
    | (obtain ⟨c, l, h1, h2, h3⟩ := h; exact ⟨c, l, h1, h2, t.heap h3 h2⟩)
    | (obtain ⟨q, c, x, h1, h2, h3⟩ := h; exact ⟨q, c, x, h1, (t0 rfl).ownsRow h2 (fun _ _ => id), h3⟩)

theorem infoDl : (Tryf.prog.info? 87).map (fun i => (i.zero, i.size, i.bytes)) = some (some (.pointer none), 1, 8) := by kernel_rfl

set_option maxRecDepth 100000 in
theorem regLocal_any (β fc : Nat) (F : FcAt) (gbv : Value) (bl lv : Nat) (bc : Array Value) (off rt lid : Int) (n : Nat) (pv : Value) (v : Nat → Value) (xs : List Value) (ss : List ByteArray) (s : ByteArray) (w : World) (h : Loc w β fc F gbv bl lv bc off rt lid n pv v xs ss) (hβ : β ≤ w.heap.size) (hss : ss.length ≤ 1048576) (hn : n < 1048576) (hr0 : 0 ≤ rt) (hr1 : rt < 200) :
    Calls Tryf.prog 33 #[.pointer (some ⟨fc, 0, none⟩), .string s] w (LocMore β fc F gbv bl lv bc off rt lid n pv v xs ss s w) := by
  have c4 := cell_of_blk h.blk 4 (.pointer (some ⟨bl, 0, none⟩)) rfl
  have b0 := cell_of_blk h.bblk 0 (.pointer (some ⟨lv, 0, none⟩)) h.bc0
  go_enter Tryf.func33, Tryf.ntmps33
  go_wp2_with fail
  refine (register_any β lv pv ss off s _ h.pool hβ hss).mono ?_
  rintro e w1 ⟨pv', rfl, hp1, hT1, hl1⟩
  obtain ⟨gr, cap, hv11, hrow⟩ := h.row
  have hcb := h.code.blk
  obtain ⟨cc1, hgc⟩ := owned_elem h.code.codes
  obtain ⟨cc2, hgl⟩ := owned_elem h.code.lines
  obtain ⟨cu, hcu⟩ := owned_elem hrow
  have np : ∀ (k : Nat) (X : Array Value) (t : TypeId), w.heap[k]? = some (.cells X t (0, 0)) → t ≠ 95 → t ≠ 9 → ¬ (k = lv ∨ pv.ownBlock = some k) := by
    intro k X t hk h1 h2 h3
    rcases h3 with rfl | h3
    · have := h.pool.blk
      rw [hk] at this
      simp at this
      exact h1 this.2
    · obtain ⟨_, ⟨rfl, _⟩ | ⟨g', cap', cur, rfl, _, hg', _⟩⟩ := h.pool.row
      · cases h3
      · obtain rfl : g' = k := by simpa [Value.ownBlock] using h3
        rw [hk] at hg'
        simp at hg'
        exact h2 hg'.2
  have code1 := h.code.kept hT1 (np _ _ _ hcb (by decide) (by decide)) (np _ _ _ hgc (by decide) (by decide)) (np _ _ _ hgl (by decide) (by decide))
  have blk1 := hT1.heap h.blk (np _ _ _ h.blk (by decide) (by decide))
  have cb1 := hT1.heap hcb (np _ _ _ hcb (by decide) (by decide))
  have bb1 := hT1.heap h.bblk (np _ _ _ h.bblk (by decide) (by decide))
  have pb1 := hT1.heap h.pblk (np _ _ _ h.pblk (by decide) (by decide))
  have hgr1 := hT1.heap hcu (np _ _ _ hcu (by decide) (by decide))
  have row1 := hT1.ownsRow hrow (fun x hx => by cases hx; exact np _ _ _ hcu (by decide) (by decide))
  have nfc : ¬ fc = gr := fun e => by subst e; rw [blk1] at hgr1; simp at hgr1
  have nc : ¬ F.c = gr := fun e => by rw [e, hgr1] at cb1; simp at cb1
  have npr : ¬ F.pr = gr := fun e => by rw [e, hgr1] at pb1; simp at pb1
  have nb : ¬ bl = gr := fun e => by rw [e, hgr1] at bb1; simp at bb1
  go_wp2_with fail
  refine wp_region_end 24 21 (fun k => k = gr) (by kernel_rfl) (RlSlot s fc F β gr n cap xs w1.heap.size) (by kernel_rfl) (by kernel_rfl) (by kernel_rfl) (fun j v w1 w2 h t t0 => h.later t t0) ?_ ?_
  · intro i o hi ho a w3 hTA hT3 hnd hV K hK'
    have hK : i ≠ 21 → ∀ v w', RlSlot s fc F β gr n cap xs w1.heap.size i v w' → Turn w3 w' (fun _ => False) → K (a.put o.dst v) w' := fun _ v w' h t => hK' v w' h (t.mono (fun _ _ h => h.elim)) (fun _ => t)
    have n0 := hnd 0 (nondst (by kernel_rfl))
    have n1 := hnd 1 (nondst (by kernel_rfl))
    have d0 : w3.cell? ⟨fc, 0, none⟩ = some (.pointer (some ⟨F.pr, 0, none⟩)) := hT3.cell (cell_of_blk blk1 0 (.pointer (some ⟨F.pr, 0, none⟩)) rfl) nfc
    have d1 : w3.cell? ⟨fc, 1, none⟩ = some (.pointer (some ⟨F.c, 0, none⟩)) := hT3.cell (cell_of_blk blk1 1 (.pointer (some ⟨F.c, 0, none⟩)) rfl) nfc
    have d2 : w3.cell? ⟨F.c, 2, none⟩ = some (.int .i64 0) := hT3.cell (cell_of_blk cb1 2 (.int .i64 0) rfl) nc
    have d3 : w3.cell? ⟨F.pr, 11, none⟩ = some (.slice (some ⟨gr, 0, none⟩) n cap) := hT3.cell (cell_of_blk pb1 11 (.slice (some ⟨gr, 0, none⟩) n cap) (by show some (v 11) = _; rw [hv11])) npr
    clear hnd
    rcases (by omega : i = 0 ∨ i = 1 ∨ i = 2 ∨ i = 3 ∨ i = 4 ∨ i = 5 ∨ i = 6 ∨ i = 7 ∨ i = 8 ∨ i = 9 ∨ i = 10 ∨ i = 11 ∨ i = 12 ∨ i = 13 ∨ i = 14 ∨ i = 15 ∨ i = 16 ∨ i = 17 ∨ i = 18 ∨ i = 19 ∨ i = 20 ∨ i = 21 ∨ i = 22 ∨ i = 23) with rfl | rfl | rfl | rfl | rfl | rfl | rfl | rfl | rfl | rfl | rfl | rfl | rfl | rfl | rfl | rfl | rfl | rfl | rfl | rfl | rfl | rfl | rfl | rfl
    all_goals (simp at ho; subst ho; try replace hK := hK (by decide))
    · exact wp_value (by simp [execOp, Act.eval, n0]) (hK (.pointer (some ⟨fc, 0, none⟩)) w3 rfl (Turn.refl _ _))
    · have k0 : a.tmps.getD 15 undef = .pointer (some ⟨fc, 0, none⟩) := hV ⟨0, .data⟩ (by simp) rfl _ 15 rfl rfl
      exact wp_value (v := .pointer (some ⟨fc, 0, none⟩)) (by simp only [execOp, Act.eval, k0]; kernel_rfl) (hK (.pointer (some ⟨fc, 0, none⟩)) w3 rfl (Turn.refl _ _))
    · have k1 : a.tmps.getD 16 undef = .pointer (some ⟨fc, 0, none⟩) := hV ⟨1, .data⟩ (by simp) rfl _ 16 rfl rfl
      exact wp_value (v := .pointer (some ⟨fc, 0, none⟩)) (by simp only [execOp, Act.eval, k1]; kernel_rfl) (hK (.pointer (some ⟨fc, 0, none⟩)) w3 rfl (Turn.refl _ _))
    · have k2 : a.tmps.getD 17 undef = .pointer (some ⟨fc, 0, none⟩) := hV ⟨2, .data⟩ (by simp) rfl _ 17 rfl rfl
      exact wp_value (v := .pointer (some ⟨F.pr, 0, none⟩)) (by simp only [execOp, Act.eval, k2]; go_simp) (hK (.pointer (some ⟨F.pr, 0, none⟩)) w3 rfl (Turn.refl _ _))
    · exact wp_value (by simp [execOp, Act.eval, n0]) (hK (.pointer (some ⟨fc, 0, none⟩)) w3 rfl (Turn.refl _ _))
    · have k4 : a.tmps.getD 19 undef = .pointer (some ⟨fc, 0, none⟩) := hV ⟨4, .data⟩ (by simp) rfl _ 19 rfl rfl
      exact wp_value (v := .pointer (some ⟨fc, 0, none⟩)) (by simp only [execOp, Act.eval, k4]; kernel_rfl) (hK (.pointer (some ⟨fc, 0, none⟩)) w3 rfl (Turn.refl _ _))
    · have k5 : a.tmps.getD 20 undef = .pointer (some ⟨fc, 0, none⟩) := hV ⟨5, .data⟩ (by simp) rfl _ 20 rfl rfl
      exact wp_value (v := .pointer (some ⟨fc, 0, none⟩)) (by simp only [execOp, Act.eval, k5]; kernel_rfl) (hK (.pointer (some ⟨fc, 0, none⟩)) w3 rfl (Turn.refl _ _))
    · have k6 : a.tmps.getD 21 undef = .pointer (some ⟨fc, 0, none⟩) := hV ⟨6, .data⟩ (by simp) rfl _ 21 rfl rfl
      exact wp_value (v := .pointer (some ⟨F.pr, 0, none⟩)) (by simp only [execOp, Act.eval, k6]; go_simp) (hK (.pointer (some ⟨F.pr, 0, none⟩)) w3 rfl (Turn.refl _ _))
    · have k7 : a.tmps.getD 22 undef = .pointer (some ⟨F.pr, 0, none⟩) := hV ⟨7, .data⟩ (by simp) rfl _ 22 rfl rfl
      exact wp_value (v := .pointer (some ⟨F.pr, 0, none⟩)) (by simp only [execOp, Act.eval, k7]; kernel_rfl) (hK (.pointer (some ⟨F.pr, 0, none⟩)) w3 rfl (Turn.refl _ _))
    · have k8 : a.tmps.getD 23 undef = .pointer (some ⟨F.pr, 0, none⟩) := hV ⟨8, .data⟩ (by simp) rfl _ 23 rfl rfl
      exact wp_value (v := .pointer (some ⟨F.pr, 11, none⟩)) (by simp only [execOp, Act.eval, k8]; kernel_rfl) (hK (.pointer (some ⟨F.pr, 11, none⟩)) w3 rfl (Turn.refl _ _))
    · have k9 : a.tmps.getD 24 undef = .pointer (some ⟨F.pr, 11, none⟩) := hV ⟨9, .data⟩ (by simp) rfl _ 24 rfl rfl
      exact wp_value (v := .slice (some ⟨gr, 0, none⟩) n cap) (by simp only [execOp, Act.eval, k9]; go_simp) (hK (.slice (some ⟨gr, 0, none⟩) n cap) w3 rfl (Turn.refl _ _))
    · exact wp_value (by simp [execOp, Act.eval, n1]) (hK (.string s) w3 rfl (Turn.refl _ _))
    · exact wp_value (by simp [execOp, Act.eval, n0]) (hK (.pointer (some ⟨fc, 0, none⟩)) w3 rfl (Turn.refl _ _))
    · have k12 : a.tmps.getD 27 undef = .pointer (some ⟨fc, 0, none⟩) := hV ⟨12, .data⟩ (by simp) rfl _ 27 rfl rfl
      exact wp_value (v := .pointer (some ⟨fc, 0, none⟩)) (by simp only [execOp, Act.eval, k12]; kernel_rfl) (hK (.pointer (some ⟨fc, 0, none⟩)) w3 rfl (Turn.refl _ _))
    · have k13 : a.tmps.getD 28 undef = .pointer (some ⟨fc, 0, none⟩) := hV ⟨13, .data⟩ (by simp) rfl _ 28 rfl rfl
      exact wp_value (v := .pointer (some ⟨fc, 1, none⟩)) (by simp only [execOp, Act.eval, k13]; kernel_rfl) (hK (.pointer (some ⟨fc, 1, none⟩)) w3 rfl (Turn.refl _ _))
    · have k14 : a.tmps.getD 29 undef = .pointer (some ⟨fc, 1, none⟩) := hV ⟨14, .data⟩ (by simp) rfl _ 29 rfl rfl
      exact wp_value (v := .pointer (some ⟨F.c, 0, none⟩)) (by simp only [execOp, Act.eval, k14]; go_simp) (hK (.pointer (some ⟨F.c, 0, none⟩)) w3 rfl (Turn.refl _ _))
    · have k15 : a.tmps.getD 30 undef = .pointer (some ⟨F.c, 0, none⟩) := hV ⟨15, .data⟩ (by simp) rfl _ 30 rfl rfl
      refine wp_call (f := 45) (vals := #[.pointer (some ⟨F.c, 0, none⟩)]) (by simp only [execOp, resolve, Act.eval, List.map_toArray, List.map_cons, List.map_nil, k15]; kernel_rfl) ((lastPC_any F.c 0 w3 d2 (by omega) (by omega)).mono ?_)
      rintro e w4 ⟨rfl, rfl⟩
      exact ⟨_, rfl, hK _ w4 rfl (Turn.refl _ _)⟩
    · have k16 : a.tmps.getD 31 undef = .int .i64 (-1) := hV ⟨16, .data⟩ (by simp) rfl _ 31 rfl rfl
      exact wp_value (v := .int .i64 0) (by simp only [execOp, Act.eval, k16]; kernel_rfl) (hK (.int .i64 0) w3 rfl (Turn.refl _ _))
    · have k11 : a.tmps.getD 26 undef = .string s := hV ⟨11, .data⟩ (by simp) rfl _ 26 rfl rfl
      have k17 : a.tmps.getD 32 undef = .int .i64 0 := hV ⟨17, .data⟩ (by simp) rfl _ 32 rfl rfl
      exact wp_value (v := .agg #[.string s, .int .i64 0, .int .i64 0]) (by simp only [execOp, Act.eval, List.map_toArray, List.map_cons, List.map_nil, k11, k17]; kernel_rfl) (hK (.agg #[.string s, .int .i64 0, .int .i64 0]) w3 rfl (Turn.refl _ _))
    · have k18 : a.tmps.getD 33 undef = .agg #[.string s, .int .i64 0, .int .i64 0] := hV ⟨18, .data⟩ (by simp) rfl _ 33 rfl rfl
      exact wp_value (v := .pointer (some ⟨w3.heap.size, 0, none⟩)) (w' := w3.alloc (.cells #[.string s, .int .i64 0, .int .i64 0] 89)) (by simp only [execOp, Act.eval, k18]; kernel_rfl) (hK _ _ ⟨_, rfl⟩ ((Turn.refl _ _).alloc _))
    · obtain ⟨l, k19⟩ : ∃ l, a.tmps.getD 34 undef = .pointer (some ⟨l, 0, none⟩) := hV ⟨19, .data⟩ (by simp) rfl _ 34 rfl rfl
      have hgr : gr < w3.heap.size := Nat.lt_of_lt_of_le (lt_of_block hgr1) hT3.size
      exact wp_value (v := .slice (some ⟨w3.heap.size, 0, none⟩) 1 1) (w' := w3.alloc (.cells #[.pointer (some ⟨l, 0, none⟩)] 87)) (by simp only [execOp, Act.eval, List.map_toArray, List.map_cons, List.map_nil, k19]; kernel_rfl) (hK _ _ ⟨w3.heap.size, l, rfl, by omega, alloc_blk _ _⟩ ((Turn.refl _ _).alloc _))
    · have k10 : a.tmps.getD 25 undef = .slice (some ⟨gr, 0, none⟩) n cap := hV ⟨10, .data⟩ (by simp) rfl _ 25 rfl rfl
      obtain ⟨t, l, k20, ht, hbt⟩ : ∃ t l, a.tmps.getD 35 undef = .slice (some ⟨t, 0, none⟩) 1 1 ∧ t ≠ gr ∧ w3.heap[t]? = some (.cells #[.pointer (some ⟨l, 0, none⟩)] 87 (0, 0)) := hV ⟨20, .data⟩ (by simp) rfl _ 35 rfl rfl
      obtain ⟨i0, hi0, hz0, hz1, hz2⟩ := info_parts infoDl
      have hrow3 := (hTA rfl).ownsRow row1 (fun _ _ => id)
      have hs3 : β ≤ w3.heap.size := Nat.le_trans hβ (Nat.le_trans hT1.size hT3.size)
      obtain ⟨v', w', hr, h2, h3, _, h5⟩ := run_append_own_at (P := Tryf.prog) w3 β 80 80 87 i0 (.pointer none) 1 8 Tryf.underlying80 hi0 hz0 hz1 hz2 rfl (by decide) _ n _ hrow3 ⟨t, 0, none⟩ 1 1 [.pointer (some ⟨l, 0, none⟩)] rfl
        (fun j u hj => by
          match j, hj with
          | 0, hj =>
            simp at hj
            subst hj
            simpa [Addr.add] using cell_of_blk hbt 0 (.pointer (some ⟨l, 0, none⟩)) rfl) (by intro u hu; simp at hu; subst hu; rfl) (by unfold maxLen; omega) (by omega) hs3
      have T : Turn w3 w' (fun k => k = gr) := (Turn.refl w3 _).grown h3 (fun k hk _ => by cases hk; rfl)
      obtain ⟨qq, cq, rfl, _⟩ := shape_of_owned h2 (by omega)
      refine wp_value (v := .slice (some ⟨qq, 0, none⟩) (n + 1) cq) (w' := w') ?_ (hK' _ w' ⟨qq, cq, _, rfl, h2, ?_⟩ T (fun h => absurd rfl h))
      · unfold execOp
        simp only [resolve, invoke, builtin, Sem.run_bind, Sem.run_pure, Result.andThen_ok, List.map_toArray, List.map_cons, List.map_nil, Act.eval, k10, k20, hr]
      · have hs13 := hT3.size
        rcases h5 with h5 | h5
        · exact .inl (by simpa [Value.ownBlock] using h5)
        · exact .inr (by have : qq = w3.heap.size := by simpa [Value.ownBlock] using h5
                         omega)
    · have k3 : a.tmps.getD 18 undef = .pointer (some ⟨F.pr, 0, none⟩) := hV ⟨3, .data⟩ (by simp) rfl _ 18 rfl rfl
      exact wp_value (v := .pointer (some ⟨F.pr, 0, none⟩)) (by simp only [execOp, Act.eval, k3]; kernel_rfl) (hK (.pointer (some ⟨F.pr, 0, none⟩)) w3 rfl (Turn.refl _ _))
    · have k22 : a.tmps.getD 37 undef = .pointer (some ⟨F.pr, 0, none⟩) := hV ⟨22, .data⟩ (by simp) rfl _ 37 rfl rfl
      exact wp_value (v := .pointer (some ⟨F.pr, 11, none⟩)) (by simp only [execOp, Act.eval, k22]; kernel_rfl) (hK (.pointer (some ⟨F.pr, 11, none⟩)) w3 rfl (Turn.refl _ _))
  · intro a w3 ol hol hsz hdf hnd hV hT3
    simp at hol
    subst hol
    have k23 : a.tmps.getD 38 undef = .pointer (some ⟨F.pr, 11, none⟩) := hV 23 _ 38 (by omega) rfl rfl
    obtain ⟨qq, cq, xq, k21, hrq, hqq⟩ : ∃ q c x, a.tmps.getD 36 undef = .slice (some ⟨q, 0, none⟩) (n + 1) c ∧ w3.ownsRow β 87 1 (.slice (some ⟨q, 0, none⟩) (n + 1) c) (n + 1) (xs ++ [x]) ∧ (q = gr ∨ w1.heap.size ≤ q) := hV 21 _ 36 (by omega) rfl rfl
    have n0 := hnd 0 (nondst (by kernel_rfl))
    have n5 := hnd 5 (nondst (by kernel_rfl))
    clear hV hnd
    obtain ⟨⟨l⟩, df⟩ := a
    obtain ⟨x0, x1, x2, x3, x4, x5, x6, x7, x8, x9, x10, x11, x12, x13, x14, x15, x16, x17, x18, x19, x20, x21, x22, x23, x24, x25, x26, x27, x28, x29, x30, x31, x32, x33, x34, x35, x36, x37, x38, x39, x40, x41, x42, x43, x44, rfl⟩ := lit45 l (by simpa using hsz)
    obtain rfl : df = [] := hdf
    obtain rfl : x0 = .pointer (some ⟨fc, 0, none⟩) := n0
    obtain rfl : x5 = .int .i64 (wrap64 (ss.length + off)) := by simpa using n5
    obtain rfl : x36 = .slice (some ⟨qq, 0, none⟩) (n + 1) cq := k21
    obtain rfl : x38 = .pointer (some ⟨F.pr, 11, none⟩) := k23
    clear hsz
    have blk3 := hT3.heap blk1 nfc
    have cb3 := hT3.heap cb1 nc
    have bb3 := hT3.heap bb1 nb
    have pb3 := hT3.heap pb1 npr
    have d11 := cell_of_blk pb3 11 (v 11) rfl
    have f11 := free_of_blk pb3 11
    rw [hv11] at d11
    have fpr : fc ≠ F.pr := fun e => by rw [e] at blk3; rw [pb3] at blk3; simp at blk3
    have qpr : qq ≠ F.pr := by
      rcases hqq with e | e
      · rw [e]; exact fun e => npr e.symm
      · have := lt_of_block pb1; omega
    have qfc : qq ≠ fc := by
      rcases hqq with e | e
      · rw [e]; exact fun e => nfc e.symm
      · have := lt_of_block blk1; omega
    rename_i K hK
    unfold Oper.wp
    simp only [execOp, Act.eval]
    go_simp
    refine hK _ _ ?_
    clear hK
    rw [show ∀ l : List Value, Array.mk l = l.toArray from fun _ => rfl]
    have t4 := (Turn.refl w3 (fun k => k = F.pr)).setCell (p := ⟨F.pr, 11, none⟩) (fun _ => rfl) (.slice (some ⟨qq, 0, none⟩) (n + 1) cq)
    have blk4 := t4.heap blk3 fpr
    have pb4 := blk_setCell pb3 11 (.slice (some ⟨qq, 0, none⟩) (n + 1) cq)
    have cb4 := t4.heap cb3 (fun e => by rw [e, pb3] at cb3; simp at cb3)
    have bb4 := t4.heap bb3 (fun e => by rw [e, pb3] at bb3; simp at bb3)
    have rq4 := t4.ownsRow hrq (fun x hx => by cases hx; exact qpr)
    generalize w3.setCell ⟨F.pr, 11, none⟩ (.slice (some ⟨qq, 0, none⟩) (n + 1) cq) = w4 at *
    have d6 := cell_of_blk blk4 6 (.int .i64 rt) rfl
    have f6 := free_of_blk blk4 6
    have t5 := (Turn.refl w4 (fun k => k = fc)).setCell (p := ⟨fc, 6, none⟩) (fun _ => rfl) (.int .i64 (rt + 1))
    have blk5 := blk_setCell blk4 6 (.int .i64 (rt + 1))
    have hTT : Turn w1 (w4.setCell ⟨fc, 6, none⟩ (.int .i64 (rt + 1))) (fun k => k = gr ∨ k = F.pr ∨ k = fc) :=
      ((hT3.mono (fun _ _ h => .inl h)).trans (t4.mono (fun _ _ h => .inr (.inl h)))).trans (t5.mono (fun _ _ h => .inr (.inr h)))
    have HP : Loc (w4.setCell ⟨fc, 6, none⟩ (.int .i64 (rt + 1))) β fc F gbv bl lv bc off (rt + 1) lid (n + 1) pv' (upd v 11 (.slice (some ⟨qq, 0, none⟩) (n + 1) cq)) (xs ++ [xq]) (ss ++ [s]) := by
      have nlv : ¬ (lv = gr ∨ lv = F.pr ∨ lv = fc) := by
        have hl := hp1.blk
        rintro (e | e | e)
        · rw [e, hgr1] at hl; simp at hl
        · rw [e, pb1] at hl; simp at hl
        · rw [e, blk1] at hl; simp at hl
      have npv : ∀ x, pv'.ownBlock = some x → ¬ (x = gr ∨ x = F.pr ∨ x = fc) := by
        intro x hx
        obtain ⟨_, ⟨rfl, _⟩ | ⟨g', cap', cur, rfl, _, hg', _⟩⟩ := hp1.row
        · cases hx
        · obtain rfl : g' = x := by simpa [Value.ownBlock] using hx
          rintro (e | e | e)
          · rw [e, hgr1] at hg'; simp at hg'
          · rw [e, pb1] at hg'; simp at hg'
          · rw [e, blk1] at hg'; simp at hg'
      have nxx : ∀ (k : Nat) (X : Array Value) (t : TypeId), w1.heap[k]? = some (.cells X t (0, 0)) → t ≠ 87 → t ≠ 86 → t ≠ 62 → ¬ (k = gr ∨ k = F.pr ∨ k = fc) := by
        intro k X t hk h1 h2 h3
        rintro (e | e | e)
        · rw [e, hgr1] at hk; simp at hk; exact h1 hk.2.symm
        · rw [e, pb1] at hk; simp at hk; exact h2 hk.2.symm
        · rw [e, blk1] at hk; simp at hk; exact h3 hk.2.symm
      obtain ⟨cc3, hgc1⟩ := owned_elem code1.codes
      obtain ⟨cc4, hgl1⟩ := owned_elem code1.lines
      have ncc := nxx _ _ _ code1.blk (by decide) (by decide) (by decide)
      have ngc := nxx _ _ _ hgc1 (by decide) (by decide) (by decide)
      have ngl := nxx _ _ _ hgl1 (by decide) (by decide) (by decide)
      refine ⟨h.ge, ?_, code1.kept hTT ncc ngc ngl, h.cge, t5.heap bb4 (fun e => by rw [e, blk4] at bb4; simp at bb4), h.bc0, hp1.kept hTT nlv npv, h.lvge, ?_, h.prge, qq, cq, by rw [upd_same], ?_⟩
      · rw [blk5]
        rfl
      · rw [t5.heap pb4 (fun e => fpr e.symm)]
        rfl
      · have := t5.ownsRow rq4 (fun x hx => by cases hx; exact qfc)
        simpa using this
    have HT : Turn w (w4.setCell ⟨fc, 6, none⟩ (.int .i64 (rt + 1))) (fun k => k = fc ∨ k = lv ∨ pv.ownBlock = some k ∨ k = F.pr ∨ (v 11).ownBlock = some k) := by
      refine (hT1.mono (fun _ _ h => h.elim (fun h => .inr (.inl h)) (fun h => .inr (.inr (.inl h))))).trans (hTT.mono (fun k _ h => ?_))
      rcases h with h | h | h
      · exact .inr (.inr (.inr (.inr (by rw [hv11, h]; rfl))))
      · exact .inr (.inr (.inr (.inl h)))
      · exact .inl h
    have H1 := Lib.hid HP
    have H2 := Lib.hid HT
    clear HP HT hTT blk5 t5
    go_wp2_with fail
    refine (regTop_any fc rt w4 d6).mono ?_
    rintro e w6 ⟨rfl, rfl⟩
    go_wp2_with fail
    refine (setRegTop_any fc (rt + 1) _ _ d6 f6 (by omega)).mono ?_
    rintro e w7 ⟨rfl, rfl⟩
    go_wp2
    go_ret
    refine ⟨pv', _, _, rfl, H1.out, H2.out, hl1, ?_⟩
    rw [upd_same]
    rcases hqq with e | e
    · exact .inl (by rw [hv11, e]; rfl)
    · exact .inr ⟨qq, rfl, Nat.le_trans hT1.size e⟩

end Go.Proofs.YtabienikffakiaaFmt
