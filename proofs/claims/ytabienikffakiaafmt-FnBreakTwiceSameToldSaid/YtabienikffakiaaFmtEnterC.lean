/- EnterBlock's contract: from whatever block, with a label and a position. Printed by wip/genE.py. -/
import Derived.Test.YtabienikffakiaaFmtLocC
import Derived.Test.YtabienikffakiaaFmtBlockC
namespace Go.Proofs.YtabienikffakiaaFmt
open Go.RowKit Go.Maps
set_option linter.unusedVariables false

theorem lit36 (l : List Value) (h : l.length = 36) : ∃ x0 x1 x2 x3 x4 x5 x6 x7 x8 x9 x10 x11 x12 x13 x14 x15 x16 x17 x18 x19 x20 x21 x22 x23 x24 x25 x26 x27 x28 x29 x30 x31 x32 x33 x34 x35, l = [x0, x1, x2, x3, x4, x5, x6, x7, x8, x9, x10, x11, x12, x13, x14, x15, x16, x17, x18, x19, x20, x21, x22, x23, x24, x25, x26, x27, x28, x29, x30, x31, x32, x33, x34, x35] := by
  match l, h with
  | x0 :: x1 :: x2 :: x3 :: x4 :: x5 :: x6 :: x7 :: x8 :: x9 :: x10 :: x11 :: x12 :: x13 :: x14 :: x15 :: x16 :: x17 :: x18 :: x19 :: x20 :: x21 :: x22 :: x23 :: x24 :: x25 :: x26 :: x27 :: x28 :: x29 :: x30 :: x31 :: x32 :: x33 :: x34 :: x35 :: [], _ => exact ⟨x0, x1, x2, x3, x4, x5, x6, x7, x8, x9, x10, x11, x12, x13, x14, x15, x16, x17, x18, x19, x20, x21, x22, x23, x24, x25, x26, x27, x28, x29, x30, x31, x32, x33, x34, x35, rfl⟩

/-- a new block's cells -/
def newCells (lv M : Nat) (lab : Int) (par : Option Addr) (ref : Bool) (l1 l2 : Int) : Array Value :=
  #[.pointer (some ⟨lv, 0, none⟩), .int .i64 lab, .pointer par, .bool ref, .int .i64 l1, .int .i64 l2, .map (some M), .int .i64 0]

def EbSlot (fc p bl H β : Nat) (lab rt l1 l2 : Int) (j : Nat) (v : Value) (w : World) : Prop :=
  match j with
  | 2 => v = .int .i64 rt
  | 3 => ∃ lv g cap, v = .pointer (some ⟨lv, 0, none⟩) ∧ H ≤ lv ∧ H ≤ g ∧ Pool w β lv (.slice (some ⟨g, 0, none⟩) 0 cap) [] rt
  | 4 => v = .int .i64 lab
  | 7 => v = .pointer (some ⟨fc, 4, none⟩)
  | 8 => v = .pointer (some ⟨bl, 0, none⟩)
  | 9 => v = .iface 50 (.pointer (some ⟨p, 0, none⟩))
  | 12 => v = .pointer (some ⟨fc, 9, none⟩)
  | 13 => v = .int .i64 0
  | 14 => ∃ b lv g cap, v = .pointer (some ⟨b + 1, 0, none⟩) ∧ H ≤ b ∧ w.heap[b + 1]? = some (.cells (newCells lv b lab (some ⟨bl, 0, none⟩) false l1 l2) 71 (0, 0)) ∧ H ≤ lv ∧ H ≤ g ∧ Pool w β lv (.slice (some ⟨g, 0, none⟩) 0 cap) [] rt
  | 16 => v = .pointer (some ⟨fc, 4, none⟩)
  | _ => v = .pointer (some ⟨fc, 0, none⟩)

theorem EbSlot.later {fc p bl H β j : Nat} {lab rt l1 l2 : Int} {v : Value} {w w' : World} (h : EbSlot fc p bl H β lab rt l1 l2 j v w) (t : Turn w w' (fun _ => False)) : EbSlot fc p bl H β lab rt l1 l2 j v w' := by
  unfold EbSlot at *
  split at h
  all_goals first
    | exact h
    | (obtain ⟨lv, g, cap, h1, h2, h3, h4⟩ := h; exact ⟨lv, g, cap, h1, h2, h3, h4.kept t id (fun _ _ => id)⟩)
    | (obtain ⟨b, lv, g, cap, h1, h2, h3, h4, h5, h6⟩ := h; exact ⟨b, lv, g, cap, h1, h2, t.heap h3 id, h4, h5, h6.kept t id (fun _ _ => id)⟩)

def Eb2 (fc β g m cap b B : Nat) (ys : List Value) (j : Nat) (v : Value) (w : World) : Prop :=
  match j with
  | 3 => v = .pointer (some ⟨fc, 5, none⟩)
  | 4 => v = .slice (some ⟨g, 0, none⟩) m cap
  | 7 => v = .pointer (some ⟨fc, 4, none⟩)
  | 8 => v = .pointer (some ⟨b + 1, 0, none⟩)
  | 9 => ∃ t, v = .slice (some ⟨t, 0, none⟩) 1 1 ∧ t ≠ g ∧ w.heap[t]? = some (.cells #[.pointer (some ⟨b + 1, 0, none⟩)] 32 (0, 0))
  | 10 => ∃ q c y, v = .slice (some ⟨q, 0, none⟩) (m + 1) c ∧ w.ownsRow β 32 1 (.slice (some ⟨q, 0, none⟩) (m + 1) c) (m + 1) (ys ++ [y]) ∧ (q = g ∨ B ≤ q)
  | 12 => v = .pointer (some ⟨fc, 5, none⟩)
  | _ => v = .pointer (some ⟨fc, 0, none⟩)

theorem Eb2.later {fc β g m cap b B j : Nat} {ys : List Value} {v : Value} {w w' : World} (h : Eb2 fc β g m cap b B ys j v w) (t : Turn w w' (fun k => k = g)) (t0 : j = 10 → Turn w w' (fun _ => False)) : Eb2 fc β g m cap b B ys j v w' := by
  unfold Eb2 at *
  split at h
  all_goals first
    | exact h
    | (obtain ⟨c, h1, h2, h3⟩ := h; exact ⟨c, h1, h2, t.heap h3 h2⟩)
    | (obtain ⟨q, c, x, h1, h2, h3⟩ := h; exact ⟨q, c, x, h1, (t0 rfl).ownsRow h2 (fun _ _ => id), h3⟩)

theorem infoCb : (Tryf.prog.info? 32).map (fun i => (i.zero, i.size, i.bytes)) = some (some (.pointer none), 1, 8) := by kernel_rfl

def Entered (β fc : Nat) (F : FcAt) (g m bl : Nat) (rt lid lab l1 l2 : Int) (ys : List Value) (w : World) (e : Ending) (w' : World) : Prop :=
  e = .returned (.tuple #[]) ∧ ∃ b lv gN capN q c y, w'.heap[fc]? = some (.cells (locCells F (b + 1) (.slice (some ⟨q, 0, none⟩) (m + 1) c) rt lid) 62 (0, 0)) ∧ w.heap.size ≤ b ∧
    w'.heap[b + 1]? = some (.cells (newCells lv b lab (some ⟨bl, 0, none⟩) false l1 l2) 71 (0, 0)) ∧ w.heap.size ≤ lv ∧ w.heap.size ≤ gN ∧ Pool w' β lv (.slice (some ⟨gN, 0, none⟩) 0 capN) [] rt ∧
    w'.ownsRow β 32 1 (.slice (some ⟨q, 0, none⟩) (m + 1) c) (m + 1) (ys ++ [y]) ∧ (q = g ∨ w.heap.size ≤ q) ∧ Turn w w' (fun k => k = fc ∨ k = g)

set_option maxRecDepth 100000 in
set_option maxHeartbeats 1000000 in
theorem enterBlock_any (β fc : Nat) (F : FcAt) (g m cap bl p : Nat) (rt lid lab l1 l2 : Int) (ys : List Value) (w : World) (hblk : w.heap[fc]? = some (.cells (locCells F bl (.slice (some ⟨g, 0, none⟩) m cap) rt lid) 62 (0, 0)))
    (hrow : w.ownsRow β 32 1 (.slice (some ⟨g, 0, none⟩) m cap) m ys) (hβ : β ≤ w.heap.size) (hm : m ≤ 1048576) (p0 : w.cell? ⟨p, 0, none⟩ = some (.int .i64 l1)) (p1 : w.cell? ⟨p, 1, none⟩ = some (.int .i64 l2)) :
    Calls Tryf.prog 35 #[.pointer (some ⟨fc, 0, none⟩), .int .i64 lab, .iface 50 (.pointer (some ⟨p, 0, none⟩))] w (Entered β fc F g m bl rt lid lab l1 l2 ys w) := by
  have c4 := cell_of_blk hblk 4 (.pointer (some ⟨bl, 0, none⟩)) rfl
  have c6 := cell_of_blk hblk 6 (.int .i64 rt) rfl
  have c9 := cell_of_blk hblk 9 (.int .i64 0) rfl
  go_enter Tryf.func35, Tryf.ntmps35
  go_wp2_with fail
  refine wp_region_end 17 17 (fun _ => False) (by kernel_rfl) (EbSlot fc p bl w.heap.size β lab rt l1 l2) (by kernel_rfl) (by kernel_rfl) (by kernel_rfl) (fun j v w1 w2 h t t0 => h.later t) ?_ ?_
  · intro i o hi ho a w1 _ hT hnd hV K hK'
    have hK : ∀ v w', EbSlot fc p bl w.heap.size β lab rt l1 l2 i v w' → Turn w1 w' (fun _ => False) → K (a.put o.dst v) w' := fun v w' h t => hK' v w' h t (fun _ => t)
    clear hK'
    have hβ1 := hT.size
    have n0 := hnd 0 (nondst (by kernel_rfl))
    have n1 := hnd 1 (nondst (by kernel_rfl))
    have n2 := hnd 2 (nondst (by kernel_rfl))
    have d4 := hT.cell c4 id
    have d6 := hT.cell c6 id
    have d9 := hT.cell c9 id
    have q0 := hT.cell p0 id
    have q1 := hT.cell p1 id
    clear hnd
    rcases (by omega : i = 0 ∨ i = 1 ∨ i = 2 ∨ i = 3 ∨ i = 4 ∨ i = 5 ∨ i = 6 ∨ i = 7 ∨ i = 8 ∨ i = 9 ∨ i = 10 ∨ i = 11 ∨ i = 12 ∨ i = 13 ∨ i = 14 ∨ i = 15 ∨ i = 16) with rfl | rfl | rfl | rfl | rfl | rfl | rfl | rfl | rfl | rfl | rfl | rfl | rfl | rfl | rfl | rfl | rfl
    all_goals (simp at ho; subst ho)
    · exact wp_value (by simp [execOp, Act.eval, n0]) (hK (.pointer (some ⟨fc, 0, none⟩)) w1 rfl (Turn.refl _ _))
    · exact wp_value (by simp [execOp, Act.eval, n0]) (hK (.pointer (some ⟨fc, 0, none⟩)) w1 rfl (Turn.refl _ _))
    · have k1 : a.tmps.getD 7 undef = .pointer (some ⟨fc, 0, none⟩) := hV ⟨1, .data⟩ (by simp) rfl _ 7 rfl rfl
      refine wp_call (f := 47) (vals := #[.pointer (some ⟨fc, 0, none⟩)]) (by simp only [execOp, resolve, Act.eval, List.map_toArray, List.map_cons, List.map_nil, k1]; kernel_rfl) ((regTop_any fc rt w1 d6).mono ?_)
      rintro e w2 ⟨rfl, rfl⟩
      exact ⟨_, rfl, hK _ _ rfl (Turn.refl _ _)⟩
    · have k2 : a.tmps.getD 8 undef = .int .i64 rt := hV ⟨2, .data⟩ (by simp) rfl _ 8 rfl rfl
      refine wp_call (f := 42) (vals := #[.int .i64 rt]) (by simp only [execOp, resolve, Act.eval, List.map_toArray, List.map_cons, List.map_nil, k2]; kernel_rfl) ((newPool_any rt β w1 (by omega)).mono ?_)
      rintro e w2 ⟨P, v, rfl, h1, h2, h3, gP, cP, rfl, h4⟩
      exact ⟨_, rfl, hK _ w2 ⟨P, gP, cP, rfl, by omega, by omega, h1⟩ h2⟩
    · exact wp_value (by simp [execOp, Act.eval, n1]) (hK (.int .i64 lab) w1 rfl (Turn.refl _ _))
    · exact wp_value (by simp [execOp, Act.eval, n0]) (hK (.pointer (some ⟨fc, 0, none⟩)) w1 rfl (Turn.refl _ _))
    · have k5 : a.tmps.getD 11 undef = .pointer (some ⟨fc, 0, none⟩) := hV ⟨5, .data⟩ (by simp) rfl _ 11 rfl rfl
      exact wp_value (v := .pointer (some ⟨fc, 0, none⟩)) (by simp only [execOp, Act.eval, k5]; kernel_rfl) (hK (.pointer (some ⟨fc, 0, none⟩)) w1 rfl (Turn.refl _ _))
    · have k6 : a.tmps.getD 12 undef = .pointer (some ⟨fc, 0, none⟩) := hV ⟨6, .data⟩ (by simp) rfl _ 12 rfl rfl
      exact wp_value (v := .pointer (some ⟨fc, 4, none⟩)) (by simp only [execOp, Act.eval, k6]; kernel_rfl) (hK (.pointer (some ⟨fc, 4, none⟩)) w1 rfl (Turn.refl _ _))
    · have k7 : a.tmps.getD 13 undef = .pointer (some ⟨fc, 4, none⟩) := hV ⟨7, .data⟩ (by simp) rfl _ 13 rfl rfl
      exact wp_value (v := .pointer (some ⟨bl, 0, none⟩)) (by simp only [execOp, Act.eval, k7]; go_simp) (hK (.pointer (some ⟨bl, 0, none⟩)) w1 rfl (Turn.refl _ _))
    · exact wp_value (by simp [execOp, Act.eval, n2]) (hK (.iface 50 (.pointer (some ⟨p, 0, none⟩))) w1 rfl (Turn.refl _ _))
    · exact wp_value (by simp [execOp, Act.eval, n0]) (hK (.pointer (some ⟨fc, 0, none⟩)) w1 rfl (Turn.refl _ _))
    · have k10 : a.tmps.getD 16 undef = .pointer (some ⟨fc, 0, none⟩) := hV ⟨10, .data⟩ (by simp) rfl _ 16 rfl rfl
      exact wp_value (v := .pointer (some ⟨fc, 0, none⟩)) (by simp only [execOp, Act.eval, k10]; kernel_rfl) (hK (.pointer (some ⟨fc, 0, none⟩)) w1 rfl (Turn.refl _ _))
    · have k11 : a.tmps.getD 17 undef = .pointer (some ⟨fc, 0, none⟩) := hV ⟨11, .data⟩ (by simp) rfl _ 17 rfl rfl
      exact wp_value (v := .pointer (some ⟨fc, 9, none⟩)) (by simp only [execOp, Act.eval, k11]; kernel_rfl) (hK (.pointer (some ⟨fc, 9, none⟩)) w1 rfl (Turn.refl _ _))
    · have k12 : a.tmps.getD 18 undef = .pointer (some ⟨fc, 9, none⟩) := hV ⟨12, .data⟩ (by simp) rfl _ 18 rfl rfl
      exact wp_value (v := .int .i64 0) (by simp only [execOp, Act.eval, k12]; go_simp) (hK (.int .i64 0) w1 rfl (Turn.refl _ _))
    · obtain ⟨lv, gP, cP, k3, hl1, hg1, hp1⟩ : ∃ lv g cap, a.tmps.getD 9 undef = .pointer (some ⟨lv, 0, none⟩) ∧ w.heap.size ≤ lv ∧ w.heap.size ≤ g ∧ Pool w1 β lv (.slice (some ⟨g, 0, none⟩) 0 cap) [] rt := hV ⟨3, .data⟩ (by simp) rfl _ 9 rfl rfl
      have k4 : a.tmps.getD 10 undef = .int .i64 lab := hV ⟨4, .data⟩ (by simp) rfl _ 10 rfl rfl
      have k8 : a.tmps.getD 14 undef = .pointer (some ⟨bl, 0, none⟩) := hV ⟨8, .data⟩ (by simp) rfl _ 14 rfl rfl
      have k9 : a.tmps.getD 15 undef = .iface 50 (.pointer (some ⟨p, 0, none⟩)) := hV ⟨9, .data⟩ (by simp) rfl _ 15 rfl rfl
      have k13 : a.tmps.getD 19 undef = .int .i64 0 := hV ⟨13, .data⟩ (by simp) rfl _ 19 rfl rfl
      refine wp_call (f := 43) (vals := #[.pointer (some ⟨lv, 0, none⟩), .int .i64 lab, .pointer (some ⟨bl, 0, none⟩), .iface 50 (.pointer (some ⟨p, 0, none⟩)), .int .i64 0]) (by simp only [execOp, resolve, Act.eval, List.map_toArray, List.map_cons, List.map_nil, k3, k4, k8, k9, k13]; kernel_rfl) ((newCodeBlockPos_any (some ⟨lv, 0, none⟩) (some ⟨bl, 0, none⟩) lab 0 p l1 l2 w1 q0 q1).mono ?_)
      rintro e w2 ⟨rfl, rfl⟩
      have T := ((Turn.refl w1 (fun _ => False)).alloc (.map #[] 0)).alloc (.cells (newCells lv w1.heap.size lab (some ⟨bl, 0, none⟩) false l1 l2) 71)
      refine ⟨_, rfl, hK _ _ ⟨w1.heap.size, lv, gP, cP, rfl, hβ1, ?_, hl1, hg1, hp1.kept T id (fun _ _ => id)⟩ T⟩
      have := heap_alloc_new (w1.alloc (.map #[] 0)) (.cells (newCells lv w1.heap.size lab (some ⟨bl, 0, none⟩) false l1 l2) 71)
      rwa [show (w1.alloc (.map #[] 0)).heap.size = w1.heap.size + 1 from by simp] at this
    · have k0 : a.tmps.getD 6 undef = .pointer (some ⟨fc, 0, none⟩) := hV ⟨0, .data⟩ (by simp) rfl _ 6 rfl rfl
      exact wp_value (v := .pointer (some ⟨fc, 0, none⟩)) (by simp only [execOp, Act.eval, k0]; kernel_rfl) (hK (.pointer (some ⟨fc, 0, none⟩)) w1 rfl (Turn.refl _ _))
    · have k15 : a.tmps.getD 21 undef = .pointer (some ⟨fc, 0, none⟩) := hV ⟨15, .data⟩ (by simp) rfl _ 21 rfl rfl
      exact wp_value (v := .pointer (some ⟨fc, 4, none⟩)) (by simp only [execOp, Act.eval, k15]; kernel_rfl) (hK (.pointer (some ⟨fc, 4, none⟩)) w1 rfl (Turn.refl _ _))
  · intro a w1 ol hol hsz hdf hnd hV hT
    simp at hol
    subst hol
    obtain ⟨b, lv, gP, cP, k14, hb, hbb, hl1, hg1, hp1⟩ : ∃ b lv g cap, a.tmps.getD 20 undef = .pointer (some ⟨b + 1, 0, none⟩) ∧ w.heap.size ≤ b ∧ w1.heap[b + 1]? = some (.cells (newCells lv b lab (some ⟨bl, 0, none⟩) false l1 l2) 71 (0, 0)) ∧ w.heap.size ≤ lv ∧ w.heap.size ≤ g ∧ Pool w1 β lv (.slice (some ⟨g, 0, none⟩) 0 cap) [] rt := hV 14 _ 20 (by omega) rfl rfl
    have k16 : a.tmps.getD 22 undef = .pointer (some ⟨fc, 4, none⟩) := hV 16 _ 22 (by omega) rfl rfl
    have n0 := hnd 0 (nondst (by kernel_rfl))
    clear hV hnd
    obtain ⟨⟨l⟩, df⟩ := a
    obtain ⟨x0, x1, x2, x3, x4, x5, x6, x7, x8, x9, x10, x11, x12, x13, x14, x15, x16, x17, x18, x19, x20, x21, x22, x23, x24, x25, x26, x27, x28, x29, x30, x31, x32, x33, x34, x35, rfl⟩ := lit36 l (by simpa using hsz)
    obtain rfl : df = [] := hdf
    obtain rfl : x20 = .pointer (some ⟨b + 1, 0, none⟩) := k14
    obtain rfl : x22 = .pointer (some ⟨fc, 4, none⟩) := k16
    obtain rfl : x0 = .pointer (some ⟨fc, 0, none⟩) := n0
    clear hsz
    have blk1 := hT.heap hblk id
    have row1 := hT.ownsRow hrow (fun _ _ => id)
    have d4 := cell_of_blk blk1 4 (.pointer (some ⟨bl, 0, none⟩)) rfl
    have f4 := free_of_blk blk1 4
    rename_i K hK
    unfold Oper.wp
    simp only [execOp, Act.eval]
    go_simp
    refine hK _ _ ?_
    clear hK
    rw [show ∀ l : List Value, Array.mk l = l.toArray from fun _ => rfl]
    obtain ⟨cg, hcg⟩ := owned_elem row1
    have hgf : ¬ g = fc := fun e => by rw [e, blk1] at hcg; simp at hcg
    have hne : ¬ fc = g := fun h => hgf h.symm
    have T1 := (hT.mono (G := fun k => k = fc ∨ k = g) (fun _ _ h => h.elim)).setCell (p := ⟨fc, 4, none⟩) (fun _ => .inl rfl) (.pointer (some ⟨b + 1, 0, none⟩))
    have t1 := (Turn.refl w1 (fun k => k = fc)).setCell (p := ⟨fc, 4, none⟩) (fun _ => rfl) (.pointer (some ⟨b + 1, 0, none⟩))
    have blk2 := blk_setCell blk1 4 (.pointer (some ⟨b + 1, 0, none⟩))
    have hbb2 := t1.heap hbb (fun e => by rw [e, blk1] at hbb; simp at hbb)
    have nlv : ¬ lv = fc := fun e => by have := hp1.blk; rw [e, blk1] at this; simp at this
    have ngP : ¬ gP = fc := fun e => by obtain ⟨cu, hu⟩ := owned_elem hp1.row; rw [e, blk1] at hu; simp at hu
    have hp2 := hp1.kept t1 nlv (fun k hk => by cases hk; exact ngP)
    have row2 := t1.ownsRow row1 (fun k hk => by cases hk; exact hgf)
    have hs2 : w.heap.size ≤ (w1.setCell ⟨fc, 4, none⟩ (.pointer (some ⟨b + 1, 0, none⟩))).heap.size := by have := hT.size; simpa using this
    have hgl : g < w.heap.size := (hrow.lt _ rfl).2
    clear d4 f4 c4 c6 c9 blk1 t1 hbb hp1 row1 hcg
    generalize w1.setCell ⟨fc, 4, none⟩ (.pointer (some ⟨b + 1, 0, none⟩)) = w2 at *
    obtain ⟨cg, hcg⟩ := owned_elem row2
    have e4 := cell_of_blk blk2 4 (.pointer (some ⟨b + 1, 0, none⟩)) rfl
    have e5 := cell_of_blk blk2 5 (.slice (some ⟨g, 0, none⟩) m cap) rfl
    have f5 := free_of_blk blk2 5
    refine wp_region_end 13 10 (fun k => k = g) (by kernel_rfl) (Eb2 fc β g m cap b w.heap.size ys) (by kernel_rfl) (by kernel_rfl) (by kernel_rfl) (fun j v w1 w2 h t t0 => h.later t t0) ?_ ?_
    · intro i o hi ho a w3 hTA hT3 hnd hV K hK'
      have hK : i ≠ 10 → ∀ v w', Eb2 fc β g m cap b w.heap.size ys i v w' → Turn w3 w' (fun _ => False) → K (a.put o.dst v) w' := fun _ v w' h t => hK' v w' h (t.mono (fun _ _ h => h.elim)) (fun _ => t)
      have n0 := hnd 0 (nondst (by kernel_rfl))
      have d4 := hT3.cell e4 hne
      have d5 := hT3.cell e5 hne
      clear hnd
      rcases (by omega : i = 0 ∨ i = 1 ∨ i = 2 ∨ i = 3 ∨ i = 4 ∨ i = 5 ∨ i = 6 ∨ i = 7 ∨ i = 8 ∨ i = 9 ∨ i = 10 ∨ i = 11 ∨ i = 12) with rfl | rfl | rfl | rfl | rfl | rfl | rfl | rfl | rfl | rfl | rfl | rfl | rfl
      all_goals (simp at ho; subst ho; try replace hK := hK (by decide))
      · exact wp_value (by simp [execOp, Act.eval, n0]) (hK (.pointer (some ⟨fc, 0, none⟩)) w3 rfl (Turn.refl _ _))
      · exact wp_value (by simp [execOp, Act.eval, n0]) (hK (.pointer (some ⟨fc, 0, none⟩)) w3 rfl (Turn.refl _ _))
      · have k1 : a.tmps.getD 24 undef = .pointer (some ⟨fc, 0, none⟩) := hV ⟨1, .data⟩ (by simp) rfl _ 24 rfl rfl
        exact wp_value (v := .pointer (some ⟨fc, 0, none⟩)) (by simp only [execOp, Act.eval, k1]; kernel_rfl) (hK (.pointer (some ⟨fc, 0, none⟩)) w3 rfl (Turn.refl _ _))
      · have k2 : a.tmps.getD 25 undef = .pointer (some ⟨fc, 0, none⟩) := hV ⟨2, .data⟩ (by simp) rfl _ 25 rfl rfl
        exact wp_value (v := .pointer (some ⟨fc, 5, none⟩)) (by simp only [execOp, Act.eval, k2]; kernel_rfl) (hK (.pointer (some ⟨fc, 5, none⟩)) w3 rfl (Turn.refl _ _))
      · have k3 : a.tmps.getD 26 undef = .pointer (some ⟨fc, 5, none⟩) := hV ⟨3, .data⟩ (by simp) rfl _ 26 rfl rfl
        exact wp_value (v := .slice (some ⟨g, 0, none⟩) m cap) (by simp only [execOp, Act.eval, k3]; go_simp) (hK (.slice (some ⟨g, 0, none⟩) m cap) w3 rfl (Turn.refl _ _))
      · exact wp_value (by simp [execOp, Act.eval, n0]) (hK (.pointer (some ⟨fc, 0, none⟩)) w3 rfl (Turn.refl _ _))
      · have k5 : a.tmps.getD 28 undef = .pointer (some ⟨fc, 0, none⟩) := hV ⟨5, .data⟩ (by simp) rfl _ 28 rfl rfl
        exact wp_value (v := .pointer (some ⟨fc, 0, none⟩)) (by simp only [execOp, Act.eval, k5]; kernel_rfl) (hK (.pointer (some ⟨fc, 0, none⟩)) w3 rfl (Turn.refl _ _))
      · have k6 : a.tmps.getD 29 undef = .pointer (some ⟨fc, 0, none⟩) := hV ⟨6, .data⟩ (by simp) rfl _ 29 rfl rfl
        exact wp_value (v := .pointer (some ⟨fc, 4, none⟩)) (by simp only [execOp, Act.eval, k6]; kernel_rfl) (hK (.pointer (some ⟨fc, 4, none⟩)) w3 rfl (Turn.refl _ _))
      · have k7 : a.tmps.getD 30 undef = .pointer (some ⟨fc, 4, none⟩) := hV ⟨7, .data⟩ (by simp) rfl _ 30 rfl rfl
        exact wp_value (v := .pointer (some ⟨b + 1, 0, none⟩)) (by simp only [execOp, Act.eval, k7]; go_simp) (hK (.pointer (some ⟨b + 1, 0, none⟩)) w3 rfl (Turn.refl _ _))
      · have k8 : a.tmps.getD 31 undef = .pointer (some ⟨b + 1, 0, none⟩) := hV ⟨8, .data⟩ (by simp) rfl _ 31 rfl rfl
        have hsz3 := hT3.size
        exact wp_value (v := .slice (some ⟨w3.heap.size, 0, none⟩) 1 1) (w' := w3.alloc (.cells #[.pointer (some ⟨b + 1, 0, none⟩)] 32)) (by simp only [execOp, Act.eval, List.map_toArray, List.map_cons, List.map_nil, k8]; kernel_rfl)
          (hK _ _ ⟨w3.heap.size, rfl, by omega, alloc_blk _ _⟩ ((Turn.refl _ _).alloc _))
      · have k4 : a.tmps.getD 27 undef = .slice (some ⟨g, 0, none⟩) m cap := hV ⟨4, .data⟩ (by simp) rfl _ 27 rfl rfl
        obtain ⟨t, k9, ht, hbt⟩ : ∃ t, a.tmps.getD 32 undef = .slice (some ⟨t, 0, none⟩) 1 1 ∧ t ≠ g ∧ w3.heap[t]? = some (.cells #[.pointer (some ⟨b + 1, 0, none⟩)] 32 (0, 0)) := hV ⟨9, .data⟩ (by simp) rfl _ 32 rfl rfl
        obtain ⟨i0, hi0, hz0, hz1, hz2⟩ := info_parts infoCb
        have hrow3 := (hTA rfl).ownsRow row2 (fun _ _ => id)
        have hs23 := hT3.size
        have hs3 : β ≤ w3.heap.size := by omega
        obtain ⟨v', w', hr, h2, h3, _, h5⟩ := run_append_own_at (P := Tryf.prog) w3 β 58 58 32 i0 (.pointer none) 1 8 Tryf.underlying58 hi0 hz0 hz1 hz2 rfl (by decide) _ m _ hrow3 ⟨t, 0, none⟩ 1 1 [.pointer (some ⟨b + 1, 0, none⟩)] rfl
          (fun j u hj => by
            match j, hj with
            | 0, hj =>
              simp at hj
              subst hj
              simpa [Addr.add] using cell_of_blk hbt 0 (.pointer (some ⟨b + 1, 0, none⟩)) rfl) (by intro u hu; simp at hu; subst hu; rfl) (by unfold maxLen; omega) (by omega) hs3
        have T : Turn w3 w' (fun k => k = g) := (Turn.refl w3 _).grown h3 (fun k hk _ => by cases hk; rfl)
        obtain ⟨qq, cq, rfl, _⟩ := shape_of_owned h2 (by omega)
        refine wp_value (v := .slice (some ⟨qq, 0, none⟩) (m + 1) cq) (w' := w') ?_ (hK' _ w' ⟨qq, cq, _, rfl, h2, ?_⟩ T (fun h => absurd rfl h))
        · unfold execOp
          simp only [resolve, invoke, builtin, Sem.run_bind, Sem.run_pure, Result.andThen_ok, List.map_toArray, List.map_cons, List.map_nil, Act.eval, k4, k9, hr]
        · rcases h5 with h5 | h5
          · exact .inl (by simpa [Value.ownBlock] using h5)
          · exact .inr (by have : qq = w3.heap.size := by simpa [Value.ownBlock] using h5
                           omega)
      · have k0 : a.tmps.getD 23 undef = .pointer (some ⟨fc, 0, none⟩) := hV ⟨0, .data⟩ (by simp) rfl _ 23 rfl rfl
        exact wp_value (v := .pointer (some ⟨fc, 0, none⟩)) (by simp only [execOp, Act.eval, k0]; kernel_rfl) (hK (.pointer (some ⟨fc, 0, none⟩)) w3 rfl (Turn.refl _ _))
      · have k11 : a.tmps.getD 34 undef = .pointer (some ⟨fc, 0, none⟩) := hV ⟨11, .data⟩ (by simp) rfl _ 34 rfl rfl
        exact wp_value (v := .pointer (some ⟨fc, 5, none⟩)) (by simp only [execOp, Act.eval, k11]; kernel_rfl) (hK (.pointer (some ⟨fc, 5, none⟩)) w3 rfl (Turn.refl _ _))
    · intro a w3 ol hol hsz hdf hnd hV hT3
      simp at hol
      subst hol
      have k12 : a.tmps.getD 35 undef = .pointer (some ⟨fc, 5, none⟩) := hV 12 _ 35 (by omega) rfl rfl
      obtain ⟨qq, cq, yq, k10, hrq, hqq⟩ : ∃ q c y, a.tmps.getD 33 undef = .slice (some ⟨q, 0, none⟩) (m + 1) c ∧ w3.ownsRow β 32 1 (.slice (some ⟨q, 0, none⟩) (m + 1) c) (m + 1) (ys ++ [y]) ∧ (q = g ∨ w.heap.size ≤ q) := hV 10 _ 33 (by omega) rfl rfl
      clear hV hnd
      have blk3 := hT3.heap blk2 hne
      have d5 := cell_of_blk blk3 5 (.slice (some ⟨g, 0, none⟩) m cap) rfl
      have f5' := free_of_blk blk3 5
      obtain ⟨⟨l⟩, df⟩ := a
      obtain ⟨y0, y1, y2, y3, y4, y5, y6, y7, y8, y9, y10, y11, y12, y13, y14, y15, y16, y17, y18, y19, y20, y21, y22, y23, y24, y25, y26, y27, y28, y29, y30, y31, y32, y33, y34, y35, rfl⟩ := lit36 l (by simpa using hsz)
      obtain rfl : df = [] := hdf
      obtain rfl : y35 = .pointer (some ⟨fc, 5, none⟩) := k12
      obtain rfl : y33 = .slice (some ⟨qq, 0, none⟩) (m + 1) cq := k10
      clear hsz
      have hfl := lt_of_block hblk
      have qfc : ¬ qq = fc := fun e => by obtain ⟨cu, hu⟩ := owned_elem hrq; rw [e, blk3] at hu; simp at hu
      have TT : Turn w (w3.setCell ⟨fc, 5, none⟩ (.slice (some ⟨qq, 0, none⟩) (m + 1) cq)) (fun k => k = fc ∨ k = g) := (T1.trans (hT3.mono (fun _ _ h => .inr h))).setCell (p := ⟨fc, 5, none⟩) (fun _ => .inl rfl) (.slice (some ⟨qq, 0, none⟩) (m + 1) cq)
      have t3 := (Turn.refl w3 (fun k => k = fc)).setCell (p := ⟨fc, 5, none⟩) (fun _ => rfl) (.slice (some ⟨qq, 0, none⟩) (m + 1) cq)
      have r1 := blk_setCell blk3 5 (.slice (some ⟨qq, 0, none⟩) (m + 1) cq)
      have nb : ¬ b + 1 = g := fun e => by omega
      have nbf : ¬ b + 1 = fc := fun e => by omega
      have r2 := t3.heap (hT3.heap hbb2 nb) nbf
      have nlg : ¬ lv = g := fun e => by omega
      have ngg : ¬ gP = g := fun e => by omega
      have r3 := (hp2.kept hT3 nlg (fun k hk => by cases hk; exact ngg)).kept t3 nlv (fun k hk => by cases hk; exact ngP)
      have r4 := t3.ownsRow hrq (fun k hk => by cases hk; exact qfc)
      have HR : Entered β fc F g m bl rt lid lab l1 l2 ys w (.returned (.tuple #[])) (w3.setCell ⟨fc, 5, none⟩ (.slice (some ⟨qq, 0, none⟩) (m + 1) cq)) :=
        ⟨rfl, b, lv, gP, cP, qq, cq, yq, r1, hb, r2, hl1, hg1, r3, r4, hqq, TT⟩
      have HH := Lib.hid HR
      clear HR TT t3 r1 r2 r3 r4
      clear blk2 blk3
      unfold Oper.wp
      simp only [execOp, Act.eval]
      go_simp
      rw [show ∀ l : List Value, Array.mk l = l.toArray from fun _ => rfl]
      go_end0
      exact HH.out
end Go.Proofs.YtabienikffakiaaFmt
