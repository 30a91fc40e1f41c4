/- EnterBlock's contract. -/
import Derived.Test.YtdhmpfijdmlfoaaFmtDrawnEnd
import Derived.Test.YtdhmpfijdmlfoaaFmtWalk136F
namespace Go.Proofs.YtdhmpfijdmlfoaaFmt
open Go.RowKit Go.Maps
set_option linter.unusedVariables false

theorem regTop_any (fc : Nat) (w : World) (h : w.cell? ⟨fc, 6, none⟩ = some (.int .i64 0)) :
    Calls Tryf.prog 44 #[.pointer (some ⟨fc, 0, none⟩)] w fun e w' => e = .returned (.int .i64 0) ∧ w = w' := by
  go_enter Tryf.func44, Tryf.ntmps44
  go_wp2
  go_ret
  exact ⟨rfl, rfl⟩

theorem lit36 (l : List Value) (h : l.length = 36) : ∃ x0 x1 x2 x3 x4 x5 x6 x7 x8 x9 x10 x11 x12 x13 x14 x15 x16 x17 x18 x19 x20 x21 x22 x23 x24 x25 x26 x27 x28 x29 x30 x31 x32 x33 x34 x35, l = [x0, x1, x2, x3, x4, x5, x6, x7, x8, x9, x10, x11, x12, x13, x14, x15, x16, x17, x18, x19, x20, x21, x22, x23, x24, x25, x26, x27, x28, x29, x30, x31, x32, x33, x34, x35] := by
  match l, h with
  | x0 :: x1 :: x2 :: x3 :: x4 :: x5 :: x6 :: x7 :: x8 :: x9 :: x10 :: x11 :: x12 :: x13 :: x14 :: x15 :: x16 :: x17 :: x18 :: x19 :: x20 :: x21 :: x22 :: x23 :: x24 :: x25 :: x26 :: x27 :: x28 :: x29 :: x30 :: x31 :: x32 :: x33 :: x34 :: x35 :: [], _ => exact ⟨x0, x1, x2, x3, x4, x5, x6, x7, x8, x9, x10, x11, x12, x13, x14, x15, x16, x17, x18, x19, x20, x21, x22, x23, x24, x25, x26, x27, x28, x29, x30, x31, x32, x33, x34, x35, rfl⟩

def EbSlot (fc B β : Nat) (j : Nat) (v : Value) (w : World) : Prop :=
  match j with
  | 0 => v = .pointer (some ⟨fc, 0, none⟩)
  | 1 => v = .pointer (some ⟨fc, 0, none⟩)
  | 2 => v = .int .i64 0
  | 3 => ∃ lv, v = .pointer (some ⟨lv, 0, none⟩)
  | 4 => v = .int .i64 0
  | 5 => v = .pointer (some ⟨fc, 0, none⟩)
  | 6 => v = .pointer (some ⟨fc, 0, none⟩)
  | 7 => v = .pointer (some ⟨fc, 4, none⟩)
  | 8 => v = .pointer (some ⟨B, 0, none⟩)
  | 9 => v = .nilIface
  | 10 => v = .pointer (some ⟨fc, 0, none⟩)
  | 11 => v = .pointer (some ⟨fc, 0, none⟩)
  | 12 => v = .pointer (some ⟨fc, 9, none⟩)
  | 13 => v = .int .i64 0
  | 14 => ∃ b lv, v = .pointer (some ⟨b + 1, 0, none⟩) ∧ β ≤ b ∧ w.heap[b]? = some (.map #[] 0) ∧ w.heap[b + 1]? = some (.cells (blkCells lv b (some ⟨B, 0, none⟩) false) 67 (0, 0))
  | 15 => v = .pointer (some ⟨fc, 0, none⟩)
  | _ => v = .pointer (some ⟨fc, 4, none⟩)

theorem EbSlot.later {fc B β j : Nat} {v : Value} {w w' : World} (h : EbSlot fc B β j v w) (t : Turn w w' (fun _ => False)) : EbSlot fc B β j v w' := by
  unfold EbSlot at *
  split at h
  all_goals first
    | exact h
    | (obtain ⟨b, lv, h1, h2, h3, h4⟩ := h; exact ⟨b, lv, h1, h2, t.heap h3 id, t.heap h4 id⟩)

def Eb2 (fc g b : Nat) (j : Nat) (v : Value) (w : World) : Prop :=
  match j with
  | 0 => v = .pointer (some ⟨fc, 0, none⟩)
  | 1 => v = .pointer (some ⟨fc, 0, none⟩)
  | 2 => v = .pointer (some ⟨fc, 0, none⟩)
  | 3 => v = .pointer (some ⟨fc, 5, none⟩)
  | 4 => v = .slice (some ⟨g, 0, none⟩) 1 1
  | 5 => v = .pointer (some ⟨fc, 0, none⟩)
  | 6 => v = .pointer (some ⟨fc, 0, none⟩)
  | 7 => v = .pointer (some ⟨fc, 4, none⟩)
  | 8 => v = .pointer (some ⟨b + 1, 0, none⟩)
  | 9 => ∃ t, v = .slice (some ⟨t, 0, none⟩) 1 1 ∧ t ≠ g ∧ w.heap[t]? = some (.cells #[.pointer (some ⟨b + 1, 0, none⟩)] 35 (0, 0))
  | 10 => ∃ q c, v = .slice (some ⟨q, 0, none⟩) 2 c
  | 11 => v = .pointer (some ⟨fc, 0, none⟩)
  | _ => v = .pointer (some ⟨fc, 5, none⟩)

theorem Eb2.later {fc g b j : Nat} {v : Value} {w w' : World} (h : Eb2 fc g b j v w) (t : Turn w w' (fun k => k = g)) : Eb2 fc g b j v w' := by
  unfold Eb2 at *
  split at h
  all_goals first
    | exact h
    | (obtain ⟨c, h1, h2, h3⟩ := h; exact ⟨c, h1, h2, t.heap h3 h2⟩)

theorem infoCb : (Tryf.prog.info? 35).map (fun i => (i.zero, i.size, i.bytes)) = some (some (.pointer none), 1, 8) := by kernel_rfl

set_option maxRecDepth 100000 in
set_option maxHeartbeats 1000000 in
/-- a block entered: a new block, without names, stands ahead of the old one -/
theorem enterBlock_any (β fc : Nat) (F : FcAt) (g : Nat) (gc cc gl cl : Nat) (is ls : List Int) (up : Bool) (DL D1 D2 : DataW Unit) (nL n1 n2 : Nat) (w : World) (h : Ctx w β fc F (.slice (some ⟨g, 0, none⟩) 1 1, none) gc cc gl cl is ls 0 up DL D1 D2 nL n1 n2) (hg : w.heap[g]? = some (.cells #[.pointer (some ⟨F.b + 1, 0, none⟩)] 35 (0, 0))) (hβ : β ≤ w.heap.size) (hgβ : β ≤ g) :
    Calls Tryf.prog 25 #[.pointer (some ⟨fc, 0, none⟩), .int .i64 0, .nilIface] w fun e w' => e = .returned (.tuple #[]) ∧
      ∃ b lv gb, Ctx w' β fc { F with b := b, lv := lv } gb gc cc gl cl is ls 0 false (.map []) D1 D2 0 n1 n2 ∧ w.heap.size ≤ b ∧ Turn w w' (fun k => k = fc ∨ k = g) := by
  have c4 := cell_of_blk h.blk 4 (.pointer (some ⟨F.b + 1, 0, none⟩)) rfl
  have c6 := cell_of_blk h.blk 6 (.int .i64 0) rfl
  have c9 := cell_of_blk h.blk 9 (.int .i64 0) rfl
  go_enter Tryf.func25, Tryf.ntmps25
  go_wp2_with fail
  refine wp_region_end 17 17 (fun _ => False) (by kernel_rfl) (EbSlot fc (F.b + 1) w.heap.size) (by kernel_rfl) (by kernel_rfl) (by kernel_rfl) (fun j v w1 w2 h t => h.later t) ?_ ?_
  · intro i o hi ho a w1 _ hT hnd hV K hK'
    have hK : ∀ v w', EbSlot fc (F.b + 1) w.heap.size i v w' → Turn w1 w' (fun _ => False) → K (a.put o.dst v) w' := fun v w' h t => hK' v w' h t (fun _ => t)
    clear hK'
    have hβ1 := hT.size
    have n0 := hnd 0 (nondst (by kernel_rfl))
    have n1 := hnd 1 (nondst (by kernel_rfl))
    have n2 := hnd 2 (nondst (by kernel_rfl))
    have d4 := hT.cell c4 id
    have d6 := hT.cell c6 id
    have d9 := hT.cell c9 id
    clear hnd
    rcases (by omega : i = 0 ∨ i = 1 ∨ i = 2 ∨ i = 3 ∨ i = 4 ∨ i = 5 ∨ i = 6 ∨ i = 7 ∨ i = 8 ∨ i = 9 ∨ i = 10 ∨ i = 11 ∨ i = 12 ∨ i = 13 ∨ i = 14 ∨ i = 15 ∨ i = 16) with rfl | rfl | rfl | rfl | rfl | rfl | rfl | rfl | rfl | rfl | rfl | rfl | rfl | rfl | rfl | rfl | rfl
    all_goals (simp at ho; subst ho)
    · exact wp_value (by simp [execOp, Act.eval, n0]) (hK (.pointer (some ⟨fc, 0, none⟩)) w1 rfl (Turn.refl _ _))
    · exact wp_value (by simp [execOp, Act.eval, n0]) (hK (.pointer (some ⟨fc, 0, none⟩)) w1 rfl (Turn.refl _ _))
    · have k1 : a.tmps.getD 7 undef = .pointer (some ⟨fc, 0, none⟩) := hV ⟨1, .data⟩ (by simp) rfl _ 7 rfl rfl
      refine wp_call (f := 44) (vals := #[.pointer (some ⟨fc, 0, none⟩)]) (by simp only [execOp, resolve, Act.eval, List.map_toArray, List.map_cons, List.map_nil, k1]; kernel_rfl) ((regTop_any fc w1 d6).mono ?_)
      rintro e w2 ⟨rfl, rfl⟩
      exact ⟨_, rfl, hK _ w1 rfl (Turn.refl _ _)⟩
    · have k2 : a.tmps.getD 8 undef = .int .i64 0 := hV ⟨2, .data⟩ (by simp) rfl _ 8 rfl rfl
      refine wp_call (f := 43) (vals := #[.int .i64 0]) (by simp only [execOp, resolve, Act.eval, List.map_toArray, List.map_cons, List.map_nil, k2]; kernel_rfl) ((newPool_any 0 w1.heap.size w1 (Nat.le_refl _)).mono ?_)
      rintro e w2 ⟨p, v, rfl, h1, h2, _⟩
      exact ⟨_, rfl, hK _ w2 ⟨p, rfl⟩ h2⟩
    · exact wp_value (by simp [execOp, Act.eval, n1]) (hK (.int .i64 0) w1 rfl (Turn.refl _ _))
    · exact wp_value (by simp [execOp, Act.eval, n0]) (hK (.pointer (some ⟨fc, 0, none⟩)) w1 rfl (Turn.refl _ _))
    · have k5 : a.tmps.getD 11 undef = .pointer (some ⟨fc, 0, none⟩) := hV ⟨5, .data⟩ (by simp) rfl _ 11 rfl rfl
      exact wp_value (v := .pointer (some ⟨fc, 0, none⟩)) (by simp only [execOp, Act.eval, k5]; kernel_rfl) (hK (.pointer (some ⟨fc, 0, none⟩)) w1 rfl (Turn.refl _ _))
    · have k6 : a.tmps.getD 12 undef = .pointer (some ⟨fc, 0, none⟩) := hV ⟨6, .data⟩ (by simp) rfl _ 12 rfl rfl
      exact wp_value (v := .pointer (some ⟨fc, 4, none⟩)) (by simp only [execOp, Act.eval, k6]; kernel_rfl) (hK (.pointer (some ⟨fc, 4, none⟩)) w1 rfl (Turn.refl _ _))
    · have k7 : a.tmps.getD 13 undef = .pointer (some ⟨fc, 4, none⟩) := hV ⟨7, .data⟩ (by simp) rfl _ 13 rfl rfl
      exact wp_value (v := .pointer (some ⟨F.b + 1, 0, none⟩)) (by simp only [execOp, Act.eval, k7]; go_simp) (hK (.pointer (some ⟨F.b + 1, 0, none⟩)) w1 rfl (Turn.refl _ _))
    · exact wp_value (by simp [execOp, Act.eval, n2]) (hK (.nilIface) w1 rfl (Turn.refl _ _))
    · exact wp_value (by simp [execOp, Act.eval, n0]) (hK (.pointer (some ⟨fc, 0, none⟩)) w1 rfl (Turn.refl _ _))
    · have k10 : a.tmps.getD 16 undef = .pointer (some ⟨fc, 0, none⟩) := hV ⟨10, .data⟩ (by simp) rfl _ 16 rfl rfl
      exact wp_value (v := .pointer (some ⟨fc, 0, none⟩)) (by simp only [execOp, Act.eval, k10]; kernel_rfl) (hK (.pointer (some ⟨fc, 0, none⟩)) w1 rfl (Turn.refl _ _))
    · have k11 : a.tmps.getD 17 undef = .pointer (some ⟨fc, 0, none⟩) := hV ⟨11, .data⟩ (by simp) rfl _ 17 rfl rfl
      exact wp_value (v := .pointer (some ⟨fc, 9, none⟩)) (by simp only [execOp, Act.eval, k11]; kernel_rfl) (hK (.pointer (some ⟨fc, 9, none⟩)) w1 rfl (Turn.refl _ _))
    · have k12 : a.tmps.getD 18 undef = .pointer (some ⟨fc, 9, none⟩) := hV ⟨12, .data⟩ (by simp) rfl _ 18 rfl rfl
      exact wp_value (v := .int .i64 0) (by simp only [execOp, Act.eval, k12]; go_simp) (hK (.int .i64 0) w1 rfl (Turn.refl _ _))
    · obtain ⟨lv, k3⟩ : ∃ lv, a.tmps.getD 9 undef = .pointer (some ⟨lv, 0, none⟩) := hV ⟨3, .data⟩ (by simp) rfl _ 9 rfl rfl
      have k4 : a.tmps.getD 10 undef = .int .i64 0 := hV ⟨4, .data⟩ (by simp) rfl _ 10 rfl rfl
      have k8 : a.tmps.getD 14 undef = .pointer (some ⟨F.b + 1, 0, none⟩) := hV ⟨8, .data⟩ (by simp) rfl _ 14 rfl rfl
      have k9 : a.tmps.getD 15 undef = .nilIface := hV ⟨9, .data⟩ (by simp) rfl _ 15 rfl rfl
      have k13 : a.tmps.getD 19 undef = .int .i64 0 := hV ⟨13, .data⟩ (by simp) rfl _ 19 rfl rfl
      refine wp_call (f := 42) (vals := #[.pointer (some ⟨lv, 0, none⟩), .int .i64 0, .pointer (some ⟨F.b + 1, 0, none⟩), .nilIface, .int .i64 0]) (by simp only [execOp, resolve, Act.eval, List.map_toArray, List.map_cons, List.map_nil, k3, k4, k8, k9, k13]; kernel_rfl) ((newCodeBlock_any (some ⟨lv, 0, none⟩) (some ⟨F.b + 1, 0, none⟩) 0 0 w1).mono ?_)
      rintro e w2 ⟨rfl, rfl⟩
      have T := ((Turn.refl w1 (fun _ => False)).alloc (.map #[] 0)).alloc (.cells (blkCells lv w1.heap.size (some ⟨F.b + 1, 0, none⟩) false) 67)
      refine ⟨_, rfl, hK _ _ ⟨w1.heap.size, lv, rfl, hβ1, ?_, ?_⟩ T⟩
      · rw [Below.heap_alloc _ _ _ (by simp)]; exact heap_alloc_new w1 _
      · have := heap_alloc_new (w1.alloc (.map #[] 0)) (.cells (blkCells lv w1.heap.size (some ⟨F.b + 1, 0, none⟩) false) 67)
        rwa [show (w1.alloc (.map #[] 0)).heap.size = w1.heap.size + 1 from by simp] at this
    · have k0 : a.tmps.getD 6 undef = .pointer (some ⟨fc, 0, none⟩) := hV ⟨0, .data⟩ (by simp) rfl _ 6 rfl rfl
      exact wp_value (v := .pointer (some ⟨fc, 0, none⟩)) (by simp only [execOp, Act.eval, k0]; kernel_rfl) (hK (.pointer (some ⟨fc, 0, none⟩)) w1 rfl (Turn.refl _ _))
    · have k15 : a.tmps.getD 21 undef = .pointer (some ⟨fc, 0, none⟩) := hV ⟨15, .data⟩ (by simp) rfl _ 21 rfl rfl
      exact wp_value (v := .pointer (some ⟨fc, 4, none⟩)) (by simp only [execOp, Act.eval, k15]; kernel_rfl) (hK (.pointer (some ⟨fc, 4, none⟩)) w1 rfl (Turn.refl _ _))
  · intro a w1 ol hol hsz hdf hnd hV hT
    simp at hol
    subst hol
    obtain ⟨b, lv, k14, hb, hm, hbb⟩ : ∃ b lv, a.tmps.getD 20 undef = .pointer (some ⟨b + 1, 0, none⟩) ∧ w.heap.size ≤ b ∧ w1.heap[b]? = some (.map #[] 0) ∧ w1.heap[b + 1]? = some (.cells (blkCells lv b (some ⟨F.b + 1, 0, none⟩) false) 67 (0, 0)) := hV 14 _ 20 (by omega) rfl rfl
    have k16 : a.tmps.getD 22 undef = .pointer (some ⟨fc, 4, none⟩) := hV 16 _ 22 (by omega) rfl rfl
    have n0 := hnd 0 (nondst (by kernel_rfl))
    clear hV hnd
    obtain ⟨⟨l⟩, df⟩ := a
    obtain ⟨x0, x1, x2, x3, x4, x5, x6, x7, x8, x9, x10, x11, x12, x13, x14, x15, x16, x17, x18, x19, x20, x21, x22, x23, x24, x25, x26, x27, x28, x29, x30, x31, x32, x33, x34, x35, rfl⟩ := lit36 l (by simpa using hsz)
    obtain rfl : df = [] := hdf
    obtain rfl : x20 = .pointer (some ⟨b + 1, 0, none⟩) := k14
    obtain rfl : x22 = .pointer (some ⟨fc, 4, none⟩) := k16
    obtain rfl : x0 = .pointer (some ⟨fc, 0, none⟩) := n0
    clear hsz
    have blk1 := hT.heap h.blk id
    have d4 := cell_of_blk blk1 4 (.pointer (some ⟨F.b + 1, 0, none⟩)) rfl
    have f4 := free_of_blk blk1 4
    rename_i K hK
    unfold Oper.wp
    simp only [execOp, Act.eval]
    go_simp
    refine hK _ _ ?_
    clear hK
    rw [show ∀ l : List Value, Array.mk l = l.toArray from fun _ => rfl]
    have T1 := (hT.mono (G := fun k => k = fc ∨ k = g) (fun _ _ h => h.elim)).setCell (p := ⟨fc, 4, none⟩) (fun _ => .inl rfl) (.pointer (some ⟨b + 1, 0, none⟩))
    have t1 := (Turn.refl w1 (fun k => k = fc)).setCell (p := ⟨fc, 4, none⟩) (fun _ => rfl) (.pointer (some ⟨b + 1, 0, none⟩))
    have blk2 := blk_setCell blk1 4 (.pointer (some ⟨b + 1, 0, none⟩))
    have hfcl := lt_of_block h.blk
    have hm2 := t1.heap hm (show ¬ b = fc from fun e => by omega)
    have hbb2 := t1.heap hbb (show ¬ b + 1 = fc from fun e => by omega)
    have hgf : ¬ g = fc := blocks_ne hg h.blk (by simp)
    have hg2 := t1.heap (hT.heap hg id) hgf
    have HH := Lib.hid h
    clear h d4 f4 c4 c6 c9 blk1 t1 hm hbb
    generalize w1.setCell ⟨fc, 4, none⟩ (.pointer (some ⟨b + 1, 0, none⟩)) = w2 at *
    have e4 := cell_of_blk blk2 4 (.pointer (some ⟨b + 1, 0, none⟩)) rfl
    have e5 := cell_of_blk blk2 5 (.slice (some ⟨g, 0, none⟩) 1 1) rfl
    have f5 := free_of_blk blk2 5
    refine wp_region_end 13 10 (fun k => k = g) (by kernel_rfl) (Eb2 fc g b) (by kernel_rfl) (by kernel_rfl) (by kernel_rfl) (fun j v w1 w2 h t => h.later t) ?_ ?_
    · intro i o hi ho a w3 hTA hT3 hnd hV K hK'
      have hK : ∀ v w', Eb2 fc g b i v w' → Turn w3 w' (fun _ => False) → K (a.put o.dst v) w' := fun v w' h t => hK' v w' h (t.mono (fun _ _ h => h.elim)) (fun _ => t)
      have n0 := hnd 0 (nondst (by kernel_rfl))
      have d4 := hT3.cell e4 (fun h => hgf h.symm)
      have d5 := hT3.cell e5 (fun h => hgf h.symm)
      clear hnd
      rcases (by omega : i = 0 ∨ i = 1 ∨ i = 2 ∨ i = 3 ∨ i = 4 ∨ i = 5 ∨ i = 6 ∨ i = 7 ∨ i = 8 ∨ i = 9 ∨ i = 10 ∨ i = 11 ∨ i = 12) with rfl | rfl | rfl | rfl | rfl | rfl | rfl | rfl | rfl | rfl | rfl | rfl | rfl
      all_goals (simp at ho; subst ho)
      · exact wp_value (by simp [execOp, Act.eval, n0]) (hK (.pointer (some ⟨fc, 0, none⟩)) w3 rfl (Turn.refl _ _))
      · exact wp_value (by simp [execOp, Act.eval, n0]) (hK (.pointer (some ⟨fc, 0, none⟩)) w3 rfl (Turn.refl _ _))
      · have k1 : a.tmps.getD 24 undef = .pointer (some ⟨fc, 0, none⟩) := hV ⟨1, .data⟩ (by simp) rfl _ 24 rfl rfl
        exact wp_value (v := .pointer (some ⟨fc, 0, none⟩)) (by simp only [execOp, Act.eval, k1]; kernel_rfl) (hK (.pointer (some ⟨fc, 0, none⟩)) w3 rfl (Turn.refl _ _))
      · have k2 : a.tmps.getD 25 undef = .pointer (some ⟨fc, 0, none⟩) := hV ⟨2, .data⟩ (by simp) rfl _ 25 rfl rfl
        exact wp_value (v := .pointer (some ⟨fc, 5, none⟩)) (by simp only [execOp, Act.eval, k2]; kernel_rfl) (hK (.pointer (some ⟨fc, 5, none⟩)) w3 rfl (Turn.refl _ _))
      · have k3 : a.tmps.getD 26 undef = .pointer (some ⟨fc, 5, none⟩) := hV ⟨3, .data⟩ (by simp) rfl _ 26 rfl rfl
        exact wp_value (v := .slice (some ⟨g, 0, none⟩) 1 1) (by simp only [execOp, Act.eval, k3]; go_simp) (hK (.slice (some ⟨g, 0, none⟩) 1 1) w3 rfl (Turn.refl _ _))
      · exact wp_value (by simp [execOp, Act.eval, n0]) (hK (.pointer (some ⟨fc, 0, none⟩)) w3 rfl (Turn.refl _ _))
      · have k5 : a.tmps.getD 28 undef = .pointer (some ⟨fc, 0, none⟩) := hV ⟨5, .data⟩ (by simp) rfl _ 28 rfl rfl
        exact wp_value (v := .pointer (some ⟨fc, 0, none⟩)) (by simp only [execOp, Act.eval, k5]; kernel_rfl) (hK (.pointer (some ⟨fc, 0, none⟩)) w3 rfl (Turn.refl _ _))
      · have k6 : a.tmps.getD 29 undef = .pointer (some ⟨fc, 0, none⟩) := hV ⟨6, .data⟩ (by simp) rfl _ 29 rfl rfl
        exact wp_value (v := .pointer (some ⟨fc, 4, none⟩)) (by simp only [execOp, Act.eval, k6]; kernel_rfl) (hK (.pointer (some ⟨fc, 4, none⟩)) w3 rfl (Turn.refl _ _))
      · have k7 : a.tmps.getD 30 undef = .pointer (some ⟨fc, 4, none⟩) := hV ⟨7, .data⟩ (by simp) rfl _ 30 rfl rfl
        exact wp_value (v := .pointer (some ⟨b + 1, 0, none⟩)) (by simp only [execOp, Act.eval, k7]; go_simp) (hK (.pointer (some ⟨b + 1, 0, none⟩)) w3 rfl (Turn.refl _ _))
      · have k8 : a.tmps.getD 31 undef = .pointer (some ⟨b + 1, 0, none⟩) := hV ⟨8, .data⟩ (by simp) rfl _ 31 rfl rfl
        have hg3 := lt_of_block hg2
        have hsz3 := hT3.size
        have T : Turn w3 (w3.alloc (.cells #[.pointer (some ⟨b + 1, 0, none⟩)] 35)) (fun _ => False) := (Turn.refl _ _).alloc _
        exact wp_value (v := .slice (some ⟨w3.heap.size, 0, none⟩) 1 1) (w' := w3.alloc (.cells #[.pointer (some ⟨b + 1, 0, none⟩)] 35)) (by simp only [execOp, Act.eval, List.map_toArray, List.map_cons, List.map_nil, k8]; kernel_rfl)
          (hK _ _ ⟨w3.heap.size, rfl, by omega, alloc_blk _ _⟩ T)
      · have k4 : a.tmps.getD 27 undef = .slice (some ⟨g, 0, none⟩) 1 1 := hV ⟨4, .data⟩ (by simp) rfl _ 27 rfl rfl
        obtain ⟨t, k9, ht, hbt⟩ : ∃ t, a.tmps.getD 32 undef = .slice (some ⟨t, 0, none⟩) 1 1 ∧ t ≠ g ∧ w3.heap[t]? = some (.cells #[.pointer (some ⟨b + 1, 0, none⟩)] 35 (0, 0)) := hV ⟨9, .data⟩ (by simp) rfl _ 32 rfl rfl
        obtain ⟨i0, hi0, hz0, hz1, hz2⟩ := info_parts infoCb
        have hrow : w3.ownsRow 0 35 1 (.slice (some ⟨g, 0, none⟩) 1 1) 1 [.pointer (some ⟨F.b + 1, 0, none⟩)] :=
          ⟨rfl, .inr ⟨g, 1, _, rfl, Nat.zero_le _, (hTA rfl).heap hg2 id, Nat.le_refl _, by unfold maxLen; omega, rfl, rfl⟩⟩
        obtain ⟨v', w', hr, h2, h3, _⟩ := run_append_own_at (P := Tryf.prog) w3 0 36 36 35 i0 (.pointer none) 1 8 Tryf.underlying36 hi0 hz0 hz1 hz2 rfl (by decide) _ 1 _ hrow ⟨t, 0, none⟩ 1 1 [.pointer (some ⟨b + 1, 0, none⟩)] rfl
          (fun j u hj => by
            match j, hj with
            | 0, hj =>
              simp at hj
              subst hj
              simpa [Addr.add] using cell_of_blk hbt 0 (.pointer (some ⟨b + 1, 0, none⟩)) rfl) (by intro u hu; simp at hu; subst hu; rfl) (by unfold maxLen; omega) (by omega) (by omega)
        have T : Turn w3 w' (fun k => k = g) := (Turn.refl w3 _).grown h3 (fun k hk _ => by cases hk; rfl)
        obtain ⟨q, cq, rfl, _⟩ := shape_of_owned h2 (by omega)
        refine wp_value (v := .slice (some ⟨q, 0, none⟩) (1 + 1) cq) (w' := w') ?_ (hK' _ w' ⟨q, cq, rfl⟩ T (fun h => absurd rfl h))
        unfold execOp
        simp only [resolve, invoke, builtin, Sem.run_bind, Sem.run_pure, Result.andThen_ok, List.map_toArray, List.map_cons, List.map_nil, Act.eval, k4, k9, hr]
      · have k0 : a.tmps.getD 23 undef = .pointer (some ⟨fc, 0, none⟩) := hV ⟨0, .data⟩ (by simp) rfl _ 23 rfl rfl
        exact wp_value (v := .pointer (some ⟨fc, 0, none⟩)) (by simp only [execOp, Act.eval, k0]; kernel_rfl) (hK (.pointer (some ⟨fc, 0, none⟩)) w3 rfl (Turn.refl _ _))
      · have k11 : a.tmps.getD 34 undef = .pointer (some ⟨fc, 0, none⟩) := hV ⟨11, .data⟩ (by simp) rfl _ 34 rfl rfl
        exact wp_value (v := .pointer (some ⟨fc, 5, none⟩)) (by simp only [execOp, Act.eval, k11]; kernel_rfl) (hK (.pointer (some ⟨fc, 5, none⟩)) w3 rfl (Turn.refl _ _))
    · intro a w3 ol hol hsz hdf hnd hV hT3
      simp at hol
      subst hol
      have k12 : a.tmps.getD 35 undef = .pointer (some ⟨fc, 5, none⟩) := hV 12 _ 35 (by omega) rfl rfl
      have k10 := hV 10 _ 33 (by omega) rfl rfl
      clear hV hnd
      have hne : ¬ fc = g := fun h => hgf h.symm
      have blk3 := hT3.heap blk2 hne
      have d5 := cell_of_blk blk3 5 (.slice (some ⟨g, 0, none⟩) 1 1) rfl
      have f5' := free_of_blk blk3 5
      obtain ⟨q, cq, k10⟩ : ∃ q c, a.tmps.getD 33 undef = .slice (some ⟨q, 0, none⟩) 2 c := k10
      obtain ⟨⟨l⟩, df⟩ := a
      obtain ⟨y0, y1, y2, y3, y4, y5, y6, y7, y8, y9, y10, y11, y12, y13, y14, y15, y16, y17, y18, y19, y20, y21, y22, y23, y24, y25, y26, y27, y28, y29, y30, y31, y32, y33, y34, y35, rfl⟩ := lit36 l (by simpa using hsz)
      obtain rfl : df = [] := hdf
      obtain rfl : y35 = .pointer (some ⟨fc, 5, none⟩) := k12
      obtain rfl : y33 = .slice (some ⟨q, 0, none⟩) 2 cq := k10
      clear hsz
      have TT : Turn w (w3.setCell ⟨fc, 5, none⟩ (.slice (some ⟨q, 0, none⟩) 2 cq)) (fun k => k = fc ∨ k = g) := (T1.trans (hT3.mono (fun _ _ h => .inr h))).setCell (p := ⟨fc, 5, none⟩) (fun _ => .inl rfl) (.slice (some ⟨q, 0, none⟩) 2 cq)
      have t3 := (Turn.refl w3 (fun k => k = fc)).setCell (p := ⟨fc, 5, none⟩) (fun _ => rfl) (.slice (some ⟨q, 0, none⟩) 2 cq)
      have hgw := lt_of_block hg
      have hlt := HH.out.lt
      have hne' := HH.out.nes
      have nfg : ∀ k, k < w.heap.size → k ≠ fc → (∀ o, w.heap[k]? = some o → o ≠ .cells #[.pointer (some ⟨F.b + 1, 0, none⟩)] 35 (0, 0)) → ¬ (k = fc ∨ k = g) := by
        intro k _ h1 h2 h3
        rcases h3 with h3 | h3
        · exact h1 h3
        · subst h3; exact h2 _ hg rfl
      have CT : Ctx (w3.setCell ⟨fc, 5, none⟩ (.slice (some ⟨q, 0, none⟩) 2 cq)) β fc { F with b := b, lv := lv } (.slice (some ⟨q, 0, none⟩) 2 cq, some ⟨F.b + 1, 0, none⟩) gc cc gl cl is ls 0 false (.map []) D1 D2 0 n1 n2 := by
        obtain ⟨cu1, hu1⟩ := owned_elem HH.out.code.codes
        obtain ⟨cu2, hu2⟩ := owned_elem HH.out.code.lines
        obtain ⟨_, _, q1, _⟩ := HH.out.own1
        obtain ⟨_, _, q2, _⟩ := HH.out.own2
        have g1 : ¬ F.c = g := blocks_ne HH.out.code.blk hg (by simp)
        have g2 : ¬ gc = g := blocks_ne hu1 hg (by simp)
        have g3 : ¬ gl = g := blocks_ne hu2 hg (by simp)
        have g4 : ¬ F.M1 = g := blocks_ne q1 hg (by simp)
        have g5 : ¬ F.M2 = g := blocks_ne q2 hg (by simp)
        have hM1 : F.M1 < w.heap.size := hlt.2.2.2.2.2.2.1
        have hM2 : F.M2 < w.heap.size := hlt.2.2.2.2.2.2.2
        have nn : ∀ k, k ≠ fc → ¬ k = g → ¬ (k = fc ∨ k = g) := fun k a b c => c.elim a b
        refine ⟨HH.out.ge, blk_setCell blk3 5 (.slice (some ⟨q, 0, none⟩) 2 cq), HH.out.code.kept TT (nn _ hne'.fc_c.symm g1) (nn _ hne'.fc_g.symm g2) (nn _ hne'.fc_l.symm g3), HH.out.cge, ?_, ?_, ?_, ownsMap_kept HH.out.own1 TT (nn _ hne'.fc_1.symm g4), HH.out.m1ge, ownsMap_kept HH.out.own2 TT (nn _ hne'.fc_2.symm g5), HH.out.m2ge, ?_, ?_, HH.out.ne12⟩
        · exact t3.heap (hT3.heap hbb2 (show ¬ b + 1 = g from fun e => by omega)) (show ¬ b + 1 = fc from fun e => by omega)
        · show β ≤ b; omega
        · exact empty_own (t3.heap (hT3.heap hm2 (show ¬ b = g from fun e => by omega)) (show ¬ b = fc from fun e => by omega))
        · show b ≠ F.M1; omega
        · show b ≠ F.M2; omega
      have CH := Lib.hid CT
      have TH := Lib.hid TT
      clear CT TT t3 HH nfg blk2 blk3
      unfold Oper.wp
      simp only [execOp, Act.eval]
      go_simp
      rw [show ∀ l : List Value, Array.mk l = l.toArray from fun _ => rfl]
      go_goals
      go_end0
      exact ⟨rfl, b, lv, _, CH.out, hb, TH.out⟩
end Go.Proofs.YtdhmpfijdmlfoaaFmt
