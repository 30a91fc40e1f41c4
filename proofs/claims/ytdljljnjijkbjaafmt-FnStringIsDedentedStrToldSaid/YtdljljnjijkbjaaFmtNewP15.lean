/- newFunctionProto's contract: a new prototype with eight rows of its own. -/
import Derived.Test.YtdljljnjijkbjaaFmtProto15
namespace Go.Proofs.YtdljljnjijkbjaaFmt
open Go.RowKit
set_option linter.unusedVariables false

def v0 (g : Nat → Nat) : Nat → Value := fun f => .slice (some ⟨g f, 0, none⟩) 0 (cp f)

def Rows0 (w : World) (β : Nat) (g : Nat → Nat) : Prop := (∀ f, 7 ≤ f → f ≤ 14 → w.ownsRow β (el f) (sz f) (v0 g f) 0 []) ∧ ∀ f f', 7 ≤ f → f ≤ 14 → 7 ≤ f' → f' ≤ 14 → f ≠ f' → g f ≠ g f'

theorem Rows0.later {w w' : World} {β : Nat} {g : Nat → Nat} (h : Rows0 w β g) (t : Turn w w' (fun _ => False)) : Rows0 w' β g := ⟨fun f a b => t.ownsRow (h.1 f a b) (fun _ _ => id), h.2⟩

def ProtoSlot (s : ByteArray) (β : Nat) (j : Nat) (v : Value) (w : World) : Prop :=
  match j with
  | 0 => v = .string s
  | 1 => ∃ g, v = .slice (some ⟨g, 0, none⟩) 0 (cp 7) ∧ w.ownsRow β (el 7) (sz 7) v 0 []
  | 2 => ∃ g, v = .slice (some ⟨g, 0, none⟩) 0 (cp 8) ∧ w.ownsRow β (el 8) (sz 8) v 0 []
  | 3 => ∃ g, v = .slice (some ⟨g, 0, none⟩) 0 (cp 9) ∧ w.ownsRow β (el 9) (sz 9) v 0 []
  | 4 => ∃ g, v = .slice (some ⟨g, 0, none⟩) 0 (cp 10) ∧ w.ownsRow β (el 10) (sz 10) v 0 []
  | 5 => ∃ g, v = .slice (some ⟨g, 0, none⟩) 0 (cp 11) ∧ w.ownsRow β (el 11) (sz 11) v 0 []
  | 6 => ∃ g, v = .slice (some ⟨g, 0, none⟩) 0 (cp 12) ∧ w.ownsRow β (el 12) (sz 12) v 0 []
  | 7 => ∃ g, v = .slice (some ⟨g, 0, none⟩) 0 (cp 13) ∧ w.ownsRow β (el 13) (sz 13) v 0 []
  | 8 => ∃ g, v = .slice (some ⟨g, 0, none⟩) 0 (cp 14) ∧ w.ownsRow β (el 14) (sz 14) v 0 []
  | 9 => ∃ g, v = .agg (pCells s (v0 g)) ∧ Rows0 w β g
  | _ => ∃ p g, v = .pointer (some ⟨p, 0, none⟩) ∧ β ≤ p ∧ w.heap[p]? = some (.cells (pCells s (v0 g)) 33 (0, 0)) ∧ Rows0 w β g

def ProtoFoot (j : Nat) (v : Value) (x : Nat) : Prop := 1 ≤ j ∧ j ≤ 8 ∧ v.ownBlock = some x

theorem ProtoSlot.later {s : ByteArray} {β j : Nat} {v : Value} {w w' : World} (h : ProtoSlot s β j v w) (t : Turn w w' (fun _ => False)) : ProtoSlot s β j v w' := by
  unfold ProtoSlot at *
  split at h
  all_goals first
    | exact h
    | (obtain ⟨p, g, h1, h2, h3, h4⟩ := h; exact ⟨p, g, h1, h2, t.heap h3 id, h4.later t⟩)
    | (obtain ⟨g, rfl, h2⟩ := h; exact ⟨g, rfl, t.ownsRow h2 (fun _ _ => id)⟩)
    | (obtain ⟨g, h1, h2⟩ := h; exact ⟨g, h1, h2.later t⟩)

def Fresh (s : ByteArray) (w : World) (e : Ending) (w' : World) : Prop := ∃ p g, e = .returned (.pointer (some ⟨p, 0, none⟩)) ∧ PS w' w.heap.size p s (v0 g) (fun _ => []) ∧ Turn w w' (fun _ => False)

theorem wp_makes {Q : Exit → Act → World → Prop} {K : Act → World → Prop} (t e : TypeId) (z : Value) (size bytes cap : Nat) (h1 : Tryf.prog.underlying t = some (.slice e)) (hinfo : (Tryf.prog.info? e).map (fun i => (i.zero, i.size, i.bytes)) = some (some z, size, bytes)) (β : Nat) (a : Act) (w : World) (hβ : β ≤ w.heap.size) (b2 : bytes * cap ≤ 281474976710656) (b3 : cap ≤ maxLen)
    (o : Oper) (hop : o.op = .makeSlice t (.const (.int .i64 0)) (.const (.int .i64 cap))) (hK : ∀ v w', (∃ g, v = .slice (some ⟨g, 0, none⟩) 0 cap ∧ w'.ownsRow β e size v 0 []) → Turn w w' (fun _ => False) → (∀ x, v.ownBlock = some x → w.heap.size ≤ x ∧ x < w'.heap.size) → K (a.put o.dst v) w') : o.wp Tryf.prog a w K Q := by
  obtain ⟨i, hi, hz0, hz1, hz2⟩ := info_parts hinfo
  obtain ⟨w', hrun, r1, r2⟩ := run_make_own (P := Tryf.prog) w β t e i z size h1 hi hz0 hz1 .i64 .i64 cap (by rw [hz2]; exact b2) b3 hβ
  refine wp_value (v := .slice (some ⟨w.heap.size, 0, none⟩) 0 cap) (w' := w') (by simp [execOp, hop, Act.eval, hrun, Result.andThen]) (hK _ w' ⟨_, rfl, r1⟩ ((Turn.refl w _).grown r2 (fun _ h => by cases h)) ?_)
  intro x hx
  obtain rfl : w.heap.size = x := by simpa [Value.ownBlock] using hx
  exact ⟨Nat.le_refl _, (r1.lt _ rfl).2⟩

set_option maxRecDepth 100000 in
theorem newProto_any (s : ByteArray) (w : World) :
    Calls Tryf.prog 20 #[.string s] w (Fresh s w) := by
  go_enter Tryf.func20, Tryf.ntmps20
  go_wp2_with fail
  refine wp_region_news (by kernel_rfl) (ProtoSlot s w.heap.size) ProtoFoot (by kernel_rfl) (by kernel_rfl) (fun j v w1 w2 h t => h.later t) ?_ ?_
  · intro i o ho a w1 hT hnd hV hF K hK
    have hi := lt_of_get ho
    simp at hi
    have hβ := hT.size
    have h0 := hnd 0 (nondst (by kernel_rfl))
    clear hnd
    rcases (by omega : i = 0 ∨ i = 1 ∨ i = 2 ∨ i = 3 ∨ i = 4 ∨ i = 5 ∨ i = 6 ∨ i = 7 ∨ i = 8 ∨ i = 9 ∨ i = 10 ∨ i = 11) with rfl | rfl | rfl | rfl | rfl | rfl | rfl | rfl | rfl | rfl | rfl | rfl
    all_goals (simp at ho; subst ho)
    · exact wp_value (by simp [execOp, Act.eval, h0]) (hK (.string s) w1 rfl (Turn.refl _ _) (fun x h => by have := h.1; omega))
    · exact wp_makes 25 56 (.int .u32 0) 1 4 128 Tryf.underlying25 infoU32 w.heap.size a w1 hβ (by omega) (by unfold maxLen; omega) _ (by rfl) (fun v w2 h2 h3 h4 => hK v w2 h2 h3 (fun x hx => h4 x hx.2.2))
    · exact wp_makes 26 55 .nilIface 1 16 32 Tryf.underlying26 infoLV w.heap.size a w1 hβ (by omega) (by unfold maxLen; omega) _ (by rfl) (fun v w2 h2 h3 h4 => hK v w2 h2 h3 (fun x hx => h4 x hx.2.2))
    · exact wp_makes 27 23 (.pointer none) 1 8 16 Tryf.underlying27 infoPFP w.heap.size a w1 hβ (by omega) (by unfold maxLen; omega) _ (by rfl) (fun v w2 h2 h3 h4 => hK v w2 h2 h3 (fun x hx => h4 x hx.2.2))
    · exact wp_makes 28 3 (.int .i64 0) 1 8 128 Tryf.underlying28 infoInt w.heap.size a w1 hβ (by omega) (by unfold maxLen; omega) _ (by rfl) (fun v w2 h2 h3 h4 => hK v w2 h2 h3 (fun x hx => h4 x hx.2.2))
    · exact wp_makes 29 48 (.pointer none) 1 8 16 Tryf.underlying29 infoPDL w.heap.size a w1 hβ (by omega) (by unfold maxLen; omega) _ (by rfl) (fun v w2 h2 h3 h4 => hK v w2 h2 h3 (fun x hx => h4 x hx.2.2))
    · exact wp_makes 30 100 (.agg #[.string ByteArray.empty, .int .i64 0]) 2 24 128 Tryf.underlying30 infoDC w.heap.size a w1 hβ (by omega) (by unfold maxLen; omega) _ (by rfl) (fun v w2 h2 h3 h4 => hK v w2 h2 h3 (fun x hx => h4 x hx.2.2))
    · exact wp_makes 31 9 (.string ByteArray.empty) 1 16 16 Tryf.underlying31 infoString w.heap.size a w1 hβ (by omega) (by unfold maxLen; omega) _ (by rfl) (fun v w2 h2 h3 h4 => hK v w2 h2 h3 (fun x hx => h4 x hx.2.2))
    · exact wp_makes 31 9 (.string ByteArray.empty) 1 16 32 Tryf.underlying31 infoString w.heap.size a w1 hβ (by omega) (by unfold maxLen; omega) _ (by rfl) (fun v w2 h2 h3 h4 => hK v w2 h2 h3 (fun x hx => h4 x hx.2.2))
    · have k0 : a.tmps.getD 3 undef = .string s := hV ⟨0, .data⟩ (by simp) rfl _ 3 rfl rfl
      obtain ⟨g1, k1, r1⟩ : ∃ g, a.tmps.getD 4 undef = .slice (some ⟨g, 0, none⟩) 0 (cp 7) ∧ w1.ownsRow w.heap.size (el 7) (sz 7) (a.tmps.getD 4 undef) 0 [] := hV ⟨1, .data⟩ (by simp) rfl _ 4 rfl rfl
      obtain ⟨g2, k2, r2⟩ : ∃ g, a.tmps.getD 5 undef = .slice (some ⟨g, 0, none⟩) 0 (cp 8) ∧ w1.ownsRow w.heap.size (el 8) (sz 8) (a.tmps.getD 5 undef) 0 [] := hV ⟨2, .data⟩ (by simp) rfl _ 5 rfl rfl
      obtain ⟨g3, k3, r3⟩ : ∃ g, a.tmps.getD 6 undef = .slice (some ⟨g, 0, none⟩) 0 (cp 9) ∧ w1.ownsRow w.heap.size (el 9) (sz 9) (a.tmps.getD 6 undef) 0 [] := hV ⟨3, .data⟩ (by simp) rfl _ 6 rfl rfl
      obtain ⟨g4, k4, r4⟩ : ∃ g, a.tmps.getD 7 undef = .slice (some ⟨g, 0, none⟩) 0 (cp 10) ∧ w1.ownsRow w.heap.size (el 10) (sz 10) (a.tmps.getD 7 undef) 0 [] := hV ⟨4, .data⟩ (by simp) rfl _ 7 rfl rfl
      obtain ⟨g5, k5, r5⟩ : ∃ g, a.tmps.getD 8 undef = .slice (some ⟨g, 0, none⟩) 0 (cp 11) ∧ w1.ownsRow w.heap.size (el 11) (sz 11) (a.tmps.getD 8 undef) 0 [] := hV ⟨5, .data⟩ (by simp) rfl _ 8 rfl rfl
      obtain ⟨g6, k6, r6⟩ : ∃ g, a.tmps.getD 9 undef = .slice (some ⟨g, 0, none⟩) 0 (cp 12) ∧ w1.ownsRow w.heap.size (el 12) (sz 12) (a.tmps.getD 9 undef) 0 [] := hV ⟨6, .data⟩ (by simp) rfl _ 9 rfl rfl
      obtain ⟨g7, k7, r7⟩ : ∃ g, a.tmps.getD 10 undef = .slice (some ⟨g, 0, none⟩) 0 (cp 13) ∧ w1.ownsRow w.heap.size (el 13) (sz 13) (a.tmps.getD 10 undef) 0 [] := hV ⟨7, .data⟩ (by simp) rfl _ 10 rfl rfl
      obtain ⟨g8, k8, r8⟩ : ∃ g, a.tmps.getD 11 undef = .slice (some ⟨g, 0, none⟩) 0 (cp 14) ∧ w1.ownsRow w.heap.size (el 14) (sz 14) (a.tmps.getD 11 undef) 0 [] := hV ⟨8, .data⟩ (by simp) rfl _ 11 rfl rfl
      rw [k1] at r1
      rw [k2] at r2
      rw [k3] at r3
      rw [k4] at r4
      rw [k5] at r5
      rw [k6] at r6
      rw [k7] at r7
      rw [k8] at r8
      have n12 : g1 ≠ g2 := fun e => hF ⟨1, .data⟩ (by simp) ⟨2, .data⟩ (by simp) rfl rfl (by decide) _ _ 4 5 g1 rfl rfl rfl rfl ⟨by decide, by decide, by rw [k1]; rfl⟩ ⟨by decide, by decide, by rw [k2, e]; rfl⟩
      have n13 : g1 ≠ g3 := fun e => hF ⟨1, .data⟩ (by simp) ⟨3, .data⟩ (by simp) rfl rfl (by decide) _ _ 4 6 g1 rfl rfl rfl rfl ⟨by decide, by decide, by rw [k1]; rfl⟩ ⟨by decide, by decide, by rw [k3, e]; rfl⟩
      have n14 : g1 ≠ g4 := fun e => hF ⟨1, .data⟩ (by simp) ⟨4, .data⟩ (by simp) rfl rfl (by decide) _ _ 4 7 g1 rfl rfl rfl rfl ⟨by decide, by decide, by rw [k1]; rfl⟩ ⟨by decide, by decide, by rw [k4, e]; rfl⟩
      have n15 : g1 ≠ g5 := fun e => hF ⟨1, .data⟩ (by simp) ⟨5, .data⟩ (by simp) rfl rfl (by decide) _ _ 4 8 g1 rfl rfl rfl rfl ⟨by decide, by decide, by rw [k1]; rfl⟩ ⟨by decide, by decide, by rw [k5, e]; rfl⟩
      have n16 : g1 ≠ g6 := fun e => hF ⟨1, .data⟩ (by simp) ⟨6, .data⟩ (by simp) rfl rfl (by decide) _ _ 4 9 g1 rfl rfl rfl rfl ⟨by decide, by decide, by rw [k1]; rfl⟩ ⟨by decide, by decide, by rw [k6, e]; rfl⟩
      have n17 : g1 ≠ g7 := fun e => hF ⟨1, .data⟩ (by simp) ⟨7, .data⟩ (by simp) rfl rfl (by decide) _ _ 4 10 g1 rfl rfl rfl rfl ⟨by decide, by decide, by rw [k1]; rfl⟩ ⟨by decide, by decide, by rw [k7, e]; rfl⟩
      have n18 : g1 ≠ g8 := fun e => hF ⟨1, .data⟩ (by simp) ⟨8, .data⟩ (by simp) rfl rfl (by decide) _ _ 4 11 g1 rfl rfl rfl rfl ⟨by decide, by decide, by rw [k1]; rfl⟩ ⟨by decide, by decide, by rw [k8, e]; rfl⟩
      have n23 : g2 ≠ g3 := fun e => hF ⟨2, .data⟩ (by simp) ⟨3, .data⟩ (by simp) rfl rfl (by decide) _ _ 5 6 g2 rfl rfl rfl rfl ⟨by decide, by decide, by rw [k2]; rfl⟩ ⟨by decide, by decide, by rw [k3, e]; rfl⟩
      have n24 : g2 ≠ g4 := fun e => hF ⟨2, .data⟩ (by simp) ⟨4, .data⟩ (by simp) rfl rfl (by decide) _ _ 5 7 g2 rfl rfl rfl rfl ⟨by decide, by decide, by rw [k2]; rfl⟩ ⟨by decide, by decide, by rw [k4, e]; rfl⟩
      have n25 : g2 ≠ g5 := fun e => hF ⟨2, .data⟩ (by simp) ⟨5, .data⟩ (by simp) rfl rfl (by decide) _ _ 5 8 g2 rfl rfl rfl rfl ⟨by decide, by decide, by rw [k2]; rfl⟩ ⟨by decide, by decide, by rw [k5, e]; rfl⟩
      have n26 : g2 ≠ g6 := fun e => hF ⟨2, .data⟩ (by simp) ⟨6, .data⟩ (by simp) rfl rfl (by decide) _ _ 5 9 g2 rfl rfl rfl rfl ⟨by decide, by decide, by rw [k2]; rfl⟩ ⟨by decide, by decide, by rw [k6, e]; rfl⟩
      have n27 : g2 ≠ g7 := fun e => hF ⟨2, .data⟩ (by simp) ⟨7, .data⟩ (by simp) rfl rfl (by decide) _ _ 5 10 g2 rfl rfl rfl rfl ⟨by decide, by decide, by rw [k2]; rfl⟩ ⟨by decide, by decide, by rw [k7, e]; rfl⟩
      have n28 : g2 ≠ g8 := fun e => hF ⟨2, .data⟩ (by simp) ⟨8, .data⟩ (by simp) rfl rfl (by decide) _ _ 5 11 g2 rfl rfl rfl rfl ⟨by decide, by decide, by rw [k2]; rfl⟩ ⟨by decide, by decide, by rw [k8, e]; rfl⟩
      have n34 : g3 ≠ g4 := fun e => hF ⟨3, .data⟩ (by simp) ⟨4, .data⟩ (by simp) rfl rfl (by decide) _ _ 6 7 g3 rfl rfl rfl rfl ⟨by decide, by decide, by rw [k3]; rfl⟩ ⟨by decide, by decide, by rw [k4, e]; rfl⟩
      have n35 : g3 ≠ g5 := fun e => hF ⟨3, .data⟩ (by simp) ⟨5, .data⟩ (by simp) rfl rfl (by decide) _ _ 6 8 g3 rfl rfl rfl rfl ⟨by decide, by decide, by rw [k3]; rfl⟩ ⟨by decide, by decide, by rw [k5, e]; rfl⟩
      have n36 : g3 ≠ g6 := fun e => hF ⟨3, .data⟩ (by simp) ⟨6, .data⟩ (by simp) rfl rfl (by decide) _ _ 6 9 g3 rfl rfl rfl rfl ⟨by decide, by decide, by rw [k3]; rfl⟩ ⟨by decide, by decide, by rw [k6, e]; rfl⟩
      have n37 : g3 ≠ g7 := fun e => hF ⟨3, .data⟩ (by simp) ⟨7, .data⟩ (by simp) rfl rfl (by decide) _ _ 6 10 g3 rfl rfl rfl rfl ⟨by decide, by decide, by rw [k3]; rfl⟩ ⟨by decide, by decide, by rw [k7, e]; rfl⟩
      have n38 : g3 ≠ g8 := fun e => hF ⟨3, .data⟩ (by simp) ⟨8, .data⟩ (by simp) rfl rfl (by decide) _ _ 6 11 g3 rfl rfl rfl rfl ⟨by decide, by decide, by rw [k3]; rfl⟩ ⟨by decide, by decide, by rw [k8, e]; rfl⟩
      have n45 : g4 ≠ g5 := fun e => hF ⟨4, .data⟩ (by simp) ⟨5, .data⟩ (by simp) rfl rfl (by decide) _ _ 7 8 g4 rfl rfl rfl rfl ⟨by decide, by decide, by rw [k4]; rfl⟩ ⟨by decide, by decide, by rw [k5, e]; rfl⟩
      have n46 : g4 ≠ g6 := fun e => hF ⟨4, .data⟩ (by simp) ⟨6, .data⟩ (by simp) rfl rfl (by decide) _ _ 7 9 g4 rfl rfl rfl rfl ⟨by decide, by decide, by rw [k4]; rfl⟩ ⟨by decide, by decide, by rw [k6, e]; rfl⟩
      have n47 : g4 ≠ g7 := fun e => hF ⟨4, .data⟩ (by simp) ⟨7, .data⟩ (by simp) rfl rfl (by decide) _ _ 7 10 g4 rfl rfl rfl rfl ⟨by decide, by decide, by rw [k4]; rfl⟩ ⟨by decide, by decide, by rw [k7, e]; rfl⟩
      have n48 : g4 ≠ g8 := fun e => hF ⟨4, .data⟩ (by simp) ⟨8, .data⟩ (by simp) rfl rfl (by decide) _ _ 7 11 g4 rfl rfl rfl rfl ⟨by decide, by decide, by rw [k4]; rfl⟩ ⟨by decide, by decide, by rw [k8, e]; rfl⟩
      have n56 : g5 ≠ g6 := fun e => hF ⟨5, .data⟩ (by simp) ⟨6, .data⟩ (by simp) rfl rfl (by decide) _ _ 8 9 g5 rfl rfl rfl rfl ⟨by decide, by decide, by rw [k5]; rfl⟩ ⟨by decide, by decide, by rw [k6, e]; rfl⟩
      have n57 : g5 ≠ g7 := fun e => hF ⟨5, .data⟩ (by simp) ⟨7, .data⟩ (by simp) rfl rfl (by decide) _ _ 8 10 g5 rfl rfl rfl rfl ⟨by decide, by decide, by rw [k5]; rfl⟩ ⟨by decide, by decide, by rw [k7, e]; rfl⟩
      have n58 : g5 ≠ g8 := fun e => hF ⟨5, .data⟩ (by simp) ⟨8, .data⟩ (by simp) rfl rfl (by decide) _ _ 8 11 g5 rfl rfl rfl rfl ⟨by decide, by decide, by rw [k5]; rfl⟩ ⟨by decide, by decide, by rw [k8, e]; rfl⟩
      have n67 : g6 ≠ g7 := fun e => hF ⟨6, .data⟩ (by simp) ⟨7, .data⟩ (by simp) rfl rfl (by decide) _ _ 9 10 g6 rfl rfl rfl rfl ⟨by decide, by decide, by rw [k6]; rfl⟩ ⟨by decide, by decide, by rw [k7, e]; rfl⟩
      have n68 : g6 ≠ g8 := fun e => hF ⟨6, .data⟩ (by simp) ⟨8, .data⟩ (by simp) rfl rfl (by decide) _ _ 9 11 g6 rfl rfl rfl rfl ⟨by decide, by decide, by rw [k6]; rfl⟩ ⟨by decide, by decide, by rw [k8, e]; rfl⟩
      have n78 : g7 ≠ g8 := fun e => hF ⟨7, .data⟩ (by simp) ⟨8, .data⟩ (by simp) rfl rfl (by decide) _ _ 10 11 g7 rfl rfl rfl rfl ⟨by decide, by decide, by rw [k7]; rfl⟩ ⟨by decide, by decide, by rw [k8, e]; rfl⟩
      clear hV hF
      refine wp_value (v := .agg (pCells s (v0 (fun f => [g1, g2, g3, g4, g5, g6, g7, g8].getD (f - 7) 0)))) (w' := w1) ?_ (hK _ w1 ⟨_, rfl, ?_, ?_⟩ (Turn.refl _ _) (fun x h => by have := h.2.1; omega))
      · simp only [execOp, Act.eval, List.map_toArray, List.map_cons, List.map_nil, k0, k1, k2, k3, k4, k5, k6, k7, k8]
        kernel_rfl
      · intro f h7 h14
        rcases (by omega : f = 7 ∨ f = 8 ∨ f = 9 ∨ f = 10 ∨ f = 11 ∨ f = 12 ∨ f = 13 ∨ f = 14) with rfl | rfl | rfl | rfl | rfl | rfl | rfl | rfl
        · exact r1
        · exact r2
        · exact r3
        · exact r4
        · exact r5
        · exact r6
        · exact r7
        · exact r8
      · intro f f' h7 h14 h7' h14' hne
        rcases (by omega : f = 7 ∨ f = 8 ∨ f = 9 ∨ f = 10 ∨ f = 11 ∨ f = 12 ∨ f = 13 ∨ f = 14) with rfl | rfl | rfl | rfl | rfl | rfl | rfl | rfl <;> rcases (by omega : f' = 7 ∨ f' = 8 ∨ f' = 9 ∨ f' = 10 ∨ f' = 11 ∨ f' = 12 ∨ f' = 13 ∨ f' = 14) with rfl | rfl | rfl | rfl | rfl | rfl | rfl | rfl <;> first
          | exact absurd rfl hne
          | exact n12
          | exact n12.symm
          | exact n13
          | exact n13.symm
          | exact n14
          | exact n14.symm
          | exact n15
          | exact n15.symm
          | exact n16
          | exact n16.symm
          | exact n17
          | exact n17.symm
          | exact n18
          | exact n18.symm
          | exact n23
          | exact n23.symm
          | exact n24
          | exact n24.symm
          | exact n25
          | exact n25.symm
          | exact n26
          | exact n26.symm
          | exact n27
          | exact n27.symm
          | exact n28
          | exact n28.symm
          | exact n34
          | exact n34.symm
          | exact n35
          | exact n35.symm
          | exact n36
          | exact n36.symm
          | exact n37
          | exact n37.symm
          | exact n38
          | exact n38.symm
          | exact n45
          | exact n45.symm
          | exact n46
          | exact n46.symm
          | exact n47
          | exact n47.symm
          | exact n48
          | exact n48.symm
          | exact n56
          | exact n56.symm
          | exact n57
          | exact n57.symm
          | exact n58
          | exact n58.symm
          | exact n67
          | exact n67.symm
          | exact n68
          | exact n68.symm
          | exact n78
          | exact n78.symm
    · obtain ⟨g, k9, hr⟩ : ∃ g, a.tmps.getD 12 undef = .agg (pCells s (v0 g)) ∧ Rows0 w1 w.heap.size g := hV ⟨9, .data⟩ (by simp) rfl _ 12 rfl rfl
      have T : Turn w1 (w1.alloc (.cells (pCells s (v0 g)) 33)) (fun _ => False) := (Turn.refl _ _).alloc _
      refine wp_value (v := .pointer (some ⟨w1.heap.size, 0, none⟩)) (w' := w1.alloc (.cells (pCells s (v0 g)) 33)) ?_ (hK _ _ ⟨w1.heap.size, g, rfl, hβ, alloc_blk _ _, hr.later T⟩ T (fun x h => by have := h.2.1; omega))
      simp only [execOp, Act.eval, k9]
      clear hV hF hT hK k9 hr
      kernel_rfl
    · obtain ⟨p, g, k10, h1, h2, h3⟩ : ∃ p g, a.tmps.getD 13 undef = .pointer (some ⟨p, 0, none⟩) ∧ w.heap.size ≤ p ∧ w1.heap[p]? = some (.cells (pCells s (v0 g)) 33 (0, 0)) ∧ Rows0 w1 w.heap.size g := hV ⟨10, .data⟩ (by simp) rfl _ 13 rfl rfl
      exact wp_value (by simp [execOp, Act.eval, k10]) (hK (.pointer (some ⟨p, 0, none⟩)) w1 ⟨p, g, rfl, h1, h2, h3⟩ (Turn.refl _ _) (fun x h => by have := h.2.1; omega))
  · intro a w1 hsz hdf hnd hV hdis hT
    obtain ⟨p, g, k11, h1, h2, h3⟩ : ∃ p g, a.tmps.getD 2 undef = .pointer (some ⟨p, 0, none⟩) ∧ w.heap.size ≤ p ∧ w1.heap[p]? = some (.cells (pCells s (v0 g)) 33 (0, 0)) ∧ Rows0 w1 w.heap.size g := hV 11 _ 2 rfl rfl
    rename_i K hK
    refine hK a w1 ?_
    refine wp_ret ?_
    refine bodyPost_ret (results_tmp rfl _ _ _) hdf ?_
    rw [k11]
    refine ⟨p, g, rfl, ⟨h1, h2, ?_, ?_⟩, hT⟩
    · intro f a b
      exact ⟨g f, 0, cp f, rfl, h3.1 f a b, by simp⟩
    · intro f f' a b a' b' hne
      simpa [v0, Value.ownBlock] using h3.2 f f' a b a' b' hne
end Go.Proofs.YtdljljnjijkbjaaFmt
