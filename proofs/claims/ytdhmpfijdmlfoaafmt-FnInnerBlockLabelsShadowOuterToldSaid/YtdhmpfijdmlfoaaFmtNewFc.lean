/- newFunctionProto, newFuncContext: their contracts. -/
import Derived.Test.YtdhmpfijdmlfoaaFmtPool
import Derived.Test.YtdhmpfijdmlfoaaFmtCode
import Derived.Test.YtdhmpfijdmlfoaaFmtDrawn
namespace Go.Proofs.YtdhmpfijdmlfoaaFmt
open Go.RowKit
set_option linter.unusedVariables false

/-- a make of an empty slice with room for 'cap', at a drawn region's step -/
theorem make_step (t e : TypeId) (z : Value) (size bytes cap : Nat) (h1 : Tryf.prog.underlying t = some (.slice e)) (hinfo : (Tryf.prog.info? e).map (fun i => (i.zero, i.size, i.bytes)) = some (some z, size, bytes)) (o : Oper) (hop : o.op = .makeSlice t (.const (.int .i64 0)) (.const (.int .i64 cap)))
    (b2 : bytes * cap ≤ 281474976710656) (b3 : cap ≤ maxLen) (β : Nat) (a : Act) (w : World) (hβ : β ≤ w.heap.size) :
    ∃ v w', (execOp a.eval o).run Tryf.prog w = .ok (.value v) w' ∧ (∃ g, v = .slice (some ⟨g, 0, none⟩) 0 cap ∧ w'.ownsRow β e size v 0 []) ∧ Turn w w' (fun _ => False) := by
  obtain ⟨i, hi, hz0, hz1, hz2⟩ := info_parts hinfo
  obtain ⟨w', hrun, r1, r2⟩ := run_make_own (P := Tryf.prog) w β t e i z size h1 hi hz0 hz1 .i64 .i64 cap (by rw [hz2]; exact b2) b3 hβ
  refine ⟨_, w', ?_, ⟨w.heap.size, rfl, r1⟩, (Turn.refl w _).grown r2 (fun _ h => by cases h)⟩
  simp [execOp, hop, Act.eval, hrun, Result.andThen]

theorem infoLV : (Tryf.prog.info? 119).map (fun i => (i.zero, i.size, i.bytes)) = some (some .nilIface, 1, 16) := by kernel_rfl
theorem infoPFP : (Tryf.prog.info? 32).map (fun i => (i.zero, i.size, i.bytes)) = some (some (.pointer none), 1, 8) := by kernel_rfl
theorem infoPDL : (Tryf.prog.info? 115).map (fun i => (i.zero, i.size, i.bytes)) = some (some (.pointer none), 1, 8) := by kernel_rfl
theorem infoDC : (Tryf.prog.info? 149).map (fun i => (i.zero, i.size, i.bytes)) = some (some (.agg #[.string ByteArray.empty, .int .i64 0]), 2, 24) := by kernel_rfl

/-- the cells of a new prototype: eight rows at blocks of their own -/
def protoCells (s : ByteArray) (g : Nat → Nat) : Array Value :=
  #[.string s, .int .i64 0, .int .i64 0, .int .u8 0, .int .u8 0, .int .u8 0, .int .u8 2, .slice (some ⟨g 1, 0, none⟩) 0 128, .slice (some ⟨g 2, 0, none⟩) 0 32, .slice (some ⟨g 3, 0, none⟩) 0 16,
    .slice (some ⟨g 4, 0, none⟩) 0 128, .slice (some ⟨g 5, 0, none⟩) 0 16, .slice (some ⟨g 6, 0, none⟩) 0 128, .slice (some ⟨g 7, 0, none⟩) 0 16, .slice (some ⟨g 8, 0, none⟩) 0 32]

theorem nondst {ops : Array Oper} {t : Tmp} (h : ops.all (fun o => o.dst != some t) = true) : ∀ (j : Nat) oj, ops[j]? = some oj → oj.dst ≠ some t := by
  intro j oj hj
  have h1 := Array.all_eq_true_iff_forall_mem.1 h oj (Array.mem_of_getElem? hj)
  simpa using h1

def MadeRow (β e size cap : Nat) (v : Value) (w : World) : Prop := ∃ g, v = .slice (some ⟨g, 0, none⟩) 0 cap ∧ w.ownsRow β e size v 0 []

/-- what each operation of newFunctionProto's region leaves in its slot -/
def ProtoSlot (s : ByteArray) (β : Nat) (j : Nat) (v : Value) (w : World) : Prop :=
  match j with
  | 0 => v = .string s
  | 1 => MadeRow β 31 1 128 v w
  | 2 => MadeRow β 119 1 32 v w
  | 3 => MadeRow β 32 1 16 v w
  | 4 => MadeRow β 3 1 128 v w
  | 5 => MadeRow β 115 1 16 v w
  | 6 => MadeRow β 149 2 128 v w
  | 7 => MadeRow β 9 1 16 v w
  | 8 => MadeRow β 9 1 32 v w
  | 9 => ∃ g, v = .agg (protoCells s g)
  | _ => ∃ p g, v = .pointer (some ⟨p, 0, none⟩) ∧ β ≤ p ∧ w.heap[p]? = some (.cells (protoCells s g) 97 (0, 0))

theorem MadeRow.later {β e size cap : Nat} {v : Value} {w w' : World} (h : MadeRow β e size cap v w) (t : Turn w w' (fun _ => False)) : MadeRow β e size cap v w' := by
  obtain ⟨g, rfl, h⟩ := h
  exact ⟨g, rfl, t.ownsRow h (fun _ _ => id)⟩

theorem ProtoSlot.later {s : ByteArray} {β j : Nat} {v : Value} {w w' : World} (h : ProtoSlot s β j v w) (t : Turn w w' (fun _ => False)) : ProtoSlot s β j v w' := by
  unfold ProtoSlot at *
  split at h
  all_goals first
    | exact h
    | exact h.later t
    | (obtain ⟨p, g, h1, h2, h3⟩ := h; exact ⟨p, g, h1, h2, t.heap h3 id⟩)

def Fresh (s : ByteArray) (w : World) (e : Ending) (w' : World) : Prop := ∃ p g, e = .returned (.pointer (some ⟨p, 0, none⟩)) ∧ w.heap.size ≤ p ∧ w'.heap[p]? = some (.cells (protoCells s g) 97 (0, 0)) ∧ Turn w w' (fun _ => False)

set_option maxRecDepth 100000 in
theorem newProto_any (s : ByteArray) (w : World) :
    Calls Tryf.prog 48 #[.string s] w (Fresh s w) := by
  go_enter Tryf.func48, Tryf.ntmps48
  go_wp2_with fail
  refine wp_region_allocs (by kernel_rfl) (ProtoSlot s w.heap.size) (by kernel_rfl) (by kernel_rfl) (fun j v w1 w2 h t => h.later t) ?_ ?_
  · intro i o ho a w1 hT hnd hV
    have hi := lt_of_get ho
    simp at hi
    have hβ := hT.size
    rcases (by omega : i = 0 ∨ i = 1 ∨ i = 2 ∨ i = 3 ∨ i = 4 ∨ i = 5 ∨ i = 6 ∨ i = 7 ∨ i = 8 ∨ i = 9 ∨ i = 10 ∨ i = 11) with rfl | rfl | rfl | rfl | rfl | rfl | rfl | rfl | rfl | rfl | rfl | rfl
    all_goals (simp at ho; subst ho)
    · have h0 := hnd 0 (nondst (by kernel_rfl))
      refine ⟨.string s, w1, ?_, rfl, Turn.refl _ _⟩
      simp [execOp, Act.eval, h0]
    · exact make_step 22 31 (.int .u32 0) 1 4 128 Tryf.underlying22 infoU32 _ (by rfl) (by omega) (by unfold maxLen; omega) w.heap.size a w1 hβ
    · exact make_step 92 119 .nilIface 1 16 32 Tryf.underlying92 infoLV _ (by rfl) (by omega) (by unfold maxLen; omega) w.heap.size a w1 hβ
    · exact make_step 93 32 (.pointer none) 1 8 16 Tryf.underlying93 infoPFP _ (by rfl) (by omega) (by unfold maxLen; omega) w.heap.size a w1 hβ
    · exact make_step 44 3 (.int .i64 0) 1 8 128 Tryf.underlying44 infoInt _ (by rfl) (by omega) (by unfold maxLen; omega) w.heap.size a w1 hβ
    · exact make_step 94 115 (.pointer none) 1 8 16 Tryf.underlying94 infoPDL _ (by rfl) (by omega) (by unfold maxLen; omega) w.heap.size a w1 hβ
    · exact make_step 95 149 (.agg #[.string ByteArray.empty, .int .i64 0]) 2 24 128 Tryf.underlying95 infoDC _ (by rfl) (by omega) (by unfold maxLen; omega) w.heap.size a w1 hβ
    · exact make_step 43 9 (.string ByteArray.empty) 1 16 16 Tryf.underlying43 infoString _ (by rfl) (by omega) (by unfold maxLen; omega) w.heap.size a w1 hβ
    · exact make_step 43 9 (.string ByteArray.empty) 1 16 32 Tryf.underlying43 infoString _ (by rfl) (by omega) (by unfold maxLen; omega) w.heap.size a w1 hβ
    · have k0 : a.tmps.getD 3 undef = .string s := hV ⟨0, .data⟩ (by simp) rfl _ 3 rfl rfl
      obtain ⟨g1, k1, _⟩ : MadeRow _ _ _ 128 (a.tmps.getD 4 undef) w1 := hV ⟨1, .data⟩ (by simp) rfl _ 4 rfl rfl
      obtain ⟨g2, k2, _⟩ : MadeRow _ _ _ 32 (a.tmps.getD 5 undef) w1 := hV ⟨2, .data⟩ (by simp) rfl _ 5 rfl rfl
      obtain ⟨g3, k3, _⟩ : MadeRow _ _ _ 16 (a.tmps.getD 6 undef) w1 := hV ⟨3, .data⟩ (by simp) rfl _ 6 rfl rfl
      obtain ⟨g4, k4, _⟩ : MadeRow _ _ _ 128 (a.tmps.getD 7 undef) w1 := hV ⟨4, .data⟩ (by simp) rfl _ 7 rfl rfl
      obtain ⟨g5, k5, _⟩ : MadeRow _ _ _ 16 (a.tmps.getD 8 undef) w1 := hV ⟨5, .data⟩ (by simp) rfl _ 8 rfl rfl
      obtain ⟨g6, k6, _⟩ : MadeRow _ _ _ 128 (a.tmps.getD 9 undef) w1 := hV ⟨6, .data⟩ (by simp) rfl _ 9 rfl rfl
      obtain ⟨g7, k7, _⟩ : MadeRow _ _ _ 16 (a.tmps.getD 10 undef) w1 := hV ⟨7, .data⟩ (by simp) rfl _ 10 rfl rfl
      obtain ⟨g8, k8, _⟩ : MadeRow _ _ _ 32 (a.tmps.getD 11 undef) w1 := hV ⟨8, .data⟩ (by simp) rfl _ 11 rfl rfl
      refine ⟨.agg (protoCells s (fun j => [0, g1, g2, g3, g4, g5, g6, g7, g8].getD j 0)), w1, ?_, ⟨_, rfl⟩, Turn.refl _ _⟩
      simp only [execOp, Act.eval, List.map_toArray, List.map_cons, List.map_nil, k0, k1, k2, k3, k4, k5, k6, k7, k8]
      clear hnd hV hi hT hβ k0 k1 k2 k3 k4 k5 k6 k7 k8
      first | kernel_rfl | (unfold protoCells; simp [go_sem]; trace_state; done)
    · obtain ⟨g, k9⟩ : ∃ g, a.tmps.getD 12 undef = .agg (protoCells s g) := hV ⟨9, .data⟩ (by simp) rfl _ 12 rfl rfl
      refine ⟨.pointer (some ⟨w1.heap.size, 0, none⟩), w1.alloc (.cells (protoCells s g) 97), ?_, ⟨_, g, rfl, hβ, alloc_blk _ _⟩, (Turn.refl _ _).alloc _⟩
      simp only [execOp, Act.eval, k9]
      clear hnd hV hi hT hβ k9
      first | kernel_rfl | (unfold protoCells; simp [go_sem]; trace_state; done)
    · obtain ⟨p, g, k10, h1, h2⟩ : ∃ p g, a.tmps.getD 13 undef = .pointer (some ⟨p, 0, none⟩) ∧ w.heap.size ≤ p ∧ w1.heap[p]? = some (.cells (protoCells s g) 97 (0, 0)) := hV ⟨10, .data⟩ (by simp) rfl _ 13 rfl rfl
      refine ⟨.pointer (some ⟨p, 0, none⟩), w1, ?_, ⟨p, g, rfl, h1, h2⟩, Turn.refl _ _⟩
      simp [execOp, Act.eval, k10]
  · intro a w1 hsz hdf hnd hV hT
    obtain ⟨p, g, k11, h1, h2⟩ : ∃ p g, a.tmps.getD 2 undef = .pointer (some ⟨p, 0, none⟩) ∧ w.heap.size ≤ p ∧ w1.heap[p]? = some (.cells (protoCells s g) 97 (0, 0)) := hV 11 _ 2 rfl rfl
    rename_i K hK
    refine hK a w1 ?_
    refine wp_ret ?_
    refine bodyPost_ret (results_tmp rfl _ _ _) hdf ?_
    rw [k11]
    exact ⟨p, g, rfl, h1, h2, hT⟩
end Go.Proofs.YtdhmpfijdmlfoaaFmt
