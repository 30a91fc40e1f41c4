/- Region 4 of FunctionProto.str (it draws its order): the second line is told and appended. Printed by wip/genStr.py. -/
import Derived.Test.YtdljljnjijkbjaaFmtSpf15
import Derived.Test.YtdljljnjijkbjaaFmtNewP15
namespace Go.Proofs.YtdljljnjijkbjaaFmt
open Go.RowKit Go.Kit Go.Extern.Stop Go.Stop Go.Extern
set_option linter.unusedVariables false

theorem run_call2 {P : Program} {w : World} {o : Oper} {a : Act} (f : FuncId) (x : Operand) (fmt : ByteArray) (ts : Array TypeId)
    (ho : o.op = .call { callee := .value (.func f), args := #[.const (.string fmt), x], argTypes := ts }) (u : Value) (hx : a.eval x = u) {v : Value} {w' : World} (hrun : (callFunc f #[.string fmt, u]).run P w = .ok (.value v) w') :
    (execOp a.eval o).run P w = .ok (.value v) w' := by
  unfold execOp
  simp only [ho, resolve, invoke, Sem.run_bind, List.map_toArray, List.map_cons, List.map_nil, hx]
  simp [Act.eval, Deferred.ofValue, hrun]

/-- the listing's lines so far -/
def bs (L : List (List UInt8)) : List Value := L.map fun l => .string ⟨l.toArray⟩
def Buf (w : World) (β : Nat) (v : Value) (L : List (List UInt8)) : Prop := w.ownsRow β 9 1 v L.length (bs L)

theorem Buf.later {w w' : World} {β : Nat} {v : Value} {L : List (List UInt8)} {G : Nat → Prop} (h : Buf w β v L) (t : Turn w w' G) (hG : ∀ k, v.ownBlock = some k → ¬ G k) : Buf w' β v L := t.ownsRow h hG
theorem Buf.shape {w : World} {β : Nat} {v : Value} {L : List (List UInt8)} (h : Buf w β v L) (hL : 0 < L.length) : ∃ g cap, v = .slice (some ⟨g, 0, none⟩) L.length cap ∧ β ≤ g ∧ g < w.heap.size := by
  obtain ⟨g, cap, rfl, hb⟩ := shape_of_owned h hL
  exact ⟨g, cap, rfl, hb, (World.ownsRow.lt h g rfl).2⟩

def loK (d : List UInt8) (ls : List ByteArray) (k : Nat) : List (List UInt8) := (List.range k).map fun j => loL d (ls.getD j ByteArray.empty).data.toList j
def uvK (d : List UInt8) (us : List ByteArray) (k : Nat) : List (List UInt8) := (List.range k).map fun j => uvL d (us.getD j ByteArray.empty).data.toList j
theorem loK_succ (d : List UInt8) (ls : List ByteArray) (k : Nat) : loK d ls (k + 1) = loK d ls k ++ [loL d (ls.getD k ByteArray.empty).data.toList k] := by
  simp [loK, List.range_succ]
theorem uvK_succ (d : List UInt8) (us : List ByteArray) (k : Nat) : uvK d us (k + 1) = uvK d us k ++ [uvL d (us.getD k ByteArray.empty).data.toList k] := by
  simp [uvK, List.range_succ]
theorem loK_length (d : List UInt8) (ls : List ByteArray) (k : Nat) : (loK d ls k).length = k := by simp [loK]
theorem uvK_length (d : List UInt8) (us : List ByteArray) (k : Nat) : (uvK d us k).length = k := by simp [uvK]

/-- an append of one line -/
theorem Buf.grow {w w1 : World} {β g n cap : Nat} {v' : Value} {L : List (List UInt8)} {x : List UInt8} {W : World} (h : Buf w β (.slice (some ⟨g, 0, none⟩) n cap) L) (hT : Turn w W (fun _ => False)) (hg : g < w.heap.size)
    (hown : w1.ownsRow β 9 1 v' (L.length + 1) (bs L ++ [.string ⟨x.toArray⟩])) (hgrow : W.grownBy w1 (Value.slice (some ⟨g, 0, none⟩) n cap).ownBlock) : Buf w1 β v' (L ++ [x]) ∧ Turn w w1 (fun k => k = g) := by
  refine ⟨?_, (hT.mono (G := fun k => k = g) (fun _ _ h => h.elim)).grown hgrow (fun k hk _ => by simpa [Value.ownBlock] using hk.symm)⟩
  unfold Buf
  simpa [bs] using hown

theorem join_flat (L : List (List UInt8)) : Lib.join L [] = L.flatten := by
  cases L with
  | nil => rfl
  | cons x r => rw [Lib.join_cons]; simp [Lib.joinTail]

theorem flat_length (M : Nat) : ∀ L : List (List UInt8), (∀ x ∈ L, x.length ≤ M) → L.flatten.length ≤ L.length * M
  | [], _ => by simp
  | x :: r, h => by
    have h1 := h x (by simp)
    have h2 := flat_length M r (fun y hy => h y (by simp [hy]))
    simp only [List.flatten_cons, List.length_append, List.length_cons, Nat.succ_mul]
    omega

theorem join_call (w : World) (β g cap : Nat) (L : List (List UInt8)) (h : Buf w β (.slice (some ⟨g, 0, none⟩) L.length cap) L) (hb : ∀ x ∈ L, x.length ≤ 1200000) (hn : L.length ≤ 8210) :
    Calls Tryf.prog 27 #[.slice (some ⟨g, 0, none⟩) L.length cap, .string ⟨#[]⟩] w fun e w' => e = .returned (.string ⟨L.flatten.toArray⟩) ∧ Turn w w' (fun _ => False) := by
  have hgl := (World.ownsRow.lt h g rfl).2
  have hlc : L.length ≤ cap := by
    obtain ⟨_, ⟨h1, _⟩ | ⟨g', cap', cur, h1, _, _, hle, _⟩⟩ := h
    · cases h1
    · simp only [Value.slice.injEq] at h1
      omega
  have hf := flat_length 1200000 L hb
  have e1 : (L.map fun l => (⟨l.toArray⟩ : ByteArray)).map (fun x => x.data.toList) = L := by simp [List.map_map, Function.comp_def]
  have hj := Tryf.strings_Join g 0 cap (L.map fun l => ⟨l.toArray⟩) ⟨#[]⟩ w ?_ hgl (by simp; omega) (by simpa using hlc) ?_
  · simp only [List.length_map] at hj
    refine hj.mono ?_
    rintro e w' ⟨rfl, hb⟩
    refine ⟨?_, ⟨hb.os, hb.tape, hb.output, hb.size, fun k hk _ => hb.block k hk⟩⟩
    rw [e1, join_flat]
  · intro j x hx
    have hc := World.ownsRow.cells h (g := g) rfl j (.string x) (by
      simp only [bs, List.getElem?_map] at hx ⊢
      cases hl : L[j]? with
      | none => rw [hl] at hx; cases hx
      | some l => rw [hl] at hx; simp only [Option.map_some, Option.some.injEq] at hx ⊢; rw [← hx])
    have hadd : (⟨g, 0, none⟩ : Addr).add j = ⟨g, 0 + j, none⟩ := by unfold Addr.add; split <;> simp_all
    rwa [hadd] at hc
  · rw [e1, show (ByteArray.mk #[]).data.toList = [] from rfl, join_flat]
    omega

def listing (d : List UInt8) (c l nu np nr : Int) (ls us : List ByteArray) : List (List UInt8) := [hdL d c l, upL d nu np nr] ++ loK d ls ls.length ++ uvK d us us.length ++ [[10]] ++ [enL d]
theorem listing_length (d : List UInt8) (c l nu np nr : Int) (ls us : List ByteArray) : (listing d c l nu np nr ls us).length = ls.length + us.length + 4 := by
  simp [listing, loK_length, uvK_length]; omega
theorem listing_each (d : List UInt8) (c l nu np nr : Int) (ls us : List ByteArray) (hd : d.length ≤ 8192) (hc : -9223372036854775808 ≤ c ∧ c ≤ 9223372036854775807) (hl : 0 ≤ l ∧ l ≤ 4096) (bnu : 0 ≤ nu ∧ nu ≤ 255) (bnp : 0 ≤ np ∧ np ≤ 255) (bnr : 0 ≤ nr ∧ nr ≤ 255)
    (bls : ls.length ≤ 4096 ∧ ∀ s ∈ ls, s.size ≤ 1048576) (bus : us.length ≤ 4096 ∧ ∀ s ∈ us, s.size ≤ 1048576) : ∀ x ∈ listing d c l nu np nr ls us, x.length ≤ 1200000 := by
  intro x hx
  simp only [listing, List.mem_append, List.mem_cons, List.not_mem_nil, or_false] at hx
  have q1 := len_itoa c hc.1 hc.2
  have q2 := len_itoa l (by omega) (by omega)
  have q3 := len_itoa nu (by omega) (by omega)
  have q4 := len_itoa np (by omega) (by omega)
  have q5 := len_itoa nr (by omega) (by omega)
  rcases hx with ((((rfl | rfl) | hx) | hx) | rfl) | rfl
  · simp [hdL]; omega
  · simp [upL]; omega
  · simp only [loK, List.mem_map, List.mem_range] at hx
    obtain ⟨j, hj, rfl⟩ := hx
    have q6 := len_itoa (j : Int) (by omega) (by omega)
    have q7 := bls.2 (ls.getD j ByteArray.empty) (by simp [List.getD, hj])
    have q8 : (ls.getD j ByteArray.empty).data.toList.length ≤ 1048576 := by simpa using q7
    generalize (ls.getD j ByteArray.empty).data.toList = S at q8
    simp [loL]; omega
  · simp only [uvK, List.mem_map, List.mem_range] at hx
    obtain ⟨j, hj, rfl⟩ := hx
    have q6 := len_itoa (j : Int) (by omega) (by omega)
    have q7 := bus.2 (us.getD j ByteArray.empty) (by simp [List.getD, hj])
    have q8 : (us.getD j ByteArray.empty).data.toList.length ≤ 1048576 := by simpa using q7
    generalize (us.getD j ByteArray.empty).data.toList = S at q8
    simp [uvL]; omega
  · simp
  · simp [enL]; omega

theorem tmps_of (a : Array Value) : ∀ (L : List Nat) (a0 : Array Value), a.size = a0.size → (∀ t, t ∉ L → a.getD t undef = a0.getD t undef) → a = L.foldl (fun acc t => acc.setIfInBounds t (a.getD t undef)) a0
  | [], a0, hs, h => by
    refine Array.ext hs fun i h1 h2 => ?_
    simp only [List.foldl_nil] at h2 ⊢
    have := h i (by simp)
    rw [Array.getD_eq_getD_getElem?, Array.getD_eq_getD_getElem?, Array.getElem?_eq_getElem h1, Array.getElem?_eq_getElem h2] at this
    exact this
  | t :: L, a0, hs, h => by
    rw [List.foldl_cons]
    refine tmps_of a L _ (by simpa using hs) fun k hk => ?_
    by_cases e : k = t
    · subst e
      rw [Array.getD_eq_getD_getElem? (xs := a0.setIfInBounds _ _)]
      by_cases hlt : k < a0.size
      · rw [Array.getElem?_setIfInBounds_self_of_lt hlt]; rfl
      · rw [Array.getElem?_eq_none (by simpa using hlt), Array.getD_eq_getD_getElem?, Array.getElem?_eq_none (by omega)]
    · rw [h k (by simp [e, hk]), Array.getD_eq_getD_getElem?, Array.getD_eq_getD_getElem?, Array.getElem?_setIfInBounds_ne (Ne.symm e)]

theorem nondst_of {ops : Array Oper} (L : List Nat) (h : ops.all (fun o => match o.dst with | some d => L.contains d | none => true) = true) (t : Tmp) (ht : t ∉ L) : ∀ (j : Nat) oj, ops[j]? = some oj → oj.dst ≠ some t := by
  intro j oj hj e
  have h1 := Array.all_eq_true_iff_forall_mem.1 h oj (Array.mem_of_getElem? hj)
  rw [e] at h1
  exact ht (by simpa using h1)

def UpSlot (d : List UInt8) (p g cap : Nat) (L : List (List UInt8)) (nu np nr : Int) (β B : Nat) (j : Nat) (v : Value) (w : World) : Prop :=
  match j with
  | 0 => v = .slice (some ⟨g, 0, none⟩) L.length cap
  | 1 => v = .string ⟨d.toArray⟩
  | 2 => v = .iface 9 (.string ⟨d.toArray⟩)
  | 5 => v = .pointer (some ⟨p, 3, none⟩)
  | 6 => v = .int .u8 nu
  | 7 => v = .iface 5 (.int .u8 nu)
  | 10 => v = .pointer (some ⟨p, 4, none⟩)
  | 11 => v = .int .u8 np
  | 12 => v = .iface 5 (.int .u8 np)
  | 15 => v = .pointer (some ⟨p, 6, none⟩)
  | 16 => v = .int .u8 nr
  | 17 => v = .iface 5 (.int .u8 nr)
  | 18 => ∃ t, v = .slice (some ⟨t, 0, none⟩) 4 4 ∧ t ≠ g ∧ w.heap[t]? = some (.cells #[.iface 9 (.string ⟨d.toArray⟩), .iface 5 (.int .u8 nu), .iface 5 (.int .u8 np), .iface 5 (.int .u8 nr)] 20 (0, 0))
  | 19 => v = (.string ⟨(upL d nu np nr).toArray⟩)
  | 20 => ∃ t, v = .slice (some ⟨t, 0, none⟩) 1 1 ∧ t ≠ g ∧ w.heap[t]? = some (.cells #[(.string ⟨(upL d nu np nr).toArray⟩)] 9 (0, 0))
  | 21 => ∃ q c, v = .slice (some ⟨q, 0, none⟩) (L.length + 1) c ∧ Buf w β (.slice (some ⟨q, 0, none⟩) (L.length + 1) c) (L ++ [upL d nu np nr])
  | _ => v = .pointer (some ⟨p, 0, none⟩)

theorem UpSlot.later {d : List UInt8} {p g cap β B j : Nat} {L : List (List UInt8)} {nu np nr : Int} {v : Value} {w w' : World} (h : UpSlot d p g cap L nu np nr β B j v w) (t : Turn w w' (fun k => k = g)) (t0 : j = 21 → Turn w w' (fun _ => False)) : UpSlot d p g cap L nu np nr β B j v w' := by
  unfold UpSlot at *
  split at h
  all_goals first
    | exact h
    | (obtain ⟨c, h1, h2, h3⟩ := h; exact ⟨c, h1, h2, t.heap h3 h2⟩)
    | (obtain ⟨q, c, h1, h2⟩ := h; exact ⟨q, c, h1, Buf.later h2 (t0 rfl) (fun _ _ => id)⟩)

end Go.Proofs.YtdljljnjijkbjaaFmt
