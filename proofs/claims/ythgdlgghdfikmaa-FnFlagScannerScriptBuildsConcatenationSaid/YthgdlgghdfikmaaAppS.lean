/- append of a string's bytes to an owned slice of bytes: the law of the library with one fact more: where the new slice lies. Over any program. -/
import Derived.Test.YthgdlgghdfikmaaMem
import Derived.Lib.AppendStr
namespace Go.Proofs.Ythgdlgghdfikmaa
open Go.RowKit Go.Lib
set_option linter.unusedVariables false

theorem run_append_string_at {P : Program} (w : World) (base : Nat) (t u ty e : TypeId) (i : TypeInfo) (ht : P.underlying t = some (.slice e)) (hu : P.underlying u = some .string) (hi : P.info? e = some i) (hz : i.zero = some (.int .u8 0))
    (hsize : i.size = 1) (hby : i.bytes = 1) (g cap n : Nat) (xs : List Value) (hown : w.ownsRow base e 1 (.slice (some ⟨g, 0, none⟩) n cap) n xs) (s : ByteArray)
    (h63 : n + s.size ≤ maxLen) (hbytes : n + s.size ≤ 140737488355328) (hbase : base ≤ w.heap.size) :
    ∃ g' cap' w', (Builtin.append_ #[t, u] ty #[.slice (some ⟨g, 0, none⟩) n cap, .string s]).run P w = .ok (.slice (some ⟨g', 0, none⟩) (n + s.size) cap') w' ∧
      w'.ownsRow base e 1 (.slice (some ⟨g', 0, none⟩) (n + s.size) cap') (n + s.size) (xs ++ strCells s) ∧ w.grownBy w' (some g) ∧ (g' = g ∨ g' = w.heap.size) := by
  obtain ⟨v', w', hr, h1, h2, h3⟩ := run_append_own_string (P := P) w base t u ty e i ht hu hi hz hsize hby _ n xs hown s h63 hbytes hbase
  by_cases hroom : n + s.size ≤ cap
  · obtain ⟨hl, ⟨he, _⟩ | ⟨g0, cap0, cur, he, hb, hg, hn, hm, hcs, htk⟩⟩ := hown
    · cases he
    · obtain ⟨rfl, rfl⟩ : g = g0 ∧ cap = cap0 := by simpa using he
      have hr2 := run_append_room_string (P := P) w t u ty e i ht hu hi hsize g n cap cur hg s hroom (by omega)
      rw [hr] at hr2
      have e1 : v' = .slice (some ⟨g, 0, none⟩) (n + s.size) cap := by injection hr2
      subst e1
      exact ⟨g, cap, w', hr, h1, h2, .inl rfl⟩
  · have hlo : xs.length = n * i.size := by rw [hsize]; exact hown.1
    have hnx := nextslicecap_le (need := n + s.size) (old := cap) (by omega)
    have hr2 := run_append_grow_string (P := P) w t u ty e i (.int .u8 0) ht hu hi hz ⟨g, 0, none⟩ n cap xs hlo (hown.cells rfl) s (by omega) (by unfold maxLen at h63; omega) (by rw [hby]; omega)
    rw [hr] at hr2
    have e1 : v' = .slice (some ⟨w.heap.size, 0, none⟩) (n + s.size) (grownCap w (n + s.size) cap e) := by injection hr2
    subst e1
    exact ⟨w.heap.size, _, w', hr, h1, h2, .inr rfl⟩

theorem wpList_append_string_at {P : Program} (w : World) {ops : Array Oper} {rest : List Oper} {o : Oper} {a : Act} {Q : Exit → Act → World → Prop} (hgd : o.guard = none) (sl x : Operand) (t u : TypeId)
    (ho : o.op = .call { callee := .builtin .append, args := #[sl, x], argTypes := #[t, u] })
    (base : Nat) (e : TypeId) (i : TypeInfo) (ht : P.underlying t = some (.slice e)) (hu : P.underlying u = some .string) (hi : P.info? e = some i) (hz : i.zero = some (.int .u8 0))
    (hsize : i.size = 1) (hby : i.bytes = 1) (g cap n : Nat) (xs : List Value) (hs : a.eval sl = .slice (some ⟨g, 0, none⟩) n cap) (hown : w.ownsRow base e 1 (.slice (some ⟨g, 0, none⟩) n cap) n xs) (s : ByteArray) (hx : a.eval x = .string s)
    (h63 : n + s.size ≤ maxLen) (hbytes : n + s.size ≤ 140737488355328) (hbase : base ≤ w.heap.size)
    (h : ∀ g' cap' w', w'.ownsRow base e 1 (.slice (some ⟨g', 0, none⟩) (n + s.size) cap') (n + s.size) (xs ++ strCells s) → w.grownBy w' (some g) → (g' = g ∨ g' = w.heap.size) →
      wpList P ops Q rest (a.put o.dst (.slice (some ⟨g', 0, none⟩) (n + s.size) cap')) w') : wpList P ops Q (o :: rest) a w := by
  refine wpList_plain hgd fun K hK' => ?_
  obtain ⟨g', cap', w', hrun, r1, r2, r3⟩ := run_append_string_at (P := P) w base t u o.type e i ht hu hi hz hsize hby g cap n xs hown s h63 hbytes hbase
  unfold Oper.wp
  simp [execOp, ho, resolve, invoke, builtin, hs, hx, hrun, Result.andThen]
  exact hK' _ _ (h g' cap' w' r1 r2 r3)
end Go.Proofs.Ythgdlgghdfikmaa
