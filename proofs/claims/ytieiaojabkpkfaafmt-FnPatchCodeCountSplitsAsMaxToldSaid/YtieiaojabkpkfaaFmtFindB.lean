/- varNamePool.Find's contract. -/
import Derived.Test.YtieiaojabkpkfaaFmtPool
import Derived.Test.YtieiaojabkpkfaaFmtInts
namespace Go.Proofs.YtieiaojabkpkfaaFmt
open Go.RowKit
set_option linter.unusedVariables false


/-- the last place of s comes back (its index and the offset), or -1 -/
def Found (ss : List ByteArray) (off : Int) (s : ByteArray) (w : World) (e : Ending) (w' : World) : Prop :=
  (∃ q, w.drewN q = w') ∧
  ((∃ r : Nat, r < ss.length ∧ ss.getD r ByteArray.empty = s ∧ (∀ t, r < t → t < ss.length → ss.getD t ByteArray.empty ≠ s) ∧ e = .returned (.int .i64 (wrap64 (r + off)))) ∨
   ((∀ t, t < ss.length → ss.getD t ByteArray.empty ≠ s) ∧ e = .returned (.int .i64 (-1))))

set_option maxRecDepth 100000 in
theorem find_any (β P : Nat) (v : Value) (ss : List ByteArray) (off : Int) (s : ByteArray) (w : World) (h : Pool w β P v ss off) (hn : ss.length ≤ 1048576) :
    Calls Tryf.prog 66 #[.pointer (some ⟨P, 0, none⟩), .string s] w (Found ss off s w) := by
  obtain ⟨ao, cap, rfl⟩ := h.slice
  have S := h.strs
  have c0 := cell_of_blk h.blk 0 (.slice ao ss.length cap) rfl
  have c1 := cell_of_blk h.blk 1 (.int .i64 off) rfl
  go_enter Tryf.func66, Tryf.ntmps66
  go_wp2
  go_loopw [5] (fun i wr => ∃ k q : Nat, k ≤ ss.length ∧ i = .int .i64 ((k : Int) - 1) ∧ (∀ t, k ≤ t → t < ss.length → ss.getD t ByteArray.empty ≠ s) ∧ w.drewN q = wr) (fun i _ => (intOf i + 1).toNat)
  case atStart => exact ⟨ss.length, 0, Nat.le_refl _, rfl, (fun t h1 h2 => by omega), rfl⟩
  case round =>
    obtain ⟨k, q, hk, rfl, hne, rfl⟩ := hrel
    have HN := Lib.hid hne
    clear hne
    by_cases h0 : k = 0
    · subst h0
      clear S
      go_wp2
      go_ret
      exact ⟨⟨_, rfl⟩, .inr ⟨fun t ht => HN.out t (Nat.zero_le _) ht, rfl⟩⟩
    · obtain ⟨j, rfl⟩ : ∃ j, k = j + 1 := ⟨k - 1, by omega⟩
      obtain ⟨b, o, rfl, hc⟩ := S j (by omega)
      generalize hs : ss.getD j ByteArray.empty = x at hc
      have HS := Lib.hid hs
      clear hs S h0
      have ej : ((j + 1 : Nat) : Int) - 1 = (j : Int) := by omega
      rw [ej]
      clear ej
      have z1 : (0 : Int) ≤ (j : Int) := by omega
      have z2 : (j : Int) < (ss.length : Int) := by omega
      by_cases heq : x = s
      · subst heq
        go_wp2
        go_ret
        exact ⟨⟨_, rfl⟩, .inl ⟨j, by omega, HS.out, fun t h1 h2 => HN.out t (by omega) h2, rfl⟩⟩
      · have hb := bytes_ne heq
        have HB := Lib.hid heq
        clear heq
        go_wp2
        go_roundw
        case rel =>
          refine ⟨j, _, by omega, rfl, ?_, rfl⟩
          intro t h1 h2
          rcases Nat.eq_or_lt_of_le h1 with h | h
          · subst h; rw [HS.out]; exact HB.out
          · exact HN.out t h h2
        case measure => first | (simp [intOf]; done) | (simp [intOf]; omega)

def Listed (ss : List ByteArray) (off : Int) (k : Nat) (xs : List Value) : Prop := ∀ t, t < k → xs[t * 2]? = some (.int .i64 (wrap64 (t + off))) ∧ xs[t * 2 + 1]? = some (.string (ss.getD t ByteArray.empty))
end Go.Proofs.YtieiaojabkpkfaaFmt
