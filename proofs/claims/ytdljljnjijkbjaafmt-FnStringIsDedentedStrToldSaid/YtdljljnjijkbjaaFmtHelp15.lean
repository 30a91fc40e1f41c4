/- The contracts of the laws' own helpers: zzBytes, zzPrefix, zzHasNL, zzAnyNL, zzIndent. -/
import Derived.Test.YtdljljnjijkbjaaFmtCalls15
import Derived.Deep.QuietTactic
import Derived.BigQuiet
namespace Go.Proofs.YtdljljnjijkbjaaFmt
open Go.RowKit Go.Kit Go.Extern.Stop Go.Stop Go.Extern
set_option linter.unusedVariables false

/-- a bool comes back; where it is false P is known; the world stands -/
def SomeBoolF (P : Prop) (w : World) (e : Ending) (w' : World) : Prop := ∃ b : Bool, e = .returned (.bool b) ∧ (b = false → P) ∧ w = w'

theorem all_bytes {s : ByteArray} {P : UInt8 → Prop} (h : ∀ j, (h2 : j < s.size) → P s[j]) : ∀ x ∈ s.data.toList, P x := by
  intro x hx
  obtain ⟨j, hj, rfl⟩ := List.getElem_of_mem hx
  rw [Array.getElem_toList]
  exact h j (by simpa using hj)
def NoNL (s : ByteArray) : Prop := ∀ x ∈ s.data.toList, x ≠ 10
def NoNLs (L : List ByteArray) : Prop := ∀ s ∈ L, NoNL s
theorem byte_ten {b : UInt8} (h : ((b.toNat : Int) == 10) = false) : b ≠ 10 := by
  rintro rfl
  simp at h

set_option maxRecDepth 100000 in
set_option maxHeartbeats 1000000 in
theorem zzHasNL_any (s : ByteArray) (w : World) (hs : s.size ≤ 16777216) :
    Calls Tryf.prog 22 #[.string s] w (SomeBoolF (NoNL s) w) := by
  go_enter Tryf.func22, Tryf.ntmps22
  go_wp2
  go_loop [3] (fun i => ∃ k : Nat, k ≤ s.size ∧ i = .int .i64 k ∧ ∀ j, (h : j < k) → (h2 : j < s.size) → s[j] ≠ 10) (fun i => s.size - (intOf i).toNat)
  case atStart => exact ⟨0, Nat.zero_le _, rfl, fun j h => absurd h (by omega)⟩
  case round =>
    obtain ⟨k, hk, rfl, hno⟩ := hrel
    have HN := Lib.hid hno
    clear hno
    by_cases hkl : k < s.size
    · go_wp2
      · go_ret
        exact ⟨true, rfl, fun h => (by cases h), rfl⟩
      · have hb : ((s[k].toNat : Int) == 10) = false := by assumption
        go_round
        case rel =>
          refine ⟨k + 1, by omega, by go_num, fun j h h2 => ?_⟩
          rcases Nat.lt_succ_iff_lt_or_eq.1 h with h | h
          · exact HN.out j h h2
          · subst h; exact byte_ten hb
        case measure => simp [intOf]; omega
    · go_wp2
      go_ret
      exact ⟨false, rfl, fun _ => all_bytes fun j h2 => HN.out j (by omega) h2, rfl⟩

set_option maxRecDepth 100000 in
set_option maxHeartbeats 1000000 in
theorem zzAnyNL_any (a : Option Addr) (c : Nat) (L : List ByteArray) (w : World) (S : Strs w a L) (hL : L.length ≤ 4096) (hz : ∀ s ∈ L, s.size ≤ 16777216) :
    Calls Tryf.prog 18 #[.slice a L.length c] w (SomeBoolF (NoNLs L) w) := by
  go_enter Tryf.func18, Tryf.ntmps18
  go_wp2
  go_loop [3] (fun i => ∃ k : Nat, k ≤ L.length ∧ i = .int .i64 k ∧ NoNLs (L.take k)) (fun i => L.length - (intOf i).toNat)
  case atStart => exact ⟨0, Nat.zero_le _, rfl, fun s h => absurd h (by simp)⟩
  case round =>
    obtain ⟨k, hk, rfl, hno⟩ := hrel
    have HN := Lib.hid hno
    clear hno
    by_cases hkl : k < L.length
    · obtain ⟨b, off, rfl, hc⟩ := S k hkl
      obtain ⟨s, hs⟩ : ∃ s, s = L.getD k ByteArray.empty := ⟨_, rfl⟩
      rw [← hs] at hc
      have hsL : s ∈ L := by rw [hs]; simp [List.getD, hkl]
      have hsz := hz s hsL
      have hnx : L.take (k + 1) = L.take k ++ [s] := by rw [List.take_succ_eq_append_getElem hkl, hs]; simp [List.getD, hkl]
      have HX := Lib.hid hnx
      clear hnx hs S
      go_wp2_with fail
      refine (zzHasNL_any s _ hsz).mono ?_
      rintro e w' ⟨bb, rfl, hbb, rfl⟩
      cases bb with
      | true =>
        go_wp2
        go_ret
        exact ⟨true, rfl, fun h => (by cases h), rfl⟩
      | false =>
        have HB := Lib.hid (hbb rfl)
        clear hbb
        go_wp2
        go_round
        case rel =>
          refine ⟨k + 1, by omega, by go_num, ?_⟩
          rw [HX.out]
          intro s' h'
          rcases List.mem_append.1 h' with h' | h'
          · exact HN.out s' h'
          · obtain rfl : s' = s := by simpa using h'
            exact HB.out
        case measure => simp [intOf]; omega
    · go_wp2
      go_ret
      have he : k = L.length := by omega
      subst he
      exact ⟨false, rfl, fun _ => by have := HN.out; rwa [List.take_length] at this, rfl⟩
end Go.Proofs.YtdljljnjijkbjaaFmt
