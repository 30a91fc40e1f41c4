/- The contracts of the generated guards 'zzBytes_..': a bool comes back; where it is true the lengths sum to at most 2^20. -/
import Derived.Test.YtkbbombebfjggaaFmtRows
import Derived.Test.YtkbbombebfjggaaFmtMem
import Derived.WalkKit
import Derived.ProofKit
import Derived.WalkLawsBesides
import Derived.WalkSpells
import Derived.Handy
import Derived.Lib.Hide
namespace Go.Proofs.YtkbbombebfjggaaFmt
open Go.RowKit
set_option linter.unusedVariables false


set_option maxRecDepth 100000 in
set_option maxHeartbeats 1000000 in
theorem zzB_FnFrameFuncNameGoCallee (x0 : Bool) (x1 : Bool) (x2 : Bool) (x3 : Int) (a4 : Option Addr) (n4 c4 : Nat) (a5 : Option Addr) (c5 : Nat) (L5 : List ByteArray) (x6 : Int) (w : World) (m4 : n4 ≤ maxLen) (S5 : Strs w a5 L5) (m5 : L5.length ≤ maxLen) (z5 : ∀ s ∈ L5, s.size ≤ maxLen) :
    Calls Tryf.prog 9 #[.bool x0, .bool x1, .bool x2, .int .i64 x3, .slice a4 n4 c4, .slice a5 L5.length c5, .int .i64 x6] w (SomeBool (n4 + (L5.length + sumSizes L5) ≤ 1048576) w) := by
  unfold maxLen at m4
  unfold maxLen at m5
  have b9 : True := trivial
  go_enter Tryf.func9, Tryf.ntmps9
  go_wp2
  all_goals first
    | (go_ret; exact ⟨false, rfl, (fun h => absurd h (by simp)), rfl⟩)
    | skip
  go_loop [15, 16] (fun n i => ∃ k : Nat, k ≤ L5.length ∧ i = .int .i64 k ∧ n = .int .i64 ((n4 + L5.length + sumSizes (L5.take k) : Nat) : Int) ∧ n4 + L5.length + sumSizes (L5.take k) ≤ 1048576) (fun _ i => L5.length - (intOf i).toNat)
  case atStart => exact ⟨0, Nat.zero_le _, rfl, by simp [sumSizes_nil], by simp [sumSizes_nil]; omega⟩
  case round =>
    obtain ⟨k, hk, rfl, rfl, hacc⟩ := hrel
    by_cases hlt : k < L5.length
    · obtain ⟨b, off, rfl, hc⟩ := S5 k hlt
      have hsum := sumSizes_take_succ L5 k hlt
      generalize hs : L5.getD k ByteArray.empty = s at hc hsum
      have hsz : s.size ≤ maxLen := z5 s (by rw [← hs]; simp [List.getD, hlt])
      unfold maxLen at hsz
      generalize ht : sumSizes (L5.take k) = t at hacc hsum ⊢
      have HS := Lib.hid hsum
      have HT := Lib.hid ht
      have H := Lib.hid hs
      clear hsum ht hs S5
      by_cases h1 : 1048576 < s.size
      · go_wp2
        (go_ret; exact ⟨false, rfl, (fun h => absurd h (by simp)), rfl⟩)
      by_cases h2 : 1048576 < n4 + L5.length + t + s.size
      · go_wp2
        (go_ret; exact ⟨false, rfl, (fun h => absurd h (by simp)), rfl⟩)
      go_wp2
      go_round
      case rel => exact ⟨k + 1, by omega, by go_num, by rw [HS.out]; go_num, by rw [HS.out]; omega⟩
      case measure => simp [intOf]; omega
    · have he : k = L5.length := by omega
      subst he
      rw [List.take_length] at hacc ⊢
      go_wp2
      all_goals first
        | (go_ret; exact ⟨true, rfl, (fun _ => by omega), rfl⟩)
        | (go_ret; exact ⟨false, rfl, (fun h => absurd h (by simp)), rfl⟩)


set_option maxRecDepth 100000 in
set_option maxHeartbeats 1000000 in
theorem zzB_FnFrameFuncNameLuaCalleeNamedCall (x0 : Bool) (x1 : Int) (a2 : Option Addr) (n2 c2 : Nat) (a3 : Option Addr) (c3 : Nat) (L3 : List ByteArray) (x4 : Int) (x5 : ByteArray) (x6 : Int) (w : World) (m2 : n2 ≤ maxLen) (S3 : Strs w a3 L3) (m3 : L3.length ≤ maxLen) (z3 : ∀ s ∈ L3, s.size ≤ maxLen) (m5 : x5.size ≤ maxLen) :
    Calls Tryf.prog 5 #[.bool x0, .int .i64 x1, .slice a2 n2 c2, .slice a3 L3.length c3, .int .i64 x4, .string x5, .int .i64 x6] w (SomeBool (n2 + (L3.length + sumSizes L3) + x5.size ≤ 1048576) w) := by
  unfold maxLen at m2
  unfold maxLen at m3
  unfold maxLen at m5
  have b9 : True := trivial
  go_enter Tryf.func5, Tryf.ntmps5
  go_wp2
  all_goals first
    | (go_ret; exact ⟨false, rfl, (fun h => absurd h (by simp)), rfl⟩)
    | skip
  go_loop [15, 16] (fun n i => ∃ k : Nat, k ≤ L3.length ∧ i = .int .i64 k ∧ n = .int .i64 ((n2 + L3.length + sumSizes (L3.take k) : Nat) : Int) ∧ n2 + L3.length + sumSizes (L3.take k) ≤ 1048576) (fun _ i => L3.length - (intOf i).toNat)
  case atStart => exact ⟨0, Nat.zero_le _, rfl, by simp [sumSizes_nil], by simp [sumSizes_nil]; omega⟩
  case round =>
    obtain ⟨k, hk, rfl, rfl, hacc⟩ := hrel
    by_cases hlt : k < L3.length
    · obtain ⟨b, off, rfl, hc⟩ := S3 k hlt
      have hsum := sumSizes_take_succ L3 k hlt
      generalize hs : L3.getD k ByteArray.empty = s at hc hsum
      have hsz : s.size ≤ maxLen := z3 s (by rw [← hs]; simp [List.getD, hlt])
      unfold maxLen at hsz
      generalize ht : sumSizes (L3.take k) = t at hacc hsum ⊢
      have HS := Lib.hid hsum
      have HT := Lib.hid ht
      have H := Lib.hid hs
      clear hsum ht hs S3
      by_cases h1 : 1048576 < s.size
      · go_wp2
        (go_ret; exact ⟨false, rfl, (fun h => absurd h (by simp)), rfl⟩)
      by_cases h2 : 1048576 < n2 + L3.length + t + s.size
      · go_wp2
        (go_ret; exact ⟨false, rfl, (fun h => absurd h (by simp)), rfl⟩)
      go_wp2
      go_round
      case rel => exact ⟨k + 1, by omega, by go_num, by rw [HS.out]; go_num, by rw [HS.out]; omega⟩
      case measure => simp [intOf]; omega
    · have he : k = L3.length := by omega
      subst he
      rw [List.take_length] at hacc ⊢
      go_wp2
      all_goals first
        | (go_ret; exact ⟨true, rfl, (fun _ => by omega), rfl⟩)
        | (go_ret; exact ⟨false, rfl, (fun h => absurd h (by simp)), rfl⟩)


end Go.Proofs.YtkbbombebfjggaaFmt
