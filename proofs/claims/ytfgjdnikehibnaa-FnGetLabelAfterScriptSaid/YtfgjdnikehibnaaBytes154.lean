/- The contracts of the generated guards 'zzBytes_..': a bool comes back; where it is true the lengths sum to at most 2^20. -/
import Derived.Test.YtfgjdnikehibnaaRows
import Derived.Test.YtfgjdnikehibnaaMem
import Derived.WalkKit
import Derived.ProofKit
import Derived.WalkLawsBesides
import Derived.WalkSpells
import Derived.Handy
import Derived.Lib.Hide
namespace Go.Proofs.Ytfgjdnikehibnaa
open Go.RowKit
set_option linter.unusedVariables false


set_option maxRecDepth 100000 in
set_option maxHeartbeats 1000000 in
theorem zzB_FnRegisterConsecutiveIndices (x0 : Int) (a1 : Option Addr) (c1 : Nat) (L1 : List ByteArray) (w : World) (S1 : Strs w a1 L1) (m1 : L1.length ≤ maxLen) (z1 : ∀ s ∈ L1, s.size ≤ maxLen) :
    Calls Try.prog 8 #[.int .i64 x0, .slice a1 L1.length c1] w (SomeBool ((L1.length + sumSizes L1) ≤ 1048576) w) := by
  unfold maxLen at m1
  have b9 : True := trivial
  go_enter Try.func8, Try.ntmps8
  go_wp2
  all_goals first
    | (go_ret; exact ⟨false, rfl, (fun h => absurd h (by simp)), rfl⟩)
    | skip
  go_loop [5, 6] (fun n i => ∃ k : Nat, k ≤ L1.length ∧ i = .int .i64 k ∧ n = .int .i64 ((L1.length + sumSizes (L1.take k) : Nat) : Int) ∧ L1.length + sumSizes (L1.take k) ≤ 1048576) (fun _ i => L1.length - (intOf i).toNat)
  case atStart => exact ⟨0, Nat.zero_le _, rfl, by simp [sumSizes_nil], by simp [sumSizes_nil]; omega⟩
  case round =>
    obtain ⟨k, hk, rfl, rfl, hacc⟩ := hrel
    by_cases hlt : k < L1.length
    · obtain ⟨b, off, rfl, hc⟩ := S1 k hlt
      have hsum := sumSizes_take_succ L1 k hlt
      generalize hs : L1.getD k ByteArray.empty = s at hc hsum
      have hsz : s.size ≤ maxLen := z1 s (by rw [← hs]; simp [List.getD, hlt])
      unfold maxLen at hsz
      generalize ht : sumSizes (L1.take k) = t at hacc hsum ⊢
      have HS := Lib.hid hsum
      have HT := Lib.hid ht
      have H := Lib.hid hs
      clear hsum ht hs S1
      by_cases h1 : 1048576 < s.size
      · go_wp2
        (go_ret; exact ⟨false, rfl, (fun h => absurd h (by simp)), rfl⟩)
      by_cases h2 : 1048576 < L1.length + t + s.size
      · go_wp2
        (go_ret; exact ⟨false, rfl, (fun h => absurd h (by simp)), rfl⟩)
      go_wp2
      go_round
      case rel => exact ⟨k + 1, by omega, by go_num, by rw [HS.out]; go_num, by rw [HS.out]; omega⟩
      case measure => simp [intOf]; omega
    · have he : k = L1.length := by omega
      subst he
      rw [List.take_length] at hacc ⊢
      go_wp2
      all_goals first
        | (go_ret; exact ⟨true, rfl, (fun _ => by omega), rfl⟩)
        | (go_ret; exact ⟨false, rfl, (fun h => absurd h (by simp)), rfl⟩)


set_option maxRecDepth 100000 in
set_option maxHeartbeats 1000000 in
theorem zzB_FnAddLabelReplayRefused (a0 : Option Addr) (c0 : Nat) (L0 : List ByteArray) (w : World) (S0 : Strs w a0 L0) (m0 : L0.length ≤ maxLen) (z0 : ∀ s ∈ L0, s.size ≤ maxLen) :
    Calls Try.prog 15 #[.slice a0 L0.length c0] w (SomeBool ((L0.length + sumSizes L0) ≤ 1048576) w) := by
  unfold maxLen at m0
  have b9 : True := trivial
  go_enter Try.func15, Try.ntmps15
  go_wp2
  all_goals first
    | (go_ret; exact ⟨false, rfl, (fun h => absurd h (by simp)), rfl⟩)
    | skip
  go_loop [3, 4] (fun n i => ∃ k : Nat, k ≤ L0.length ∧ i = .int .i64 k ∧ n = .int .i64 ((L0.length + sumSizes (L0.take k) : Nat) : Int) ∧ L0.length + sumSizes (L0.take k) ≤ 1048576) (fun _ i => L0.length - (intOf i).toNat)
  case atStart => exact ⟨0, Nat.zero_le _, rfl, by simp [sumSizes_nil], by simp [sumSizes_nil]; omega⟩
  case round =>
    obtain ⟨k, hk, rfl, rfl, hacc⟩ := hrel
    by_cases hlt : k < L0.length
    · obtain ⟨b, off, rfl, hc⟩ := S0 k hlt
      have hsum := sumSizes_take_succ L0 k hlt
      generalize hs : L0.getD k ByteArray.empty = s at hc hsum
      have hsz : s.size ≤ maxLen := z0 s (by rw [← hs]; simp [List.getD, hlt])
      unfold maxLen at hsz
      generalize ht : sumSizes (L0.take k) = t at hacc hsum ⊢
      have HS := Lib.hid hsum
      have HT := Lib.hid ht
      have H := Lib.hid hs
      clear hsum ht hs S0
      by_cases h1 : 1048576 < s.size
      · go_wp2
        (go_ret; exact ⟨false, rfl, (fun h => absurd h (by simp)), rfl⟩)
      by_cases h2 : 1048576 < L0.length + t + s.size
      · go_wp2
        (go_ret; exact ⟨false, rfl, (fun h => absurd h (by simp)), rfl⟩)
      go_wp2
      go_round
      case rel => exact ⟨k + 1, by omega, by go_num, by rw [HS.out]; go_num, by rw [HS.out]; omega⟩
      case measure => simp [intOf]; omega
    · have he : k = L0.length := by omega
      subst he
      rw [List.take_length] at hacc ⊢
      go_wp2
      all_goals first
        | (go_ret; exact ⟨true, rfl, (fun _ => by omega), rfl⟩)
        | (go_ret; exact ⟨false, rfl, (fun h => absurd h (by simp)), rfl⟩)


set_option maxRecDepth 100000 in
set_option maxHeartbeats 1000000 in
theorem zzB_FnAddLabelFirstWins (a0 : Option Addr) (c0 : Nat) (L0 : List ByteArray) (w : World) (S0 : Strs w a0 L0) (m0 : L0.length ≤ maxLen) (z0 : ∀ s ∈ L0, s.size ≤ maxLen) :
    Calls Try.prog 21 #[.slice a0 L0.length c0] w (SomeBool ((L0.length + sumSizes L0) ≤ 1048576) w) := by
  unfold maxLen at m0
  have b9 : True := trivial
  go_enter Try.func21, Try.ntmps21
  go_wp2
  all_goals first
    | (go_ret; exact ⟨false, rfl, (fun h => absurd h (by simp)), rfl⟩)
    | skip
  go_loop [3, 4] (fun n i => ∃ k : Nat, k ≤ L0.length ∧ i = .int .i64 k ∧ n = .int .i64 ((L0.length + sumSizes (L0.take k) : Nat) : Int) ∧ L0.length + sumSizes (L0.take k) ≤ 1048576) (fun _ i => L0.length - (intOf i).toNat)
  case atStart => exact ⟨0, Nat.zero_le _, rfl, by simp [sumSizes_nil], by simp [sumSizes_nil]; omega⟩
  case round =>
    obtain ⟨k, hk, rfl, rfl, hacc⟩ := hrel
    by_cases hlt : k < L0.length
    · obtain ⟨b, off, rfl, hc⟩ := S0 k hlt
      have hsum := sumSizes_take_succ L0 k hlt
      generalize hs : L0.getD k ByteArray.empty = s at hc hsum
      have hsz : s.size ≤ maxLen := z0 s (by rw [← hs]; simp [List.getD, hlt])
      unfold maxLen at hsz
      generalize ht : sumSizes (L0.take k) = t at hacc hsum ⊢
      have HS := Lib.hid hsum
      have HT := Lib.hid ht
      have H := Lib.hid hs
      clear hsum ht hs S0
      by_cases h1 : 1048576 < s.size
      · go_wp2
        (go_ret; exact ⟨false, rfl, (fun h => absurd h (by simp)), rfl⟩)
      by_cases h2 : 1048576 < L0.length + t + s.size
      · go_wp2
        (go_ret; exact ⟨false, rfl, (fun h => absurd h (by simp)), rfl⟩)
      go_wp2
      go_round
      case rel => exact ⟨k + 1, by omega, by go_num, by rw [HS.out]; go_num, by rw [HS.out]; omega⟩
      case measure => simp [intOf]; omega
    · have he : k = L0.length := by omega
      subst he
      rw [List.take_length] at hacc ⊢
      go_wp2
      all_goals first
        | (go_ret; exact ⟨true, rfl, (fun _ => by omega), rfl⟩)
        | (go_ret; exact ⟨false, rfl, (fun h => absurd h (by simp)), rfl⟩)


set_option maxRecDepth 100000 in
set_option maxHeartbeats 1000000 in
theorem zzB_FnRegisterFindAndList (x0 : Int) (a1 : Option Addr) (c1 : Nat) (L1 : List ByteArray) (w : World) (S1 : Strs w a1 L1) (m1 : L1.length ≤ maxLen) (z1 : ∀ s ∈ L1, s.size ≤ maxLen) :
    Calls Try.prog 22 #[.int .i64 x0, .slice a1 L1.length c1] w (SomeBool ((L1.length + sumSizes L1) ≤ 1048576) w) := by
  unfold maxLen at m1
  have b9 : True := trivial
  go_enter Try.func22, Try.ntmps22
  go_wp2
  all_goals first
    | (go_ret; exact ⟨false, rfl, (fun h => absurd h (by simp)), rfl⟩)
    | skip
  go_loop [5, 6] (fun n i => ∃ k : Nat, k ≤ L1.length ∧ i = .int .i64 k ∧ n = .int .i64 ((L1.length + sumSizes (L1.take k) : Nat) : Int) ∧ L1.length + sumSizes (L1.take k) ≤ 1048576) (fun _ i => L1.length - (intOf i).toNat)
  case atStart => exact ⟨0, Nat.zero_le _, rfl, by simp [sumSizes_nil], by simp [sumSizes_nil]; omega⟩
  case round =>
    obtain ⟨k, hk, rfl, rfl, hacc⟩ := hrel
    by_cases hlt : k < L1.length
    · obtain ⟨b, off, rfl, hc⟩ := S1 k hlt
      have hsum := sumSizes_take_succ L1 k hlt
      generalize hs : L1.getD k ByteArray.empty = s at hc hsum
      have hsz : s.size ≤ maxLen := z1 s (by rw [← hs]; simp [List.getD, hlt])
      unfold maxLen at hsz
      generalize ht : sumSizes (L1.take k) = t at hacc hsum ⊢
      have HS := Lib.hid hsum
      have HT := Lib.hid ht
      have H := Lib.hid hs
      clear hsum ht hs S1
      by_cases h1 : 1048576 < s.size
      · go_wp2
        (go_ret; exact ⟨false, rfl, (fun h => absurd h (by simp)), rfl⟩)
      by_cases h2 : 1048576 < L1.length + t + s.size
      · go_wp2
        (go_ret; exact ⟨false, rfl, (fun h => absurd h (by simp)), rfl⟩)
      go_wp2
      go_round
      case rel => exact ⟨k + 1, by omega, by go_num, by rw [HS.out]; go_num, by rw [HS.out]; omega⟩
      case measure => simp [intOf]; omega
    · have he : k = L1.length := by omega
      subst he
      rw [List.take_length] at hacc ⊢
      go_wp2
      all_goals first
        | (go_ret; exact ⟨true, rfl, (fun _ => by omega), rfl⟩)
        | (go_ret; exact ⟨false, rfl, (fun h => absurd h (by simp)), rfl⟩)


set_option maxRecDepth 100000 in
set_option maxHeartbeats 1000000 in
theorem zzB_FnGetLabelAfterScript (a0 : Option Addr) (c0 : Nat) (L0 : List ByteArray) (a1 : Option Addr) (c1 : Nat) (L1 : List ByteArray) (w : World) (S0 : Strs w a0 L0) (m0 : L0.length ≤ maxLen) (z0 : ∀ s ∈ L0, s.size ≤ maxLen) (S1 : Strs w a1 L1) (m1 : L1.length ≤ maxLen) (z1 : ∀ s ∈ L1, s.size ≤ maxLen) :
    Calls Try.prog 25 #[.slice a0 L0.length c0, .slice a1 L1.length c1] w (SomeBool ((L0.length + sumSizes L0) + (L1.length + sumSizes L1) ≤ 1048576) w) := by
  unfold maxLen at m0
  unfold maxLen at m1
  have b9 : True := trivial
  go_enter Try.func25, Try.ntmps25
  go_wp2
  all_goals first
    | (go_ret; exact ⟨false, rfl, (fun h => absurd h (by simp)), rfl⟩)
    | skip
  go_loop [5, 6] (fun n i => ∃ k : Nat, k ≤ L0.length ∧ i = .int .i64 k ∧ n = .int .i64 ((L0.length + sumSizes (L0.take k) : Nat) : Int) ∧ L0.length + sumSizes (L0.take k) ≤ 1048576) (fun _ i => L0.length - (intOf i).toNat)
  case atStart => exact ⟨0, Nat.zero_le _, rfl, by simp [sumSizes_nil], by simp [sumSizes_nil]; omega⟩
  case round =>
    obtain ⟨k, hk, rfl, rfl, hacc⟩ := hrel
    by_cases hlt : k < L0.length
    · obtain ⟨b, off, rfl, hc⟩ := S0 k hlt
      have hsum := sumSizes_take_succ L0 k hlt
      generalize hs : L0.getD k ByteArray.empty = s at hc hsum
      have hsz : s.size ≤ maxLen := z0 s (by rw [← hs]; simp [List.getD, hlt])
      unfold maxLen at hsz
      generalize ht : sumSizes (L0.take k) = t at hacc hsum ⊢
      have HS := Lib.hid hsum
      have HT := Lib.hid ht
      have H := Lib.hid hs
      clear hsum ht hs S0
      by_cases h1 : 1048576 < s.size
      · go_wp2
        (go_ret; exact ⟨false, rfl, (fun h => absurd h (by simp)), rfl⟩)
      by_cases h2 : 1048576 < L0.length + t + s.size
      · go_wp2
        (go_ret; exact ⟨false, rfl, (fun h => absurd h (by simp)), rfl⟩)
      go_wp2
      go_round
      case rel => exact ⟨k + 1, by omega, by go_num, by rw [HS.out]; go_num, by rw [HS.out]; omega⟩
      case measure => simp [intOf]; omega
    · have he : k = L0.length := by omega
      subst he
      rw [List.take_length] at hacc ⊢
      go_wp2
      all_goals first
        | (go_ret; exact ⟨false, rfl, (fun h => absurd h (by simp)), rfl⟩)
        | skip
      go_loop [5, 7] (fun n i => ∃ k : Nat, k ≤ L1.length ∧ i = .int .i64 k ∧ n = .int .i64 ((L0.length + sumSizes L0 + L1.length + sumSizes (L1.take k) : Nat) : Int) ∧ L0.length + sumSizes L0 + L1.length + sumSizes (L1.take k) ≤ 1048576) (fun _ i => L1.length - (intOf i).toNat)
      case atStart => exact ⟨0, Nat.zero_le _, rfl, by simp [sumSizes_nil], by simp [sumSizes_nil]; omega⟩
      case round =>
        obtain ⟨k, hk, rfl, rfl, hacc⟩ := hrel
        by_cases hlt : k < L1.length
        · obtain ⟨b, off, rfl, hc⟩ := S1 k hlt
          have hsum := sumSizes_take_succ L1 k hlt
          generalize hs : L1.getD k ByteArray.empty = s at hc hsum
          have hsz : s.size ≤ maxLen := z1 s (by rw [← hs]; simp [List.getD, hlt])
          unfold maxLen at hsz
          generalize ht : sumSizes (L1.take k) = t at hacc hsum ⊢
          have HS := Lib.hid hsum
          have HT := Lib.hid ht
          have H := Lib.hid hs
          clear hsum ht hs S1
          by_cases h1 : 1048576 < s.size
          · go_wp2
            (go_ret; exact ⟨false, rfl, (fun h => absurd h (by simp)), rfl⟩)
          by_cases h2 : 1048576 < L0.length + sumSizes L0 + L1.length + t + s.size
          · go_wp2
            (go_ret; exact ⟨false, rfl, (fun h => absurd h (by simp)), rfl⟩)
          go_wp2
          go_round
          case rel => exact ⟨k + 1, by omega, by go_num, by rw [HS.out]; go_num, by rw [HS.out]; omega⟩
          case measure => simp [intOf]; omega
        · have he : k = L1.length := by omega
          subst he
          rw [List.take_length] at hacc ⊢
          go_wp2
          all_goals first
            | (go_ret; exact ⟨true, rfl, (fun _ => by omega), rfl⟩)
            | (go_ret; exact ⟨false, rfl, (fun h => absurd h (by simp)), rfl⟩)


end Go.Proofs.Ytfgjdnikehibnaa
