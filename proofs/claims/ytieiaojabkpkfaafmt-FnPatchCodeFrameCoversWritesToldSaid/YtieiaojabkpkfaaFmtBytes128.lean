/- The contracts of the generated guards 'zzBytes_..': a bool comes back; where it is true the lengths sum to at most 2^20. -/
import Derived.Test.YtieiaojabkpkfaaFmtRows
import Derived.Test.YtieiaojabkpkfaaFmtMem
import Derived.WalkKit
import Derived.ProofKit
import Derived.WalkLawsBesides
import Derived.WalkSpells
import Derived.Handy
import Derived.Lib.Hide
namespace Go.Proofs.YtieiaojabkpkfaaFmt
open Go.RowKit
set_option linter.unusedVariables false


set_option maxRecDepth 100000 in
set_option maxHeartbeats 1000000 in
theorem zzB_FnIdentRefTypeAskerOnlyLocalises (a0 : Option Addr) (c0 : Nat) (L0 : List ByteArray) (a1 : Option Addr) (c1 : Nat) (L1 : List ByteArray) (x2 : ByteArray) (w : World) (S0 : Strs w a0 L0) (m0 : L0.length ≤ maxLen) (z0 : ∀ s ∈ L0, s.size ≤ maxLen) (S1 : Strs w a1 L1) (m1 : L1.length ≤ maxLen) (z1 : ∀ s ∈ L1, s.size ≤ maxLen) (m2 : x2.size ≤ maxLen) :
    Calls Tryf.prog 18 #[.slice a0 L0.length c0, .slice a1 L1.length c1, .string x2] w (SomeBool ((L0.length + sumSizes L0) + (L1.length + sumSizes L1) + x2.size ≤ 1048576) w) := by
  unfold maxLen at m0
  unfold maxLen at m1
  unfold maxLen at m2
  have b9 : True := trivial
  go_enter Tryf.func18, Tryf.ntmps18
  go_wp2
  all_goals first
    | (go_ret; exact ⟨false, rfl, (fun h => absurd h (by simp)), rfl⟩)
    | skip
  go_loop [7, 8] (fun n i => ∃ k : Nat, k ≤ L0.length ∧ i = .int .i64 k ∧ n = .int .i64 ((L0.length + sumSizes (L0.take k) : Nat) : Int) ∧ L0.length + sumSizes (L0.take k) ≤ 1048576) (fun _ i => L0.length - (intOf i).toNat)
  case atStart => exact ⟨0, Nat.zero_le _, rfl, by simp [sumSizes_nil], by simp [sumSizes_nil]; omega⟩
  case round =>
    obtain ⟨k, hk, rfl, rfl, hacc⟩ := hrel
    by_cases hlt : k < L0.length
    · obtain ⟨b, off, rfl, hc⟩ := S0 k hlt
      have hsum := sumSizes_take_succ L0 k hlt
      generalize hs : L0.getD k ByteArray.empty = s at hc hsum
      have hsz : s.size ≤ maxLen := z0 s (by rw [← hs]; simp [List.getD, hlt])
      unfold maxLen at hsz
      generalize ht : sumSizes (L0.take k) = t at hacc hsum ⊢
      have HS := Lib.hid hsum
      have HT := Lib.hid ht
      have H := Lib.hid hs
      clear hsum ht hs S0
      by_cases h1 : 1048576 < s.size
      · go_wp2
        (go_ret; exact ⟨false, rfl, (fun h => absurd h (by simp)), rfl⟩)
      by_cases h2 : 1048576 < L0.length + t + s.size
      · go_wp2
        (go_ret; exact ⟨false, rfl, (fun h => absurd h (by simp)), rfl⟩)
      go_wp2
      go_round
      case rel => exact ⟨k + 1, by omega, by go_num, by rw [HS.out]; go_num, by rw [HS.out]; omega⟩
      case measure => simp [intOf]; omega
    · have he : k = L0.length := by omega
      subst he
      rw [List.take_length] at hacc ⊢
      go_wp2
      all_goals first
        | (go_ret; exact ⟨false, rfl, (fun h => absurd h (by simp)), rfl⟩)
        | skip
      go_loop [7, 9] (fun n i => ∃ k : Nat, k ≤ L1.length ∧ i = .int .i64 k ∧ n = .int .i64 ((L0.length + sumSizes L0 + L1.length + sumSizes (L1.take k) : Nat) : Int) ∧ L0.length + sumSizes L0 + L1.length + sumSizes (L1.take k) ≤ 1048576) (fun _ i => L1.length - (intOf i).toNat)
      case atStart => exact ⟨0, Nat.zero_le _, rfl, by simp [sumSizes_nil], by simp [sumSizes_nil]; omega⟩
      case round =>
        obtain ⟨k, hk, rfl, rfl, hacc⟩ := hrel
        by_cases hlt : k < L1.length
        · obtain ⟨b, off, rfl, hc⟩ := S1 k hlt
          have hsum := sumSizes_take_succ L1 k hlt
          generalize hs : L1.getD k ByteArray.empty = s at hc hsum
          have hsz : s.size ≤ maxLen := z1 s (by rw [← hs]; simp [List.getD, hlt])
          unfold maxLen at hsz
          generalize ht : sumSizes (L1.take k) = t at hacc hsum ⊢
          have HS := Lib.hid hsum
          have HT := Lib.hid ht
          have H := Lib.hid hs
          clear hsum ht hs S1
          by_cases h1 : 1048576 < s.size
          · go_wp2
            (go_ret; exact ⟨false, rfl, (fun h => absurd h (by simp)), rfl⟩)
          by_cases h2 : 1048576 < L0.length + sumSizes L0 + L1.length + t + s.size
          · go_wp2
            (go_ret; exact ⟨false, rfl, (fun h => absurd h (by simp)), rfl⟩)
          go_wp2
          go_round
          case rel => exact ⟨k + 1, by omega, by go_num, by rw [HS.out]; go_num, by rw [HS.out]; omega⟩
          case measure => simp [intOf]; omega
        · have he : k = L1.length := by omega
          subst he
          rw [List.take_length] at hacc ⊢
          go_wp2
          all_goals first
            | (go_ret; exact ⟨true, rfl, (fun _ => by omega), rfl⟩)
            | (go_ret; exact ⟨false, rfl, (fun h => absurd h (by simp)), rfl⟩)


set_option maxRecDepth 100000 in
set_option maxHeartbeats 1000000 in
theorem zzB_FnIdentRefTypeByScope (a0 : Option Addr) (c0 : Nat) (L0 : List ByteArray) (a1 : Option Addr) (c1 : Nat) (L1 : List ByteArray) (a2 : Option Addr) (c2 : Nat) (L2 : List ByteArray) (x3 : ByteArray) (w : World) (S0 : Strs w a0 L0) (m0 : L0.length ≤ maxLen) (z0 : ∀ s ∈ L0, s.size ≤ maxLen) (S1 : Strs w a1 L1) (m1 : L1.length ≤ maxLen) (z1 : ∀ s ∈ L1, s.size ≤ maxLen) (S2 : Strs w a2 L2) (m2 : L2.length ≤ maxLen) (z2 : ∀ s ∈ L2, s.size ≤ maxLen) (m3 : x3.size ≤ maxLen) :
    Calls Tryf.prog 27 #[.slice a0 L0.length c0, .slice a1 L1.length c1, .slice a2 L2.length c2, .string x3] w (SomeBool ((L0.length + sumSizes L0) + (L1.length + sumSizes L1) + (L2.length + sumSizes L2) + x3.size ≤ 1048576) w) := by
  unfold maxLen at m0
  unfold maxLen at m1
  unfold maxLen at m2
  unfold maxLen at m3
  have b9 : True := trivial
  go_enter Tryf.func27, Tryf.ntmps27
  go_wp2
  all_goals first
    | (go_ret; exact ⟨false, rfl, (fun h => absurd h (by simp)), rfl⟩)
    | skip
  go_loop [9, 10] (fun n i => ∃ k : Nat, k ≤ L0.length ∧ i = .int .i64 k ∧ n = .int .i64 ((L0.length + sumSizes (L0.take k) : Nat) : Int) ∧ L0.length + sumSizes (L0.take k) ≤ 1048576) (fun _ i => L0.length - (intOf i).toNat)
  case atStart => exact ⟨0, Nat.zero_le _, rfl, by simp [sumSizes_nil], by simp [sumSizes_nil]; omega⟩
  case round =>
    obtain ⟨k, hk, rfl, rfl, hacc⟩ := hrel
    by_cases hlt : k < L0.length
    · obtain ⟨b, off, rfl, hc⟩ := S0 k hlt
      have hsum := sumSizes_take_succ L0 k hlt
      generalize hs : L0.getD k ByteArray.empty = s at hc hsum
      have hsz : s.size ≤ maxLen := z0 s (by rw [← hs]; simp [List.getD, hlt])
      unfold maxLen at hsz
      generalize ht : sumSizes (L0.take k) = t at hacc hsum ⊢
      have HS := Lib.hid hsum
      have HT := Lib.hid ht
      have H := Lib.hid hs
      clear hsum ht hs S0
      by_cases h1 : 1048576 < s.size
      · go_wp2
        (go_ret; exact ⟨false, rfl, (fun h => absurd h (by simp)), rfl⟩)
      by_cases h2 : 1048576 < L0.length + t + s.size
      · go_wp2
        (go_ret; exact ⟨false, rfl, (fun h => absurd h (by simp)), rfl⟩)
      go_wp2
      go_round
      case rel => exact ⟨k + 1, by omega, by go_num, by rw [HS.out]; go_num, by rw [HS.out]; omega⟩
      case measure => simp [intOf]; omega
    · have he : k = L0.length := by omega
      subst he
      rw [List.take_length] at hacc ⊢
      go_wp2
      all_goals first
        | (go_ret; exact ⟨false, rfl, (fun h => absurd h (by simp)), rfl⟩)
        | skip
      go_loop [9, 11] (fun n i => ∃ k : Nat, k ≤ L1.length ∧ i = .int .i64 k ∧ n = .int .i64 ((L0.length + sumSizes L0 + L1.length + sumSizes (L1.take k) : Nat) : Int) ∧ L0.length + sumSizes L0 + L1.length + sumSizes (L1.take k) ≤ 1048576) (fun _ i => L1.length - (intOf i).toNat)
      case atStart => exact ⟨0, Nat.zero_le _, rfl, by simp [sumSizes_nil], by simp [sumSizes_nil]; omega⟩
      case round =>
        obtain ⟨k, hk, rfl, rfl, hacc⟩ := hrel
        by_cases hlt : k < L1.length
        · obtain ⟨b, off, rfl, hc⟩ := S1 k hlt
          have hsum := sumSizes_take_succ L1 k hlt
          generalize hs : L1.getD k ByteArray.empty = s at hc hsum
          have hsz : s.size ≤ maxLen := z1 s (by rw [← hs]; simp [List.getD, hlt])
          unfold maxLen at hsz
          generalize ht : sumSizes (L1.take k) = t at hacc hsum ⊢
          have HS := Lib.hid hsum
          have HT := Lib.hid ht
          have H := Lib.hid hs
          clear hsum ht hs S1
          by_cases h1 : 1048576 < s.size
          · go_wp2
            (go_ret; exact ⟨false, rfl, (fun h => absurd h (by simp)), rfl⟩)
          by_cases h2 : 1048576 < L0.length + sumSizes L0 + L1.length + t + s.size
          · go_wp2
            (go_ret; exact ⟨false, rfl, (fun h => absurd h (by simp)), rfl⟩)
          go_wp2
          go_round
          case rel => exact ⟨k + 1, by omega, by go_num, by rw [HS.out]; go_num, by rw [HS.out]; omega⟩
          case measure => simp [intOf]; omega
        · have he : k = L1.length := by omega
          subst he
          rw [List.take_length] at hacc ⊢
          go_wp2
          all_goals first
            | (go_ret; exact ⟨false, rfl, (fun h => absurd h (by simp)), rfl⟩)
            | skip
          go_loop [9, 12] (fun n i => ∃ k : Nat, k ≤ L2.length ∧ i = .int .i64 k ∧ n = .int .i64 ((L0.length + sumSizes L0 + L1.length + sumSizes L1 + L2.length + sumSizes (L2.take k) : Nat) : Int) ∧ L0.length + sumSizes L0 + L1.length + sumSizes L1 + L2.length + sumSizes (L2.take k) ≤ 1048576) (fun _ i => L2.length - (intOf i).toNat)
          case atStart => exact ⟨0, Nat.zero_le _, rfl, by simp [sumSizes_nil], by simp [sumSizes_nil]; omega⟩
          case round =>
            obtain ⟨k, hk, rfl, rfl, hacc⟩ := hrel
            by_cases hlt : k < L2.length
            · obtain ⟨b, off, rfl, hc⟩ := S2 k hlt
              have hsum := sumSizes_take_succ L2 k hlt
              generalize hs : L2.getD k ByteArray.empty = s at hc hsum
              have hsz : s.size ≤ maxLen := z2 s (by rw [← hs]; simp [List.getD, hlt])
              unfold maxLen at hsz
              generalize ht : sumSizes (L2.take k) = t at hacc hsum ⊢
              have HS := Lib.hid hsum
              have HT := Lib.hid ht
              have H := Lib.hid hs
              clear hsum ht hs S2
              by_cases h1 : 1048576 < s.size
              · go_wp2
                (go_ret; exact ⟨false, rfl, (fun h => absurd h (by simp)), rfl⟩)
              by_cases h2 : 1048576 < L0.length + sumSizes L0 + L1.length + sumSizes L1 + L2.length + t + s.size
              · go_wp2
                (go_ret; exact ⟨false, rfl, (fun h => absurd h (by simp)), rfl⟩)
              go_wp2
              go_round
              case rel => exact ⟨k + 1, by omega, by go_num, by rw [HS.out]; go_num, by rw [HS.out]; omega⟩
              case measure => simp [intOf]; omega
            · have he : k = L2.length := by omega
              subst he
              rw [List.take_length] at hacc ⊢
              go_wp2
              all_goals first
                | (go_ret; exact ⟨true, rfl, (fun _ => by omega), rfl⟩)
                | (go_ret; exact ⟨false, rfl, (fun h => absurd h (by simp)), rfl⟩)


end Go.Proofs.YtieiaojabkpkfaaFmt
