/- The contracts of the generated guards 'zzBytes_..': a bool comes back; where it is true the lengths sum to at most 2^20. -/
import Derived.Test.YtdljljnjijkbjaaFmtRows
import Derived.Test.YtdljljnjijkbjaaFmtMem
import Derived.WalkKit
import Derived.ProofKit
import Derived.WalkLawsBesides
import Derived.WalkSpells
import Derived.Handy
import Derived.Lib.Hide
namespace Go.Proofs.YtdljljnjijkbjaaFmt
open Go.RowKit
set_option linter.unusedVariables false


set_option maxRecDepth 100000 in
set_option maxHeartbeats 1000000 in
theorem zzB_FnNewFunctionProtoIsEmpty (x0 : ByteArray) (w : World) (m0 : x0.size ≤ maxLen) :
    Calls Tryf.prog 6 #[.string x0] w (SomeBool (x0.size ≤ 1048576) w) := by
  unfold maxLen at m0
  have b9 : True := trivial
  go_enter Tryf.func6, Tryf.ntmps6
  go_wp2
  all_goals first
    | (go_ret; exact ⟨true, rfl, (fun _ => by omega), rfl⟩)
    | (go_ret; exact ⟨false, rfl, (fun h => absurd h (by simp)), rfl⟩)


set_option maxRecDepth 100000 in
set_option maxHeartbeats 1000000 in
theorem zzB_FnStrCountOnlyTouchesHeader (x0 : Int) (x1 : Int) (x2 : Int) (x3 : ByteArray) (x4 : Int) (x5 : Int) (x6 : Int) (a7 : Option Addr) (c7 : Nat) (L7 : List ByteArray) (a8 : Option Addr) (c8 : Nat) (L8 : List ByteArray) (w : World) (m3 : x3.size ≤ maxLen) (S7 : Strs w a7 L7) (m7 : L7.length ≤ maxLen) (z7 : ∀ s ∈ L7, s.size ≤ maxLen) (S8 : Strs w a8 L8) (m8 : L8.length ≤ maxLen) (z8 : ∀ s ∈ L8, s.size ≤ maxLen) :
    Calls Tryf.prog 10 #[.int .i64 x0, .int .i64 x1, .int .i64 x2, .string x3, .int .u8 x4, .int .u8 x5, .int .u8 x6, .slice a7 L7.length c7, .slice a8 L8.length c8] w (SomeBool (x3.size + (L7.length + sumSizes L7) + (L8.length + sumSizes L8) ≤ 1048576) w) := by
  unfold maxLen at m3
  unfold maxLen at m7
  unfold maxLen at m8
  have b9 : True := trivial
  go_enter Tryf.func10, Tryf.ntmps10
  go_wp2
  all_goals first
    | (go_ret; exact ⟨false, rfl, (fun h => absurd h (by simp)), rfl⟩)
    | skip
  go_loop [19, 20] (fun n i => ∃ k : Nat, k ≤ L7.length ∧ i = .int .i64 k ∧ n = .int .i64 ((x3.size + L7.length + sumSizes (L7.take k) : Nat) : Int) ∧ x3.size + L7.length + sumSizes (L7.take k) ≤ 1048576) (fun _ i => L7.length - (intOf i).toNat)
  case atStart => exact ⟨0, Nat.zero_le _, rfl, by simp [sumSizes_nil], by simp [sumSizes_nil]; omega⟩
  case round =>
    obtain ⟨k, hk, rfl, rfl, hacc⟩ := hrel
    by_cases hlt : k < L7.length
    · obtain ⟨b, off, rfl, hc⟩ := S7 k hlt
      have hsum := sumSizes_take_succ L7 k hlt
      generalize hs : L7.getD k ByteArray.empty = s at hc hsum
      have hsz : s.size ≤ maxLen := z7 s (by rw [← hs]; simp [List.getD, hlt])
      unfold maxLen at hsz
      generalize ht : sumSizes (L7.take k) = t at hacc hsum ⊢
      have HS := Lib.hid hsum
      have HT := Lib.hid ht
      have H := Lib.hid hs
      clear hsum ht hs S7
      by_cases h1 : 1048576 < s.size
      · go_wp2
        (go_ret; exact ⟨false, rfl, (fun h => absurd h (by simp)), rfl⟩)
      by_cases h2 : 1048576 < x3.size + L7.length + t + s.size
      · go_wp2
        (go_ret; exact ⟨false, rfl, (fun h => absurd h (by simp)), rfl⟩)
      go_wp2
      go_round
      case rel => exact ⟨k + 1, by omega, by go_num, by rw [HS.out]; go_num, by rw [HS.out]; omega⟩
      case measure => simp [intOf]; omega
    · have he : k = L7.length := by omega
      subst he
      rw [List.take_length] at hacc ⊢
      go_wp2
      all_goals first
        | (go_ret; exact ⟨false, rfl, (fun h => absurd h (by simp)), rfl⟩)
        | skip
      go_loop [19, 21] (fun n i => ∃ k : Nat, k ≤ L8.length ∧ i = .int .i64 k ∧ n = .int .i64 ((x3.size + L7.length + sumSizes L7 + L8.length + sumSizes (L8.take k) : Nat) : Int) ∧ x3.size + L7.length + sumSizes L7 + L8.length + sumSizes (L8.take k) ≤ 1048576) (fun _ i => L8.length - (intOf i).toNat)
      case atStart => exact ⟨0, Nat.zero_le _, rfl, by simp [sumSizes_nil], by simp [sumSizes_nil]; omega⟩
      case round =>
        obtain ⟨k, hk, rfl, rfl, hacc⟩ := hrel
        by_cases hlt : k < L8.length
        · obtain ⟨b, off, rfl, hc⟩ := S8 k hlt
          have hsum := sumSizes_take_succ L8 k hlt
          generalize hs : L8.getD k ByteArray.empty = s at hc hsum
          have hsz : s.size ≤ maxLen := z8 s (by rw [← hs]; simp [List.getD, hlt])
          unfold maxLen at hsz
          generalize ht : sumSizes (L8.take k) = t at hacc hsum ⊢
          have HS := Lib.hid hsum
          have HT := Lib.hid ht
          have H := Lib.hid hs
          clear hsum ht hs S8
          by_cases h1 : 1048576 < s.size
          · go_wp2
            (go_ret; exact ⟨false, rfl, (fun h => absurd h (by simp)), rfl⟩)
          by_cases h2 : 1048576 < x3.size + L7.length + sumSizes L7 + L8.length + t + s.size
          · go_wp2
            (go_ret; exact ⟨false, rfl, (fun h => absurd h (by simp)), rfl⟩)
          go_wp2
          go_round
          case rel => exact ⟨k + 1, by omega, by go_num, by rw [HS.out]; go_num, by rw [HS.out]; omega⟩
          case measure => simp [intOf]; omega
        · have he : k = L8.length := by omega
          subst he
          rw [List.take_length] at hacc ⊢
          go_wp2
          all_goals first
            | (go_ret; exact ⟨true, rfl, (fun _ => by omega), rfl⟩)
            | (go_ret; exact ⟨false, rfl, (fun h => absurd h (by simp)), rfl⟩)


set_option maxRecDepth 100000 in
set_option maxHeartbeats 1000000 in
theorem zzB_FnStringIsDedentedStr (x0 : Int) (x1 : Int) (x2 : ByteArray) (x3 : Int) (x4 : Int) (x5 : Int) (a6 : Option Addr) (c6 : Nat) (L6 : List ByteArray) (a7 : Option Addr) (c7 : Nat) (L7 : List ByteArray) (w : World) (m2 : x2.size ≤ maxLen) (S6 : Strs w a6 L6) (m6 : L6.length ≤ maxLen) (z6 : ∀ s ∈ L6, s.size ≤ maxLen) (S7 : Strs w a7 L7) (m7 : L7.length ≤ maxLen) (z7 : ∀ s ∈ L7, s.size ≤ maxLen) :
    Calls Tryf.prog 17 #[.int .i64 x0, .int .i64 x1, .string x2, .int .u8 x3, .int .u8 x4, .int .u8 x5, .slice a6 L6.length c6, .slice a7 L7.length c7] w (SomeBool (x2.size + (L6.length + sumSizes L6) + (L7.length + sumSizes L7) ≤ 1048576) w) := by
  unfold maxLen at m2
  unfold maxLen at m6
  unfold maxLen at m7
  have b9 : True := trivial
  go_enter Tryf.func17, Tryf.ntmps17
  go_wp2
  all_goals first
    | (go_ret; exact ⟨false, rfl, (fun h => absurd h (by simp)), rfl⟩)
    | skip
  go_loop [17, 18] (fun n i => ∃ k : Nat, k ≤ L6.length ∧ i = .int .i64 k ∧ n = .int .i64 ((x2.size + L6.length + sumSizes (L6.take k) : Nat) : Int) ∧ x2.size + L6.length + sumSizes (L6.take k) ≤ 1048576) (fun _ i => L6.length - (intOf i).toNat)
  case atStart => exact ⟨0, Nat.zero_le _, rfl, by simp [sumSizes_nil], by simp [sumSizes_nil]; omega⟩
  case round =>
    obtain ⟨k, hk, rfl, rfl, hacc⟩ := hrel
    by_cases hlt : k < L6.length
    · obtain ⟨b, off, rfl, hc⟩ := S6 k hlt
      have hsum := sumSizes_take_succ L6 k hlt
      generalize hs : L6.getD k ByteArray.empty = s at hc hsum
      have hsz : s.size ≤ maxLen := z6 s (by rw [← hs]; simp [List.getD, hlt])
      unfold maxLen at hsz
      generalize ht : sumSizes (L6.take k) = t at hacc hsum ⊢
      have HS := Lib.hid hsum
      have HT := Lib.hid ht
      have H := Lib.hid hs
      clear hsum ht hs S6
      by_cases h1 : 1048576 < s.size
      · go_wp2
        (go_ret; exact ⟨false, rfl, (fun h => absurd h (by simp)), rfl⟩)
      by_cases h2 : 1048576 < x2.size + L6.length + t + s.size
      · go_wp2
        (go_ret; exact ⟨false, rfl, (fun h => absurd h (by simp)), rfl⟩)
      go_wp2
      go_round
      case rel => exact ⟨k + 1, by omega, by go_num, by rw [HS.out]; go_num, by rw [HS.out]; omega⟩
      case measure => simp [intOf]; omega
    · have he : k = L6.length := by omega
      subst he
      rw [List.take_length] at hacc ⊢
      go_wp2
      all_goals first
        | (go_ret; exact ⟨false, rfl, (fun h => absurd h (by simp)), rfl⟩)
        | skip
      go_loop [17, 19] (fun n i => ∃ k : Nat, k ≤ L7.length ∧ i = .int .i64 k ∧ n = .int .i64 ((x2.size + L6.length + sumSizes L6 + L7.length + sumSizes (L7.take k) : Nat) : Int) ∧ x2.size + L6.length + sumSizes L6 + L7.length + sumSizes (L7.take k) ≤ 1048576) (fun _ i => L7.length - (intOf i).toNat)
      case atStart => exact ⟨0, Nat.zero_le _, rfl, by simp [sumSizes_nil], by simp [sumSizes_nil]; omega⟩
      case round =>
        obtain ⟨k, hk, rfl, rfl, hacc⟩ := hrel
        by_cases hlt : k < L7.length
        · obtain ⟨b, off, rfl, hc⟩ := S7 k hlt
          have hsum := sumSizes_take_succ L7 k hlt
          generalize hs : L7.getD k ByteArray.empty = s at hc hsum
          have hsz : s.size ≤ maxLen := z7 s (by rw [← hs]; simp [List.getD, hlt])
          unfold maxLen at hsz
          generalize ht : sumSizes (L7.take k) = t at hacc hsum ⊢
          have HS := Lib.hid hsum
          have HT := Lib.hid ht
          have H := Lib.hid hs
          clear hsum ht hs S7
          by_cases h1 : 1048576 < s.size
          · go_wp2
            (go_ret; exact ⟨false, rfl, (fun h => absurd h (by simp)), rfl⟩)
          by_cases h2 : 1048576 < x2.size + L6.length + sumSizes L6 + L7.length + t + s.size
          · go_wp2
            (go_ret; exact ⟨false, rfl, (fun h => absurd h (by simp)), rfl⟩)
          go_wp2
          go_round
          case rel => exact ⟨k + 1, by omega, by go_num, by rw [HS.out]; go_num, by rw [HS.out]; omega⟩
          case measure => simp [intOf]; omega
        · have he : k = L7.length := by omega
          subst he
          rw [List.take_length] at hacc ⊢
          go_wp2
          all_goals first
            | (go_ret; exact ⟨true, rfl, (fun _ => by omega), rfl⟩)
            | (go_ret; exact ⟨false, rfl, (fun h => absurd h (by simp)), rfl⟩)


end Go.Proofs.YtdljljnjijkbjaaFmt
