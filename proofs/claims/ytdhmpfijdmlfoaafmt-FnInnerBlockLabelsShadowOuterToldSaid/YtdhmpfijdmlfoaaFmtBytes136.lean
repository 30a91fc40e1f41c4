/- The contracts of the generated guards 'zzBytes_..': a bool comes back; where it is true the lengths sum to at most 2^20. -/
import Derived.Test.YtdhmpfijdmlfoaaFmtRows
import Derived.Test.YtdhmpfijdmlfoaaFmtMem
import Derived.WalkKit
import Derived.ProofKit
import Derived.WalkLawsBesides
import Derived.WalkSpells
import Derived.Handy
import Derived.Lib.Hide
namespace Go.Proofs.YtdhmpfijdmlfoaaFmt
open Go.RowKit
set_option linter.unusedVariables false


set_option maxRecDepth 100000 in
set_option maxHeartbeats 1000000 in
theorem zzB_FnResolveGotoTwiceIsOnce (a0 : Option Addr) (n0 c0 : Nat) (x1 : Int) (x2 : Int) (x3 : Int) (x4 : Int) (x5 : Int) (x6 : Int) (w : World) (m0 : n0 ≤ maxLen) :
    Calls Tryf.prog 9 #[.slice a0 n0 c0, .int .i64 x1, .int .i64 x2, .int .i64 x3, .int .i64 x4, .int .i64 x5, .int .i64 x6] w (SomeBool (n0 ≤ 1048576) w) := by
  unfold maxLen at m0
  have b9 : True := trivial
  go_enter Tryf.func9, Tryf.ntmps9
  go_wp2
  all_goals first
    | (go_ret; exact ⟨true, rfl, (fun _ => by omega), rfl⟩)
    | (go_ret; exact ⟨false, rfl, (fun h => absurd h (by simp)), rfl⟩)


set_option maxRecDepth 100000 in
set_option maxHeartbeats 1000000 in
theorem zzB_FnResolveGotoPatchesOnlyItsJump (a0 : Option Addr) (n0 c0 : Nat) (x1 : Int) (x2 : Int) (x3 : Int) (x4 : Int) (x5 : Int) (x6 : Int) (w : World) (m0 : n0 ≤ maxLen) :
    Calls Tryf.prog 20 #[.slice a0 n0 c0, .int .i64 x1, .int .i64 x2, .int .i64 x3, .int .i64 x4, .int .i64 x5, .int .i64 x6] w (SomeBool (n0 ≤ 1048576) w) := by
  unfold maxLen at m0
  have b9 : True := trivial
  go_enter Tryf.func20, Tryf.ntmps20
  go_wp2
  all_goals first
    | (go_ret; exact ⟨true, rfl, (fun _ => by omega), rfl⟩)
    | (go_ret; exact ⟨false, rfl, (fun h => absurd h (by simp)), rfl⟩)


set_option maxRecDepth 100000 in
set_option maxHeartbeats 1000000 in
theorem zzB_FnNamedLabelsMatchModel (a0 : Option Addr) (c0 : Nat) (L0 : List ByteArray) (a1 : Option Addr) (n1 c1 : Nat) (a2 : Option Addr) (n2 c2 : Nat) (a3 : Option Addr) (c3 : Nat) (L3 : List ByteArray) (w : World) (S0 : Strs w a0 L0) (m0 : L0.length ≤ maxLen) (z0 : ∀ s ∈ L0, s.size ≤ maxLen) (m1 : n1 ≤ maxLen) (m2 : n2 ≤ maxLen) (S3 : Strs w a3 L3) (m3 : L3.length ≤ maxLen) (z3 : ∀ s ∈ L3, s.size ≤ maxLen) :
    Calls Tryf.prog 27 #[.slice a0 L0.length c0, .slice a1 n1 c1, .slice a2 n2 c2, .slice a3 L3.length c3] w (SomeBool ((L0.length + sumSizes L0) + n1 + n2 + (L3.length + sumSizes L3) ≤ 1048576) w) := by
  unfold maxLen at m0
  unfold maxLen at m1
  unfold maxLen at m2
  unfold maxLen at m3
  have b9 : True := trivial
  go_enter Tryf.func27, Tryf.ntmps27
  go_wp2
  all_goals first
    | (go_ret; exact ⟨false, rfl, (fun h => absurd h (by simp)), rfl⟩)
    | skip
  go_loop [9, 10] (fun n i => ∃ k : Nat, k ≤ L0.length ∧ i = .int .i64 k ∧ n = .int .i64 ((L0.length + sumSizes (L0.take k) : Nat) : Int) ∧ L0.length + sumSizes (L0.take k) ≤ 1048576) (fun _ i => L0.length - (intOf i).toNat)
  case atStart => exact ⟨0, Nat.zero_le _, rfl, by simp [sumSizes_nil], by simp [sumSizes_nil]; omega⟩
  case round =>
    obtain ⟨k, hk, rfl, rfl, hacc⟩ := hrel
    by_cases hlt : k < L0.length
    · obtain ⟨b, off, rfl, hc⟩ := S0 k hlt
      have hsum := sumSizes_take_succ L0 k hlt
      generalize hs : L0.getD k ByteArray.empty = s at hc hsum
      have hsz : s.size ≤ maxLen := z0 s (by rw [← hs]; simp [List.getD, hlt])
      unfold maxLen at hsz
      generalize ht : sumSizes (L0.take k) = t at hacc hsum ⊢
      have HS := Lib.hid hsum
      have HT := Lib.hid ht
      have H := Lib.hid hs
      clear hsum ht hs S0
      by_cases h1 : 1048576 < s.size
      · go_wp2
        (go_ret; exact ⟨false, rfl, (fun h => absurd h (by simp)), rfl⟩)
      by_cases h2 : 1048576 < L0.length + t + s.size
      · go_wp2
        (go_ret; exact ⟨false, rfl, (fun h => absurd h (by simp)), rfl⟩)
      go_wp2
      go_round
      case rel => exact ⟨k + 1, by omega, by go_num, by rw [HS.out]; go_num, by rw [HS.out]; omega⟩
      case measure => simp [intOf]; omega
    · have he : k = L0.length := by omega
      subst he
      rw [List.take_length] at hacc ⊢
      go_wp2
      all_goals first
        | (go_ret; exact ⟨false, rfl, (fun h => absurd h (by simp)), rfl⟩)
        | skip
      go_loop [9, 11] (fun n i => ∃ k : Nat, k ≤ L3.length ∧ i = .int .i64 k ∧ n = .int .i64 ((L0.length + sumSizes L0 + n1 + n2 + L3.length + sumSizes (L3.take k) : Nat) : Int) ∧ L0.length + sumSizes L0 + n1 + n2 + L3.length + sumSizes (L3.take k) ≤ 1048576) (fun _ i => L3.length - (intOf i).toNat)
      case atStart => exact ⟨0, Nat.zero_le _, rfl, by simp [sumSizes_nil], by simp [sumSizes_nil]; omega⟩
      case round =>
        obtain ⟨k, hk, rfl, rfl, hacc⟩ := hrel
        by_cases hlt : k < L3.length
        · obtain ⟨b, off, rfl, hc⟩ := S3 k hlt
          have hsum := sumSizes_take_succ L3 k hlt
          generalize hs : L3.getD k ByteArray.empty = s at hc hsum
          have hsz : s.size ≤ maxLen := z3 s (by rw [← hs]; simp [List.getD, hlt])
          unfold maxLen at hsz
          generalize ht : sumSizes (L3.take k) = t at hacc hsum ⊢
          have HS := Lib.hid hsum
          have HT := Lib.hid ht
          have H := Lib.hid hs
          clear hsum ht hs S3
          by_cases h1 : 1048576 < s.size
          · go_wp2
            (go_ret; exact ⟨false, rfl, (fun h => absurd h (by simp)), rfl⟩)
          by_cases h2 : 1048576 < L0.length + sumSizes L0 + n1 + n2 + L3.length + t + s.size
          · go_wp2
            (go_ret; exact ⟨false, rfl, (fun h => absurd h (by simp)), rfl⟩)
          go_wp2
          go_round
          case rel => exact ⟨k + 1, by omega, by go_num, by rw [HS.out]; go_num, by rw [HS.out]; omega⟩
          case measure => simp [intOf]; omega
        · have he : k = L3.length := by omega
          subst he
          rw [List.take_length] at hacc ⊢
          go_wp2
          all_goals first
            | (go_ret; exact ⟨true, rfl, (fun _ => by omega), rfl⟩)
            | (go_ret; exact ⟨false, rfl, (fun h => absurd h (by simp)), rfl⟩)


set_option maxRecDepth 100000 in
set_option maxHeartbeats 1000000 in
theorem zzB_FnInnerBlockLabelsShadowOuter (a0 : Option Addr) (c0 : Nat) (L0 : List ByteArray) (a1 : Option Addr) (c1 : Nat) (L1 : List ByteArray) (a2 : Option Addr) (c2 : Nat) (L2 : List ByteArray) (w : World) (S0 : Strs w a0 L0) (m0 : L0.length ≤ maxLen) (z0 : ∀ s ∈ L0, s.size ≤ maxLen) (S1 : Strs w a1 L1) (m1 : L1.length ≤ maxLen) (z1 : ∀ s ∈ L1, s.size ≤ maxLen) (S2 : Strs w a2 L2) (m2 : L2.length ≤ maxLen) (z2 : ∀ s ∈ L2, s.size ≤ maxLen) :
    Calls Tryf.prog 21 #[.slice a0 L0.length c0, .slice a1 L1.length c1, .slice a2 L2.length c2] w (SomeBool ((L0.length + sumSizes L0) + (L1.length + sumSizes L1) + (L2.length + sumSizes L2) ≤ 1048576) w) := by
  unfold maxLen at m0
  unfold maxLen at m1
  unfold maxLen at m2
  have b9 : True := trivial
  go_enter Tryf.func21, Tryf.ntmps21
  go_wp2
  all_goals first
    | (go_ret; exact ⟨false, rfl, (fun h => absurd h (by simp)), rfl⟩)
    | skip
  go_loop [7, 8] (fun n i => ∃ k : Nat, k ≤ L0.length ∧ i = .int .i64 k ∧ n = .int .i64 ((L0.length + sumSizes (L0.take k) : Nat) : Int) ∧ L0.length + sumSizes (L0.take k) ≤ 1048576) (fun _ i => L0.length - (intOf i).toNat)
  case atStart => exact ⟨0, Nat.zero_le _, rfl, by simp [sumSizes_nil], by simp [sumSizes_nil]; omega⟩
  case round =>
    obtain ⟨k, hk, rfl, rfl, hacc⟩ := hrel
    by_cases hlt : k < L0.length
    · obtain ⟨b, off, rfl, hc⟩ := S0 k hlt
      have hsum := sumSizes_take_succ L0 k hlt
      generalize hs : L0.getD k ByteArray.empty = s at hc hsum
      have hsz : s.size ≤ maxLen := z0 s (by rw [← hs]; simp [List.getD, hlt])
      unfold maxLen at hsz
      generalize ht : sumSizes (L0.take k) = t at hacc hsum ⊢
      have HS := Lib.hid hsum
      have HT := Lib.hid ht
      have H := Lib.hid hs
      clear hsum ht hs S0
      by_cases h1 : 1048576 < s.size
      · go_wp2
        (go_ret; exact ⟨false, rfl, (fun h => absurd h (by simp)), rfl⟩)
      by_cases h2 : 1048576 < L0.length + t + s.size
      · go_wp2
        (go_ret; exact ⟨false, rfl, (fun h => absurd h (by simp)), rfl⟩)
      go_wp2
      go_round
      case rel => exact ⟨k + 1, by omega, by go_num, by rw [HS.out]; go_num, by rw [HS.out]; omega⟩
      case measure => simp [intOf]; omega
    · have he : k = L0.length := by omega
      subst he
      rw [List.take_length] at hacc ⊢
      go_wp2
      all_goals first
        | (go_ret; exact ⟨false, rfl, (fun h => absurd h (by simp)), rfl⟩)
        | skip
      go_loop [7, 9] (fun n i => ∃ k : Nat, k ≤ L1.length ∧ i = .int .i64 k ∧ n = .int .i64 ((L0.length + sumSizes L0 + L1.length + sumSizes (L1.take k) : Nat) : Int) ∧ L0.length + sumSizes L0 + L1.length + sumSizes (L1.take k) ≤ 1048576) (fun _ i => L1.length - (intOf i).toNat)
      case atStart => exact ⟨0, Nat.zero_le _, rfl, by simp [sumSizes_nil], by simp [sumSizes_nil]; omega⟩
      case round =>
        obtain ⟨k, hk, rfl, rfl, hacc⟩ := hrel
        by_cases hlt : k < L1.length
        · obtain ⟨b, off, rfl, hc⟩ := S1 k hlt
          have hsum := sumSizes_take_succ L1 k hlt
          generalize hs : L1.getD k ByteArray.empty = s at hc hsum
          have hsz : s.size ≤ maxLen := z1 s (by rw [← hs]; simp [List.getD, hlt])
          unfold maxLen at hsz
          generalize ht : sumSizes (L1.take k) = t at hacc hsum ⊢
          have HS := Lib.hid hsum
          have HT := Lib.hid ht
          have H := Lib.hid hs
          clear hsum ht hs S1
          by_cases h1 : 1048576 < s.size
          · go_wp2
            (go_ret; exact ⟨false, rfl, (fun h => absurd h (by simp)), rfl⟩)
          by_cases h2 : 1048576 < L0.length + sumSizes L0 + L1.length + t + s.size
          · go_wp2
            (go_ret; exact ⟨false, rfl, (fun h => absurd h (by simp)), rfl⟩)
          go_wp2
          go_round
          case rel => exact ⟨k + 1, by omega, by go_num, by rw [HS.out]; go_num, by rw [HS.out]; omega⟩
          case measure => simp [intOf]; omega
        · have he : k = L1.length := by omega
          subst he
          rw [List.take_length] at hacc ⊢
          go_wp2
          all_goals first
            | (go_ret; exact ⟨false, rfl, (fun h => absurd h (by simp)), rfl⟩)
            | skip
          go_loop [7, 10] (fun n i => ∃ k : Nat, k ≤ L2.length ∧ i = .int .i64 k ∧ n = .int .i64 ((L0.length + sumSizes L0 + L1.length + sumSizes L1 + L2.length + sumSizes (L2.take k) : Nat) : Int) ∧ L0.length + sumSizes L0 + L1.length + sumSizes L1 + L2.length + sumSizes (L2.take k) ≤ 1048576) (fun _ i => L2.length - (intOf i).toNat)
          case atStart => exact ⟨0, Nat.zero_le _, rfl, by simp [sumSizes_nil], by simp [sumSizes_nil]; omega⟩
          case round =>
            obtain ⟨k, hk, rfl, rfl, hacc⟩ := hrel
            by_cases hlt : k < L2.length
            · obtain ⟨b, off, rfl, hc⟩ := S2 k hlt
              have hsum := sumSizes_take_succ L2 k hlt
              generalize hs : L2.getD k ByteArray.empty = s at hc hsum
              have hsz : s.size ≤ maxLen := z2 s (by rw [← hs]; simp [List.getD, hlt])
              unfold maxLen at hsz
              generalize ht : sumSizes (L2.take k) = t at hacc hsum ⊢
              have HS := Lib.hid hsum
              have HT := Lib.hid ht
              have H := Lib.hid hs
              clear hsum ht hs S2
              by_cases h1 : 1048576 < s.size
              · go_wp2
                (go_ret; exact ⟨false, rfl, (fun h => absurd h (by simp)), rfl⟩)
              by_cases h2 : 1048576 < L0.length + sumSizes L0 + L1.length + sumSizes L1 + L2.length + t + s.size
              · go_wp2
                (go_ret; exact ⟨false, rfl, (fun h => absurd h (by simp)), rfl⟩)
              go_wp2
              go_round
              case rel => exact ⟨k + 1, by omega, by go_num, by rw [HS.out]; go_num, by rw [HS.out]; omega⟩
              case measure => simp [intOf]; omega
            · have he : k = L2.length := by omega
              subst he
              rw [List.take_length] at hacc ⊢
              go_wp2
              all_goals first
                | (go_ret; exact ⟨true, rfl, (fun _ => by omega), rfl⟩)
                | (go_ret; exact ⟨false, rfl, (fun h => absurd h (by simp)), rfl⟩)


set_option maxRecDepth 100000 in
set_option maxHeartbeats 1000000 in
theorem zzB_FnFindLabelCaseTable (a0 : Option Addr) (c0 : Nat) (L0 : List ByteArray) (a1 : Option Addr) (n1 c1 : Nat) (a2 : Option Addr) (n2 c2 : Nat) (a3 : Option Addr) (n3 c3 : Nat) (x4 : ByteArray) (x5 : Int) (x6 : Int) (x7 : Bool) (w : World) (S0 : Strs w a0 L0) (m0 : L0.length ≤ maxLen) (z0 : ∀ s ∈ L0, s.size ≤ maxLen) (m1 : n1 ≤ maxLen) (m2 : n2 ≤ maxLen) (m3 : n3 ≤ maxLen) (m4 : x4.size ≤ maxLen) :
    Calls Tryf.prog 30 #[.slice a0 L0.length c0, .slice a1 n1 c1, .slice a2 n2 c2, .slice a3 n3 c3, .string x4, .int .i64 x5, .int .i64 x6, .bool x7] w (SomeBool ((L0.length + sumSizes L0) + n1 + n2 + n3 + x4.size ≤ 1048576) w) := by
  unfold maxLen at m0
  unfold maxLen at m1
  unfold maxLen at m2
  unfold maxLen at m3
  unfold maxLen at m4
  have b9 : True := trivial
  go_enter Tryf.func30, Tryf.ntmps30
  go_wp2
  all_goals first
    | (go_ret; exact ⟨false, rfl, (fun h => absurd h (by simp)), rfl⟩)
    | skip
  go_loop [17, 18] (fun n i => ∃ k : Nat, k ≤ L0.length ∧ i = .int .i64 k ∧ n = .int .i64 ((L0.length + sumSizes (L0.take k) : Nat) : Int) ∧ L0.length + sumSizes (L0.take k) ≤ 1048576) (fun _ i => L0.length - (intOf i).toNat)
  case atStart => exact ⟨0, Nat.zero_le _, rfl, by simp [sumSizes_nil], by simp [sumSizes_nil]; omega⟩
  case round =>
    obtain ⟨k, hk, rfl, rfl, hacc⟩ := hrel
    by_cases hlt : k < L0.length
    · obtain ⟨b, off, rfl, hc⟩ := S0 k hlt
      have hsum := sumSizes_take_succ L0 k hlt
      generalize hs : L0.getD k ByteArray.empty = s at hc hsum
      have hsz : s.size ≤ maxLen := z0 s (by rw [← hs]; simp [List.getD, hlt])
      unfold maxLen at hsz
      generalize ht : sumSizes (L0.take k) = t at hacc hsum ⊢
      have HS := Lib.hid hsum
      have HT := Lib.hid ht
      have H := Lib.hid hs
      clear hsum ht hs S0
      by_cases h1 : 1048576 < s.size
      · go_wp2
        (go_ret; exact ⟨false, rfl, (fun h => absurd h (by simp)), rfl⟩)
      by_cases h2 : 1048576 < L0.length + t + s.size
      · go_wp2
        (go_ret; exact ⟨false, rfl, (fun h => absurd h (by simp)), rfl⟩)
      go_wp2
      go_round
      case rel => exact ⟨k + 1, by omega, by go_num, by rw [HS.out]; go_num, by rw [HS.out]; omega⟩
      case measure => simp [intOf]; omega
    · have he : k = L0.length := by omega
      subst he
      rw [List.take_length] at hacc ⊢
      go_wp2
      all_goals first
        | (go_ret; exact ⟨true, rfl, (fun _ => by omega), rfl⟩)
        | (go_ret; exact ⟨false, rfl, (fun h => absurd h (by simp)), rfl⟩)


set_option maxRecDepth 100000 in
set_option maxHeartbeats 1000000 in
theorem zzB_FnFindLabelRepeatIsStable (a0 : Option Addr) (c0 : Nat) (L0 : List ByteArray) (a1 : Option Addr) (n1 c1 : Nat) (a2 : Option Addr) (n2 c2 : Nat) (a3 : Option Addr) (n3 c3 : Nat) (x4 : ByteArray) (x5 : Int) (x6 : Int) (x7 : Bool) (w : World) (S0 : Strs w a0 L0) (m0 : L0.length ≤ maxLen) (z0 : ∀ s ∈ L0, s.size ≤ maxLen) (m1 : n1 ≤ maxLen) (m2 : n2 ≤ maxLen) (m3 : n3 ≤ maxLen) (m4 : x4.size ≤ maxLen) :
    Calls Tryf.prog 15 #[.slice a0 L0.length c0, .slice a1 n1 c1, .slice a2 n2 c2, .slice a3 n3 c3, .string x4, .int .i64 x5, .int .i64 x6, .bool x7] w (SomeBool ((L0.length + sumSizes L0) + n1 + n2 + n3 + x4.size ≤ 1048576) w) := by
  unfold maxLen at m0
  unfold maxLen at m1
  unfold maxLen at m2
  unfold maxLen at m3
  unfold maxLen at m4
  have b9 : True := trivial
  go_enter Tryf.func15, Tryf.ntmps15
  go_wp2
  all_goals first
    | (go_ret; exact ⟨false, rfl, (fun h => absurd h (by simp)), rfl⟩)
    | skip
  go_loop [17, 18] (fun n i => ∃ k : Nat, k ≤ L0.length ∧ i = .int .i64 k ∧ n = .int .i64 ((L0.length + sumSizes (L0.take k) : Nat) : Int) ∧ L0.length + sumSizes (L0.take k) ≤ 1048576) (fun _ i => L0.length - (intOf i).toNat)
  case atStart => exact ⟨0, Nat.zero_le _, rfl, by simp [sumSizes_nil], by simp [sumSizes_nil]; omega⟩
  case round =>
    obtain ⟨k, hk, rfl, rfl, hacc⟩ := hrel
    by_cases hlt : k < L0.length
    · obtain ⟨b, off, rfl, hc⟩ := S0 k hlt
      have hsum := sumSizes_take_succ L0 k hlt
      generalize hs : L0.getD k ByteArray.empty = s at hc hsum
      have hsz : s.size ≤ maxLen := z0 s (by rw [← hs]; simp [List.getD, hlt])
      unfold maxLen at hsz
      generalize ht : sumSizes (L0.take k) = t at hacc hsum ⊢
      have HS := Lib.hid hsum
      have HT := Lib.hid ht
      have H := Lib.hid hs
      clear hsum ht hs S0
      by_cases h1 : 1048576 < s.size
      · go_wp2
        (go_ret; exact ⟨false, rfl, (fun h => absurd h (by simp)), rfl⟩)
      by_cases h2 : 1048576 < L0.length + t + s.size
      · go_wp2
        (go_ret; exact ⟨false, rfl, (fun h => absurd h (by simp)), rfl⟩)
      go_wp2
      go_round
      case rel => exact ⟨k + 1, by omega, by go_num, by rw [HS.out]; go_num, by rw [HS.out]; omega⟩
      case measure => simp [intOf]; omega
    · have he : k = L0.length := by omega
      subst he
      rw [List.take_length] at hacc ⊢
      go_wp2
      all_goals first
        | (go_ret; exact ⟨true, rfl, (fun _ => by omega), rfl⟩)
        | (go_ret; exact ⟨false, rfl, (fun h => absurd h (by simp)), rfl⟩)


end Go.Proofs.YtdhmpfijdmlfoaaFmt
