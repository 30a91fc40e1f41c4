/- The contracts of the generated guards 'zzBytes_..': a bool comes back; where it is true the lengths sum to at most 2^20. -/
import Derived.Test.YthgdlgghdfikmaaRows
import Derived.Test.YthgdlgghdfikmaaMem
import Derived.WalkKit
import Derived.ProofKit
import Derived.WalkLawsBesides
import Derived.WalkSpells
import Derived.Handy
import Derived.Lib.Hide
namespace Go.Proofs.Ythgdlgghdfikmaa
open Go.RowKit
set_option linter.unusedVariables false


set_option maxRecDepth 100000 in
set_option maxHeartbeats 1000000 in
theorem zzB_FnFlagScannerScriptBuildsConcatenation (x0 : Int) (x1 : ByteArray) (x2 : ByteArray) (x3 : ByteArray) (a4 : Option Addr) (c4 : Nat) (L4 : List ByteArray) (a5 : Option Addr) (n5 c5 : Nat) (a6 : Option Addr) (n6 c6 : Nat) (w : World) (m1 : x1.size ≤ maxLen) (m2 : x2.size ≤ maxLen) (m3 : x3.size ≤ maxLen) (S4 : Strs w a4 L4) (m4 : L4.length ≤ maxLen) (z4 : ∀ s ∈ L4, s.size ≤ maxLen) (m5 : n5 ≤ maxLen) (m6 : n6 ≤ maxLen) :
    Calls Try.prog 4 #[.int .u8 x0, .string x1, .string x2, .string x3, .slice a4 L4.length c4, .slice a5 n5 c5, .slice a6 n6 c6] w (SomeBool (x1.size + x2.size + x3.size + (L4.length + sumSizes L4) + n5 + n6 ≤ 1048576) w) := by
  unfold maxLen at m1
  unfold maxLen at m2
  unfold maxLen at m3
  unfold maxLen at m4
  unfold maxLen at m5
  unfold maxLen at m6
  have b9 : True := trivial
  go_enter Try.func4, Try.ntmps4
  go_wp2
  all_goals first
    | (go_ret; exact ⟨false, rfl, (fun h => absurd h (by simp)), rfl⟩)
    | skip
  go_loop [15, 16] (fun n i => ∃ k : Nat, k ≤ L4.length ∧ i = .int .i64 k ∧ n = .int .i64 ((x1.size + x2.size + x3.size + L4.length + sumSizes (L4.take k) : Nat) : Int) ∧ x1.size + x2.size + x3.size + L4.length + sumSizes (L4.take k) ≤ 1048576) (fun _ i => L4.length - (intOf i).toNat)
  case atStart => exact ⟨0, Nat.zero_le _, rfl, by simp [sumSizes_nil], by simp [sumSizes_nil]; omega⟩
  case round =>
    obtain ⟨k, hk, rfl, rfl, hacc⟩ := hrel
    by_cases hlt : k < L4.length
    · obtain ⟨b, off, rfl, hc⟩ := S4 k hlt
      have hsum := sumSizes_take_succ L4 k hlt
      generalize hs : L4.getD k ByteArray.empty = s at hc hsum
      have hsz : s.size ≤ maxLen := z4 s (by rw [← hs]; simp [List.getD, hlt])
      unfold maxLen at hsz
      generalize ht : sumSizes (L4.take k) = t at hacc hsum ⊢
      have HS := Lib.hid hsum
      have HT := Lib.hid ht
      have H := Lib.hid hs
      clear hsum ht hs S4
      by_cases h1 : 1048576 < s.size
      · go_wp2
        (go_ret; exact ⟨false, rfl, (fun h => absurd h (by simp)), rfl⟩)
      by_cases h2 : 1048576 < x1.size + x2.size + x3.size + L4.length + t + s.size
      · go_wp2
        (go_ret; exact ⟨false, rfl, (fun h => absurd h (by simp)), rfl⟩)
      go_wp2
      go_round
      case rel => exact ⟨k + 1, by omega, by go_num, by rw [HS.out]; go_num, by rw [HS.out]; omega⟩
      case measure => simp [intOf]; omega
    · have he : k = L4.length := by omega
      subst he
      rw [List.take_length] at hacc ⊢
      go_wp2
      all_goals first
        | (go_ret; exact ⟨true, rfl, (fun _ => by omega), rfl⟩)
        | (go_ret; exact ⟨false, rfl, (fun h => absurd h (by simp)), rfl⟩)


end Go.Proofs.Ythgdlgghdfikmaa
