/- The contracts of zzBytes and zzPrefix. -/
import Derived.Test.YtdljljnjijkbjaaFmtHelp15
namespace Go.Proofs.YtdljljnjijkbjaaFmt
open Go.RowKit Go.Kit Go.Extern.Stop Go.Stop Go.Extern
set_option linter.unusedVariables false

theorem sumSizes_take_le (L : List ByteArray) (k : Nat) : sumSizes (L.take k) ≤ sumSizes L := by
  have : sumSizes L = sumSizes (L.take k) + sumSizes (L.drop k) := by
    unfold sumSizes
    rw [← List.sum_append, ← List.map_append, List.take_append_drop]
  omega
theorem at_of_list (s : ByteArray) (k : Nat) (h : k < s.size) : s.data.toList[k]? = some s[k] := by
  rw [List.getElem?_eq_getElem (by simpa using h), Array.getElem_toList]
  rfl

def SomeInt (w : World) (e : Ending) (w' : World) : Prop := ∃ n : Int, e = .returned (.int .i64 n) ∧ -9223372036854775808 ≤ n ∧ n ≤ 9223372036854775807 ∧ w = w'

set_option maxRecDepth 100000 in
set_option maxHeartbeats 1000000 in
theorem zzBytes_any (x : ByteArray) (a1 : Option Addr) (c1 : Nat) (L1 : List ByteArray) (a2 : Option Addr) (c2 : Nat) (L2 : List ByteArray) (w : World) (S1 : Strs w a1 L1) (S2 : Strs w a2 L2) (hx : x.size ≤ 1048576) (h1 : L1.length ≤ 4096) (h2 : L2.length ≤ 4096) (b1 : sumSizes L1 ≤ 1048576) (b2 : sumSizes L2 ≤ 1048576) :
    Calls Tryf.prog 11 #[.string x, .slice a1 L1.length c1, .slice a2 L2.length c2] w (SomeInt w) := by
  go_enter Tryf.func11, Tryf.ntmps11
  go_wp2
  go_loop [7, 8] (fun n i => ∃ k B : Nat, k ≤ L1.length ∧ i = .int .i64 k ∧ n = .int .i64 (B : Int) ∧ B ≤ 1179648 + sumSizes (L1.take k)) (fun _ i => L1.length - (intOf i).toNat)
  case atStart => exact ⟨0, x.size + 16 * L1.length + 16 * L2.length, Nat.zero_le _, rfl, by go_num, by omega⟩
  case round =>
    obtain ⟨k, B, hk, rfl, rfl, hB⟩ := hrel
    by_cases hkl : k < L1.length
    · obtain ⟨b, off, rfl, hc⟩ := S1 k hkl
      have hsum := sumSizes_take_succ L1 k hkl
      have hm := sumSizes_mem (L := L1) (s := L1.getD k ByteArray.empty) (by simp [List.getD, hkl])
      have hlt : sumSizes (L1.take k) ≤ 1048576 := Nat.le_trans (sumSizes_take_le L1 k) b1
      generalize L1.getD k ByteArray.empty = s at hc hsum hm
      generalize sumSizes (L1.take k) = t at hB hsum hlt
      have HS := Lib.hid hsum
      clear hsum S1
      go_wp2
      go_round
      case rel => exact ⟨k + 1, B + s.size, by omega, by go_num, by go_num, by rw [HS.out]; omega⟩
      case measure => simp [intOf]; omega
    · have he : k = L1.length := by omega
      subst he
      rw [List.take_length] at hB
      have hB' : B ≤ 2228224 := by omega
      clear hB
      go_wp2
      go_loop [7, 9] (fun n i => ∃ k D : Nat, k ≤ L2.length ∧ i = .int .i64 k ∧ n = .int .i64 (D : Int) ∧ D ≤ 2228224 + sumSizes (L2.take k)) (fun _ i => L2.length - (intOf i).toNat)
      case atStart => exact ⟨0, B, Nat.zero_le _, rfl, rfl, by omega⟩
      case round =>
        obtain ⟨k, D, hk, rfl, rfl, hD⟩ := hrel
        by_cases hkl : k < L2.length
        · obtain ⟨b, off, rfl, hc⟩ := S2 k hkl
          have hsum := sumSizes_take_succ L2 k hkl
          have hm := sumSizes_mem (L := L2) (s := L2.getD k ByteArray.empty) (by simp [List.getD, hkl])
          have hlt : sumSizes (L2.take k) ≤ 1048576 := Nat.le_trans (sumSizes_take_le L2 k) b2
          generalize L2.getD k ByteArray.empty = s at hc hsum hm
          generalize sumSizes (L2.take k) = t at hD hsum hlt
          have HS := Lib.hid hsum
          clear hsum S2
          go_wp2
          go_round
          case rel => exact ⟨k + 1, D + s.size, by omega, by go_num, by go_num, by rw [HS.out]; omega⟩
          case measure => simp [intOf]; omega
        · have he : k = L2.length := by omega
          subst he
          rw [List.take_length] at hD
          go_wp2
          go_ret
          exact ⟨D, rfl, by omega, by omega, rfl⟩

set_option maxRecDepth 100000 in
set_option maxHeartbeats 1000000 in
theorem zzPrefix_any (s p : ByteArray) (w : World) (hs : s.size ≤ 140737488355328) (hp : ∃ r, s.data.toList = p.data.toList ++ r) :
    Calls Tryf.prog 16 #[.string s, .string p] w fun e w' => e = .returned (.bool true) ∧ ∃ q, w.drewN q = w' := by
  have hle : p.size ≤ s.size := by
    obtain ⟨r, hr⟩ := hp
    have := congrArg List.length hr
    simp at this
    omega
  have hat : ∀ k (h1 : k < s.size) (h2 : k < p.size), s[k].toNat = p[k].toNat := by
    obtain ⟨r, hr⟩ := hp
    intro k h1 h2
    have e1 := at_of_list s k h1
    rw [hr, List.getElem?_append_left (by simpa using h2), at_of_list p k h2] at e1
    injection e1 with e1
    rw [e1]
  have HP := Lib.hid hat
  clear hat hp
  go_enter Tryf.func16, Tryf.ntmps16
  go_wp2
  go_loopw [5] (fun i wr => ∃ k q : Nat, k ≤ p.size ∧ i = .int .i64 k ∧ w.drewN q = wr) (fun i _ => p.size - (intOf i).toNat)
  case atStart => exact ⟨0, 0, Nat.zero_le _, rfl, rfl⟩
  case round =>
    obtain ⟨k, q, hk, rfl, rfl⟩ := hrel
    by_cases hkl : k < p.size
    · have hks : k < s.size := by omega
      go_wp2
      go_quiet (fail)
      go_wp2
      · exfalso
        have h : ((s[k].toNat : Int) != (p[k].toNat : Int)) = true := by assumption
        rw [HP.out k hks hkl] at h
        simp at h
      · go_roundw
        case rel => exact ⟨k + 1, q + nq, by omega, by go_num, rfl⟩
        case measure => simp [intOf]; omega
    · go_wp2
      go_ret
      exact ⟨rfl, q, rfl⟩
end Go.Proofs.YtdljljnjijkbjaaFmt
