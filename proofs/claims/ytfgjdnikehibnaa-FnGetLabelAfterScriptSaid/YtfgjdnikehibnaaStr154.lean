/- The contracts of the laws' own helpers on slices of strings: zzStrBytesOK, zzCloneStrs, zzFirst, zzFirstOf. -/
import Derived.Test.YtfgjdnikehibnaaRows
import Derived.Test.YtfgjdnikehibnaaMem
import Derived.WalkKit
import Derived.ProofKit
import Derived.WalkLawsBesides
import Derived.WalkSpells
import Derived.Handy
import Derived.Lib.Hide
import Derived.Deep.QuietTactic
import Derived.BigQuiet
namespace Go.Proofs.Ytfgjdnikehibnaa
open Go.RowKit
set_option linter.unusedVariables false

theorem infoStr : (Try.prog.info? 9).map (fun i => (i.zero, i.size, i.bytes)) = some (some (.string ByteArray.empty), 1, 16) := by kernel_rfl

set_option maxRecDepth 100000 in
set_option maxHeartbeats 1000000 in
theorem strBytesOK_any (a : Option Addr) (c : Nat) (L : List ByteArray) (w : World) (S : Strs w a L) (m : L.length ≤ maxLen) (z : ∀ s ∈ L, s.size ≤ maxLen) :
    Calls Try.prog 9 #[.slice a L.length c] w (SomeBool (L.length ≤ 65536 ∧ 16 * L.length + sumSizes L ≤ 1048576) w) := by
  unfold maxLen at m
  by_cases h0 : 65536 < L.length
  · go_enter Try.func9, Try.ntmps9
    go_wp2
    go_ret
    exact ⟨false, rfl, (fun h => absurd h (by simp)), rfl⟩
  go_enter Try.func9, Try.ntmps9
  go_wp2
  all_goals first
    | (go_ret; exact ⟨false, rfl, (fun h => absurd h (by simp)), rfl⟩)
    | skip
  go_loop [3, 4] (fun n i => ∃ k : Nat, k ≤ L.length ∧ i = .int .i64 k ∧ n = .int .i64 ((16 * L.length + sumSizes (L.take k) : Nat) : Int) ∧ 16 * L.length + sumSizes (L.take k) ≤ 1048576) (fun _ i => L.length - (intOf i).toNat)
  case atStart => exact ⟨0, Nat.zero_le _, rfl, by simp [sumSizes_nil], by simp [sumSizes_nil]; omega⟩
  case round =>
    obtain ⟨k, hk, rfl, rfl, hacc⟩ := hrel
    by_cases hlt : k < L.length
    · obtain ⟨b, off, rfl, hc⟩ := S k hlt
      have hsum := sumSizes_take_succ L k hlt
      generalize hs : L.getD k ByteArray.empty = s at hc hsum
      have hsz : s.size ≤ maxLen := z s (by rw [← hs]; simp [List.getD, hlt])
      unfold maxLen at hsz
      generalize ht : sumSizes (L.take k) = t at hacc hsum ⊢
      have HS := Lib.hid hsum
      have HT := Lib.hid ht
      have H := Lib.hid hs
      clear hsum ht hs S
      by_cases h1 : 1048576 < s.size
      · go_wp2
        (go_ret; exact ⟨false, rfl, (fun h => absurd h (by simp)), rfl⟩)
      by_cases h2 : 1048576 < 16 * L.length + t + s.size
      · go_wp2
        (go_ret; exact ⟨false, rfl, (fun h => absurd h (by simp)), rfl⟩)
      go_wp2
      go_round
      case rel => exact ⟨k + 1, by omega, by go_num, by rw [HS.out]; go_num, by rw [HS.out]; omega⟩
      case measure => simp [intOf]; omega
    · have he : k = L.length := by omega
      subst he
      rw [List.take_length] at hacc ⊢
      go_wp2
      go_ret
      exact ⟨true, rfl, (fun _ => by omega), rfl⟩

/-- a fresh copy of a slice of strings comes back -/
def Cloned (L : List ByteArray) (w : World) (e : Ending) (w' : World) : Prop :=
  ∃ ao cap, e = .returned (.slice ao L.length cap) ∧ Strs w' ao L ∧ (∀ x, ao = some x → w.heap.size ≤ x.block ∧ x.block < w'.heap.size) ∧ Below w.heap.size w w'

theorem list_store (L : List ByteArray) (k : Nat) (h : k < L.length) :
    ((L.take k).map Value.string ++ List.replicate (L.length - k) (Value.string ByteArray.empty)).set k (.string (L.getD k ByteArray.empty)) = (L.take (k + 1)).map Value.string ++ List.replicate (L.length - (k + 1)) (Value.string ByteArray.empty) := by
  have hr : List.replicate (L.length - k) (Value.string ByteArray.empty) = Value.string ByteArray.empty :: List.replicate (L.length - (k + 1)) (Value.string ByteArray.empty) := by
    rw [show L.length - k = (L.length - (k + 1)) + 1 from by omega, List.replicate_succ]
  have hl : ((L.take k).map Value.string).length = k := by simp; omega
  rw [hr, List.set_append_right _ _ (by omega), hl, Nat.sub_self, List.set_cons_zero, List.take_succ_eq_append_getElem h, List.map_append, List.append_assoc]
  simp [List.getD, h]

theorem strs_of_owned {w : World} {β : Nat} {e : TypeId} {g cap : Nat} {L : List ByteArray} (h : w.ownsRow β e 1 (.slice (some ⟨g, 0, none⟩) L.length cap) L.length (L.map Value.string)) : Strs w (some ⟨g, 0, none⟩) L := by
  intro k hk
  refine ⟨g, 0, rfl, ?_⟩
  rw [Nat.zero_add, h.cellAt k (by omega)]
  simp [List.getD, hk]

set_option maxRecDepth 100000 in
set_option maxHeartbeats 1000000 in
theorem clone_any (a : Option Addr) (c : Nat) (L : List ByteArray) (w : World) (S : Strs w a L) (m : L.length ≤ 1048576) (hn : a = none → L.length = 0 ∧ c = 0) :
    Calls Try.prog 10 #[.slice a L.length c] w (Cloned L w) := by
  obtain ⟨i0, hi, hz0, hz1, hz2⟩ := info_parts infoStr
  have hnil := fun wx => Lib.run_eql_slice_nil (P := Try.prog) wx 22 9 a L.length c 0 0 Try.underlying22
  cases ha : a with
  | none =>
    obtain ⟨h0, hc⟩ := hn ha
    have hL : L = [] := List.eq_nil_of_length_eq_zero h0
    subst hL ha hc
    clear hn hnil
    have hnil := fun wx => Lib.run_eql_slice_nil (P := Try.prog) wx 22 9 none 0 0 0 0 Try.underlying22
    show Calls Try.prog 10 #[.slice none 0 0] w (Cloned [] w)
    go_enter Try.func10, Try.ntmps10
    go_wp2
    go_ret
    exact ⟨none, 0, rfl, (fun k hk => absurd hk (by simp)), (fun x hx => by cases hx), Below.refl _ _⟩
  | some x =>
    subst ha
    clear hn
    go_enter Try.func10, Try.ntmps10
    go_wp2_with (at_make; refine wpList_make_full _ rfl _ _ 22 rfl w.heap.size 9 i0 (.string ByteArray.empty) 1 Try.underlying22 hi hz0 hz1 .i64 .i64 _ _ L.length rfl rfl rfl rfl ?c2 ?c3 ?c4 ?_)
    case c2 => rw [hz2]; omega
    case c3 => unfold maxLen; omega
    case c4 => simp
    intro w1 hown hgrow
    go_wp2
    have hb1 : Below w.heap.size w w1 := (Below.refl _ _).grown hgrow (Nat.le_refl _) (fun _ h => by cases h)
    have hown1 : w1.ownsRow w.heap.size 9 1 (.slice (some ⟨w.heap.size, 0, none⟩) L.length L.length) L.length ((L.take 0).map Value.string ++ List.replicate (L.length - 0) (Value.string ByteArray.empty)) := by
      have e : (madeCells #[Value.string ByteArray.empty] L.length).toList = (L.take 0).map Value.string ++ List.replicate (L.length - 0) (Value.string ByteArray.empty) := by
        rw [toList_madeCells_one]; simp
      rw [← e]; exact hown
    clear hown hgrow
    go_loopw [4] (fun i wr => ∃ k : Nat, k ≤ L.length ∧ i = .int .i64 k ∧ wr.ownsRow w.heap.size 9 1 (.slice (some ⟨w.heap.size, 0, none⟩) L.length L.length) L.length ((L.take k).map Value.string ++ List.replicate (L.length - k) (Value.string ByteArray.empty)) ∧ Below w.heap.size w wr) (fun i _ => L.length - (intOf i).toNat)
    case atStart => exact ⟨0, Nat.zero_le _, rfl, hown1, hb1⟩
    case round =>
      clear hown1 hb1
      obtain ⟨k, hk, rfl, hown, hbel⟩ := hrel
      by_cases hlt : k < L.length
      · obtain ⟨b, off, hx, hc⟩ := S k hlt
        have hst := list_store L k hlt
        obtain rfl : x = ⟨b, off, none⟩ := by simpa using hx
        clear hx S
        have hcr : wr.cell? ⟨b, off + k, none⟩ = some (.string (L.getD k ByteArray.empty)) := (hbel.cell (World.block_lt_of_cell? _ _ hc)).trans hc
        have hd : ∃ u, wr.cell? ⟨w.heap.size, k, none⟩ = some u := by
          rw [hown.cellAt k (by omega)]
          exact ⟨_, List.getElem?_eq_getElem (by simp; omega)⟩
        obtain ⟨u, hu⟩ := hd
        have hf := hown.frozenAt k
        have hown2 := hown.stored k (.string (L.getD k ByteArray.empty))
        rw [hst] at hown2
        generalize hs : L.getD k ByteArray.empty = s at hcr hown2
        have HS := Lib.hid hs
        clear hs hst hc
        go_wp2
        go_roundw
        case rel => exact ⟨k + 1, by omega, by go_num, hown2.1, hbel.setCell (Nat.le_refl _) _⟩
        case measure => simp [intOf]; omega
      · have he : k = L.length := by omega
        subst he
        rw [List.take_length, Nat.sub_self, List.replicate_zero, List.append_nil] at hown
        go_wp2
        go_ret
        exact ⟨some ⟨w.heap.size, 0, none⟩, L.length, rfl, strs_of_owned hown, (fun y hy => by cases hy; exact ⟨Nat.le_refl _, (hown.lt _ rfl).2⟩), hbel⟩

/-- r: the first place up to i that holds what i holds -/
def IsFirst (L : List ByteArray) (i r : Nat) : Prop := r ≤ i ∧ L.getD r ByteArray.empty = L.getD i ByteArray.empty ∧ ∀ t, t < r → L.getD t ByteArray.empty ≠ L.getD i ByteArray.empty
/-- the first place comes back; the world stands but for draws -/
def FirstIs (L : List ByteArray) (i : Nat) (w : World) (e : Ending) (w' : World) : Prop := ∃ r q : Nat, e = .returned (.int .i64 r) ∧ IsFirst L i r ∧ w.drewN q = w'

theorem bytes_eq_of {a b : ByteArray} (h : (a.toList == b.toList) = true) : a = b := by
  have h1 : a.toList = b.toList := by simpa using h
  rw [ByteArray.toList_eq, ByteArray.toList_eq] at h1
  have h2 : a.data = b.data := Array.ext' h1
  cases a
  cases b
  exact congrArg ByteArray.mk h2

set_option maxRecDepth 100000 in
set_option maxHeartbeats 1000000 in
theorem first_any (a : Option Addr) (c : Nat) (L : List ByteArray) (i : Nat) (hi : i < L.length) (w : World) (S : Strs w a L) (m : L.length ≤ 1048576) :
    Calls Try.prog 20 #[.slice a L.length c, .int .i64 i] w (FirstIs L i w) := by
  obtain ⟨b, off, rfl, hci⟩ := S i hi
  go_enter Try.func20, Try.ntmps20
  go_wp2
  go_loopw [5] (fun j wr => ∃ k q : Nat, k ≤ i ∧ j = .int .i64 k ∧ (∀ t, t < k → L.getD t ByteArray.empty ≠ L.getD i ByteArray.empty) ∧ w.drewN q = wr) (fun j _ => i - (intOf j).toNat)
  case atStart => exact ⟨0, 0, Nat.zero_le _, rfl, (fun t ht => absurd ht (by omega)), rfl⟩
  case round =>
    obtain ⟨k, q, hk, rfl, hne, rfl⟩ := hrel
    have HN := Lib.hid hne
    clear hne
    by_cases hlt : k < i
    · obtain ⟨b', off', he, hck⟩ := S k (by omega)
      have e2 : b' = b ∧ off' = off := by simpa using he.symm
      obtain ⟨rfl, rfl⟩ := e2
      clear he S
      generalize hs : L.getD k ByteArray.empty = s at hck
      generalize ht : L.getD i ByteArray.empty = t at hci HN
      have HS := Lib.hid hs
      have HT := Lib.hid ht
      clear hs ht
      have z1 : (0 : Int) ≤ (k : Int) := by omega
      have z2 : (k : Int) < (L.length : Int) := by omega
      have z3 : (0 : Int) ≤ (i : Int) := by omega
      have z4 : (i : Int) < (L.length : Int) := by omega
      by_cases heq : s = t
      · subst heq
        go_wp2
        go_quiet (fail)
        go_wp2
        go_ret
        exact ⟨k, _, rfl, ⟨by omega, by rw [HS.out, HT.out], by rw [HT.out]; exact HN.out⟩, (World.drewN_drewN _ _ _).symm⟩
      · have hb : (s.toList == t.toList) = false := by
          cases hbb : (s.toList == t.toList)
          · rfl
          · exact absurd (bytes_eq_of hbb) heq
        have HB := Lib.hid heq
        clear heq
        go_wp2
        go_quiet (fail)
        go_wp2
        go_roundw
        case rel =>
          refine ⟨k + 1, _, by omega, by go_num, ?_, rfl⟩
          intro u hu
          rcases Nat.lt_or_eq_of_le (Nat.le_of_lt_succ hu) with h | h
          · exact HN.out u h
          · subst h; rw [HS.out]; exact HB.out
        case measure => simp [intOf]; omega
    · have he : k = i := by omega
      subst he
      go_wp2
      go_ret
      exact ⟨k, _, rfl, ⟨Nat.le_refl _, rfl, HN.out⟩, rfl⟩

end Go.Proofs.Ytfgjdnikehibnaa
