/- The laws' own helpers for folder n005_128: strsBytes, cloneStrings, hasString, liftRef. -/
import Derived.Test.YtieiaojabkpkfaaFmtIdent128
import Derived.Test.YtieiaojabkpkfaaFmtInts
namespace Go.Proofs.YtieiaojabkpkfaaFmt
open Go.RowKit
set_option linter.unusedVariables false

theorem infoStr : (Tryf.prog.info? 9).map (fun i => (i.zero, i.size, i.bytes)) = some (some (.string ByteArray.empty), 1, 16) := by kernel_rfl
theorem sumSizes_take_le' (L : List ByteArray) (k : Nat) : sumSizes (L.take k) ≤ sumSizes L := by
  unfold sumSizes
  induction L generalizing k with
  | nil => simp
  | cons x r ih =>
    cases k with
    | zero => simp
    | succ k => simp only [List.take_succ_cons, List.map_cons, List.sum_cons]; have := ih k; omega

set_option maxRecDepth 100000 in
theorem stringsBytes_any (a : Option Addr) (c : Nat) (L : List ByteArray) (w : World) (S : Strs w a L) (h1 : L.length ≤ 4096) (h2 : sumSizes L ≤ 1048576) :
    Calls Tryf.prog 19 #[.slice a L.length c] w fun e w' => e = .returned (.int .i64 ((16 * L.length + sumSizes L : Nat) : Int)) ∧ w = w' := by
  go_enter Tryf.func19, Tryf.ntmps19
  go_wp2
  go_loop [3, 4] (fun t i => ∃ k : Nat, k ≤ L.length ∧ i = .int .i64 k ∧ t = .int .i64 ((16 * k + sumSizes (L.take k) : Nat) : Int)) (fun _ i => L.length - (intOf i).toNat)
  case atStart => exact ⟨0, Nat.zero_le _, rfl, by simp [sumSizes_nil]⟩
  case round =>
    obtain ⟨k, hk, rfl, rfl⟩ := hrel
    by_cases hlt : k < L.length
    · obtain ⟨b, of, rfl, hc⟩ := S k hlt
      have hsum := sumSizes_take_succ L k hlt
      have hle := sumSizes_take_le' L (k + 1)
      generalize L.getD k ByteArray.empty = s at hc hsum
      generalize ht : sumSizes (L.take k) = t at hsum ⊢
      rw [hsum] at hle
      have HS := Lib.hid hsum
      have HT := Lib.hid ht
      clear hsum ht S
      go_wp2
      go_round
      case rel => exact ⟨k + 1, by omega, by go_num, by rw [HS.out]; go_num⟩
      case measure => simp [intOf]; omega
    · have he : k = L.length := by omega
      subst he
      rw [List.take_length]
      obtain ⟨t, ht⟩ : ∃ t, t = sumSizes L := ⟨_, rfl⟩
      rw [← ht] at h2 ⊢
      have HT := Lib.hid ht
      clear hlt S ht
      go_wp2
      go_ret
      exact ⟨by rw [← HT.out]; go_num, rfl⟩

/-- a fresh copy of a slice of strings comes back -/
def Cloned (L : List ByteArray) (w : World) (e : Ending) (w' : World) : Prop :=
  ∃ ao cap, e = .returned (.slice ao L.length cap) ∧ Strs w' ao L ∧ (∀ x, ao = some x → w.heap.size ≤ x.block ∧ x.block < w'.heap.size) ∧ Below w.heap.size w w'

theorem list_store (L : List ByteArray) (k : Nat) (h : k < L.length) :
    ((L.take k).map Value.string ++ List.replicate (L.length - k) (Value.string ByteArray.empty)).set k (.string (L.getD k ByteArray.empty)) = (L.take (k + 1)).map Value.string ++ List.replicate (L.length - (k + 1)) (Value.string ByteArray.empty) := by
  have hr : List.replicate (L.length - k) (Value.string ByteArray.empty) = Value.string ByteArray.empty :: List.replicate (L.length - (k + 1)) (Value.string ByteArray.empty) := by
    rw [show L.length - k = (L.length - (k + 1)) + 1 from by omega, List.replicate_succ]
  have hl : ((L.take k).map Value.string).length = k := by simp; omega
  rw [hr, List.set_append_right _ _ (by omega), hl, Nat.sub_self, List.set_cons_zero, List.take_succ_eq_append_getElem h, List.map_append, List.append_assoc]
  simp [List.getD, h]

theorem strs_of_owned {w : World} {β : Nat} {e : TypeId} {g cap : Nat} {L : List ByteArray} (h : w.ownsRow β e 1 (.slice (some ⟨g, 0, none⟩) L.length cap) L.length (L.map Value.string)) : Strs w (some ⟨g, 0, none⟩) L := by
  intro k hk
  refine ⟨g, 0, rfl, ?_⟩
  rw [Nat.zero_add, h.cellAt k (by omega)]
  simp [List.getD, hk]

set_option maxRecDepth 100000 in
set_option maxHeartbeats 1000000 in
theorem clone_any (a : Option Addr) (c : Nat) (L : List ByteArray) (w : World) (S : Strs w a L) (m : L.length ≤ 1048576) (hn : a = none → L.length = 0 ∧ c = 0) :
    Calls Tryf.prog 20 #[.slice a L.length c] w (Cloned L w) := by
  obtain ⟨i0, hi, hz0, hz1, hz2⟩ := info_parts infoStr
  have hnil := fun wx => Lib.run_eql_slice_nil (P := Tryf.prog) wx 35 9 a L.length c 0 0 Tryf.underlying35
  cases ha : a with
  | none =>
    obtain ⟨h0, hc⟩ := hn ha
    have hL : L = [] := List.eq_nil_of_length_eq_zero h0
    subst hL ha hc
    clear hn hnil
    have hnil := fun wx => Lib.run_eql_slice_nil (P := Tryf.prog) wx 35 9 none 0 0 0 0 Tryf.underlying35
    show Calls Tryf.prog 20 #[.slice none 0 0] w (Cloned [] w)
    go_enter Tryf.func20, Tryf.ntmps20
    go_wp2
    go_ret
    exact ⟨none, 0, rfl, (fun k hk => absurd hk (by simp)), (fun x hx => by cases hx), Below.refl _ _⟩
  | some x =>
    subst ha
    clear hn
    go_enter Tryf.func20, Tryf.ntmps20
    go_wp2_with (at_make; refine wpList_make_full _ rfl _ _ 35 rfl w.heap.size 9 i0 (.string ByteArray.empty) 1 Tryf.underlying35 hi hz0 hz1 .i64 .i64 _ _ L.length rfl rfl rfl rfl ?c2 ?c3 ?c4 ?_)
    case c2 => rw [hz2]; omega
    case c3 => unfold maxLen; omega
    case c4 => simp
    intro w1 hown hgrow
    go_wp2
    have hb1 : Below w.heap.size w w1 := (Below.refl _ _).grown hgrow (Nat.le_refl _) (fun _ h => by cases h)
    have hown1 : w1.ownsRow w.heap.size 9 1 (.slice (some ⟨w.heap.size, 0, none⟩) L.length L.length) L.length ((L.take 0).map Value.string ++ List.replicate (L.length - 0) (Value.string ByteArray.empty)) := by
      have e : (madeCells #[Value.string ByteArray.empty] L.length).toList = (L.take 0).map Value.string ++ List.replicate (L.length - 0) (Value.string ByteArray.empty) := by
        rw [toList_madeCells_one]; simp
      rw [← e]; exact hown
    clear hown hgrow
    go_loopw [4] (fun i wr => ∃ k : Nat, k ≤ L.length ∧ i = .int .i64 k ∧ wr.ownsRow w.heap.size 9 1 (.slice (some ⟨w.heap.size, 0, none⟩) L.length L.length) L.length ((L.take k).map Value.string ++ List.replicate (L.length - k) (Value.string ByteArray.empty)) ∧ Below w.heap.size w wr) (fun i _ => L.length - (intOf i).toNat)
    case atStart => exact ⟨0, Nat.zero_le _, rfl, hown1, hb1⟩
    case round =>
      clear hown1 hb1
      obtain ⟨k, hk, rfl, hown, hbel⟩ := hrel
      by_cases hlt : k < L.length
      · obtain ⟨b, off, hx, hc⟩ := S k hlt
        have hst := list_store L k hlt
        obtain rfl : x = ⟨b, off, none⟩ := by simpa using hx
        clear hx S
        have hcr : wr.cell? ⟨b, off + k, none⟩ = some (.string (L.getD k ByteArray.empty)) := (hbel.cell (World.block_lt_of_cell? _ _ hc)).trans hc
        have hd : ∃ u, wr.cell? ⟨w.heap.size, k, none⟩ = some u := by
          rw [hown.cellAt k (by omega)]
          exact ⟨_, List.getElem?_eq_getElem (by simp; omega)⟩
        obtain ⟨u, hu⟩ := hd
        have hf := hown.frozenAt k
        have hown2 := hown.stored k (.string (L.getD k ByteArray.empty))
        rw [hst] at hown2
        generalize hs : L.getD k ByteArray.empty = s at hcr hown2
        have HS := Lib.hid hs
        clear hs hst hc
        go_wp2
        go_roundw
        case rel => exact ⟨k + 1, by omega, by go_num, hown2.1, hbel.setCell (Nat.le_refl _) _⟩
        case measure => simp [intOf]; omega
      · have he : k = L.length := by omega
        subst he
        rw [List.take_length, Nat.sub_self, List.replicate_zero, List.append_nil] at hown
        go_wp2
        go_ret
        exact ⟨some ⟨w.heap.size, 0, none⟩, L.length, rfl, strs_of_owned hown, (fun y hy => by cases hy; exact ⟨Nat.le_refl _, (hown.lt _ rfl).2⟩), hbel⟩

/-- r: the first place up to i that holds what i holds -/
def IsFirst (L : List ByteArray) (i r : Nat) : Prop := r ≤ i ∧ L.getD r ByteArray.empty = L.getD i ByteArray.empty ∧ ∀ t, t < r → L.getD t ByteArray.empty ≠ L.getD i ByteArray.empty
/-- the first place comes back; the world stands but for draws -/
def FirstIs (L : List ByteArray) (i : Nat) (w : World) (e : Ending) (w' : World) : Prop := ∃ r q : Nat, e = .returned (.int .i64 r) ∧ IsFirst L i r ∧ w.drewN q = w'


def HasSays (L : List ByteArray) (s : ByteArray) (w : World) (e : Ending) (w' : World) : Prop := (∃ b : Bool, e = .returned (.bool b) ∧ (b = true ↔ Has L s)) ∧ w = w'

set_option maxRecDepth 100000 in
theorem hasString_any (a : Option Addr) (c : Nat) (L : List ByteArray) (s : ByteArray) (w : World) (S : Strs w a L) (m : L.length ≤ 1048576) :
    Calls Tryf.prog 24 #[.slice a L.length c, .string s] w (HasSays L s w) := by
  go_enter Tryf.func24, Tryf.ntmps24
  go_wp2
  go_loop [5] (fun j => ∃ k : Nat, k ≤ L.length ∧ j = .int .i64 k ∧ (∀ t, t < k → L.getD t ByteArray.empty ≠ s)) (fun j => L.length - (intOf j).toNat)
  case atStart => exact ⟨0, Nat.zero_le _, rfl, (fun t ht => absurd ht (by omega))⟩
  case round =>
    obtain ⟨k, hk, rfl, hne⟩ := hrel
    have HN := Lib.hid hne
    clear hne
    by_cases hlt : k < L.length
    · obtain ⟨b, o, rfl, hc⟩ := S k hlt
      generalize hs : L.getD k ByteArray.empty = x at hc
      have HS := Lib.hid hs
      clear hs S
      by_cases heq : x = s
      · subst heq
        go_wp2
        go_ret
        exact ⟨⟨true, rfl, (fun _ => ⟨k, hlt, HS.out⟩), (fun _ => rfl)⟩, rfl⟩
      · have hb := bytes_ne heq
        have HB := Lib.hid heq
        clear heq
        go_wp2
        go_round
        case rel =>
          refine ⟨k + 1, by omega, by go_num, ?_⟩
          intro u hu
          rcases Nat.lt_or_eq_of_le (Nat.le_of_lt_succ hu) with h | h
          · exact HN.out u h
          · subst h; rw [HS.out]; exact HB.out
        case measure => simp [intOf]; omega
    · have he : k = L.length := by omega
      subst he
      clear hlt S
      go_wp2
      go_ret
      exact ⟨⟨false, rfl, (fun h => by cases h), (fun ⟨t, h1, h2⟩ => absurd h2 (HN.out t h1))⟩, rfl⟩

theorem liftRef_any (t : Int) (w : World) :
    Calls Tryf.prog 23 #[.int .i64 t] w fun e w' => e = .returned (.int .i64 (if t = 2 then 1 else t)) ∧ w = w' := by
  by_cases h : t = 2
  · subst h
    go_enter Tryf.func23, Tryf.ntmps23
    go_wp2
    go_ret
    exact ⟨rfl, rfl⟩
  · rw [if_neg h]
    go_enter Tryf.func23, Tryf.ntmps23
    go_wp2
    go_ret
    exact ⟨rfl, rfl⟩
end Go.Proofs.YtieiaojabkpkfaaFmt
