/- The contracts of the patchCode laws' own small helpers. -/
import Derived.Test.YtieiaojabkpkfaaFmtOpsP
namespace Go.Proofs.YtieiaojabkpkfaaFmt
open Go.RowKit
set_option linter.unusedVariables false

theorem opOf_any (x : Int) (h : W32 x) (w : World) :
    Calls Tryf.prog 17 #[.int .u32 x] w fun e w' => e = .returned (.int .i64 (opI x)) ∧ w = w' := by
  obtain ⟨h0, h1⟩ := h
  unfold opI
  go_enter Tryf.func17, Tryf.ntmps17
  go_wp2
  go_ret
  exact ⟨rfl, rfl⟩

theorem andu_255 (x : Int) (h : W32 x) : IntKind.i64.wrap (bits .and .u32 (x / 262144) 255) = aI x := by
  obtain ⟨h0, h1⟩ := h
  rw [u32_and (x / 262144) 255 (by omega) (by omega) (by omega) (by omega)]
  simp only [Int.reduceToNat, nat_mask8]
  unfold aI
  rw [wrap_i64_small] <;> omega
theorem andu_511 (x : Int) (h : W32 x) : IntKind.i64.wrap (bits .and .u32 (x / 512) 511) = cI x := by
  obtain ⟨h0, h1⟩ := h
  rw [u32_and (x / 512) 511 (by omega) (by omega) (by omega) (by omega)]
  simp only [Int.reduceToNat, nat_mask9]
  unfold cI
  rw [wrap_i64_small] <;> omega

theorem argA_any (x : Int) (h : W32 x) (w : World) :
    Calls Tryf.prog 29 #[.int .u32 x] w fun e w' => e = .returned (.int .i64 (aI x)) ∧ w = w' := by
  have hx := andu_255 x h
  obtain ⟨h0, h1⟩ := h
  go_enter Tryf.func29, Tryf.ntmps29
  go_wp2
  go_ret
  exact ⟨rfl, rfl⟩

theorem argB_any (x : Int) (h : W32 x) (w : World) :
    Calls Tryf.prog 30 #[.int .u32 x] w fun e w' => e = .returned (.int .i64 (bI x)) ∧ w = w' := by
  obtain ⟨h0, h1⟩ := h
  go_enter Tryf.func30, Tryf.ntmps30
  go_wp2
  go_ret
  exact ⟨congrArg (fun t => Ending.returned (.int .i64 t)) (get_b x h0 h1), rfl⟩

theorem argC_any (x : Int) (h : W32 x) (w : World) :
    Calls Tryf.prog 31 #[.int .u32 x] w fun e w' => e = .returned (.int .i64 (cI x)) ∧ w = w' := by
  have hx := andu_511 x h
  obtain ⟨h0, h1⟩ := h
  go_enter Tryf.func31, Tryf.ntmps31
  go_wp2
  go_ret
  exact ⟨rfl, rfl⟩

def NoJump (L : List Int) : Prop := ∀ k, k < L.length → opI (L.getD k 0) ≠ 25 ∧ opI (L.getD k 0) ≠ 39
def Small (L : List Int) : Prop := ∀ k, k < L.length → aI (L.getD k 0) < 100 ∧ bI (L.getD k 0) < 100 ∧ cI (L.getD k 0) < 100
def All32 (L : List Int) : Prop := ∀ k, k < L.length → W32 (L.getD k 0)
def JumpSays (L : List Int) (w : World) (e : Ending) (w' : World) : Prop := (∃ b : Bool, e = .returned (.bool b) ∧ (b = false → NoJump L)) ∧ w = w'
def SmallSays (L : List Int) (w : World) (e : Ending) (w' : World) : Prop := (∃ b : Bool, e = .returned (.bool b) ∧ (b = true → Small L)) ∧ w = w'

set_option maxRecDepth 100000 in
theorem hasJump_any (a : Option Addr) (c : Nat) (L : List Int) (w : World) (S : Ints .u32 w a L) (h32 : All32 L) (m : L.length ≤ 1048576) :
    Calls Tryf.prog 9 #[.slice a L.length c] w (JumpSays L w) := by
  go_enter Tryf.func9, Tryf.ntmps9
  go_wp2
  go_loop [3] (fun j => ∃ k : Nat, k ≤ L.length ∧ j = .int .i64 k ∧ (∀ t, t < k → opI (L.getD t 0) ≠ 25 ∧ opI (L.getD t 0) ≠ 39)) (fun j => L.length - (intOf j).toNat)
  case atStart => exact ⟨0, Nat.zero_le _, rfl, (fun t ht => absurd ht (by omega))⟩
  case round =>
    obtain ⟨k, hk, rfl, hne⟩ := hrel
    have HN := Lib.hid hne
    clear hne
    by_cases hlt : k < L.length
    · obtain ⟨b, o, rfl, hc⟩ := S k hlt
      have hw := h32 k hlt
      generalize hs : L.getD k 0 = x at hc hw
      have HS := Lib.hid hs
      clear hs S h32
      go_wp2_with fail
      refine (opOf_any x hw _).mono ?_
      rintro e w' ⟨rfl, rfl⟩
      generalize ho : opI x = o' at *
      have HO := Lib.hid ho
      clear ho
      by_cases h1 : o' = 25
      · subst h1
        go_wp2
        go_ret
        exact ⟨⟨true, rfl, (fun h => by cases h)⟩, rfl⟩
      by_cases h2 : o' = 39
      · subst h2
        go_wp2
        go_ret
        exact ⟨⟨true, rfl, (fun h => by cases h)⟩, rfl⟩
      have e1 : (o' == 25) = false := by simpa using h1
      have e2 : (o' == 39) = false := by simpa using h2
      go_wp2
      go_round
      case rel =>
        refine ⟨k + 1, by omega, by go_num, ?_⟩
        intro u hu
        rcases Nat.lt_or_eq_of_le (Nat.le_of_lt_succ hu) with h | h
        · exact HN.out u h
        · subst h; rw [HS.out, HO.out]; exact ⟨h1, h2⟩
      case measure => simp [intOf]; omega
    · have he : k = L.length := by omega
      subst he
      clear hlt S h32
      go_wp2
      go_ret
      exact ⟨⟨false, rfl, (fun _ => HN.out)⟩, rfl⟩

set_option maxRecDepth 100000 in
theorem fieldsSmall_any (a : Option Addr) (c : Nat) (L : List Int) (w : World) (S : Ints .u32 w a L) (h32 : All32 L) (m : L.length ≤ 1048576) :
    Calls Tryf.prog 10 #[.slice a L.length c] w (SmallSays L w) := by
  go_enter Tryf.func10, Tryf.ntmps10
  go_wp2
  go_loop [3] (fun j => ∃ k : Nat, k ≤ L.length ∧ j = .int .i64 k ∧ (∀ t, t < k → aI (L.getD t 0) < 100 ∧ bI (L.getD t 0) < 100 ∧ cI (L.getD t 0) < 100)) (fun j => L.length - (intOf j).toNat)
  case atStart => exact ⟨0, Nat.zero_le _, rfl, (fun t ht => absurd ht (by omega))⟩
  case round =>
    obtain ⟨k, hk, rfl, hne⟩ := hrel
    have HN := Lib.hid hne
    clear hne
    by_cases hlt : k < L.length
    · obtain ⟨b, o, rfl, hc⟩ := S k hlt
      have hw := h32 k hlt
      generalize hs : L.getD k 0 = x at hc hw
      have HS := Lib.hid hs
      clear hs S h32
      go_wp2_with fail
      refine (argA_any x hw _).mono ?_
      rintro e w' ⟨rfl, rfl⟩
      by_cases h1 : 100 ≤ aI x
      · go_wp2
        go_ret
        exact ⟨⟨false, rfl, (fun h => by cases h)⟩, rfl⟩
      go_wp2_with fail
      refine (argB_any x hw _).mono ?_
      rintro e w' ⟨rfl, rfl⟩
      by_cases h2 : 100 ≤ bI x
      · go_wp2
        go_ret
        exact ⟨⟨false, rfl, (fun h => by cases h)⟩, rfl⟩
      go_wp2_with fail
      refine (argC_any x hw _).mono ?_
      rintro e w' ⟨rfl, rfl⟩
      by_cases h3 : 100 ≤ cI x
      · go_wp2
        go_ret
        exact ⟨⟨false, rfl, (fun h => by cases h)⟩, rfl⟩
      go_wp2
      go_round
      case rel =>
        refine ⟨k + 1, by omega, by go_num, ?_⟩
        intro u hu
        rcases Nat.lt_or_eq_of_le (Nat.le_of_lt_succ hu) with h | h
        · exact HN.out u h
        · subst h; rw [HS.out]; omega
      case measure => simp [intOf]; omega
    · have he : k = L.length := by omega
      subst he
      clear hlt S h32
      go_wp2
      go_ret
      exact ⟨⟨true, rfl, (fun _ => HN.out)⟩, rfl⟩

def ClonedW (L : List Int) (w : World) (e : Ending) (w' : World) : Prop :=
  ∃ a c, e = .returned (.slice a L.length c) ∧ Ints .u32 w' a L ∧ Below w.heap.size w w' ∧ (a = none → L.length = 0 ∧ c = 0)

theorem list_storeI (q : IntKind) (L : List Int) (k : Nat) (h : k < L.length) :
    ((L.take k).map (Value.int q) ++ List.replicate (L.length - k) (Value.int q 0)).set k (.int q (L.getD k 0)) = (L.take (k + 1)).map (Value.int q) ++ List.replicate (L.length - (k + 1)) (Value.int q 0) := by
  have hr : List.replicate (L.length - k) (Value.int q 0) = Value.int q 0 :: List.replicate (L.length - (k + 1)) (Value.int q 0) := by
    rw [show L.length - k = (L.length - (k + 1)) + 1 by omega, List.replicate_succ]
  have hl : ((L.take k).map (Value.int q)).length = k := by simp; omega
  rw [hr, List.set_append_right _ _ (by omega), hl, Nat.sub_self, List.set_cons_zero, List.take_succ_eq_append_getElem h, List.map_append, List.append_assoc]
  simp [List.getD, h]

theorem ints_of_owned {q : IntKind} {w : World} {β : Nat} {e : TypeId} {g cap : Nat} {L : List Int} (h : w.ownsRow β e 1 (.slice (some ⟨g, 0, none⟩) L.length cap) L.length (L.map (Value.int q))) : Ints q w (some ⟨g, 0, none⟩) L := by
  intro k hk
  refine ⟨g, 0, rfl, ?_⟩
  rw [Nat.zero_add, h.cellAt k (by omega)]
  simp [List.getD, hk]

set_option maxRecDepth 100000 in
set_option maxHeartbeats 1000000 in
theorem cloneW_any (a : Option Addr) (c : Nat) (L : List Int) (w : World) (S : Ints .u32 w a L) (m : L.length ≤ 1048576) (hn : a = none → L.length = 0 ∧ c = 0) :
    Calls Tryf.prog 11 #[.slice a L.length c] w (ClonedW L w) := by
  obtain ⟨i0, hi, hz0, hz1, hz2⟩ := info_parts infoU32
  have hnil := fun wx => Lib.run_eql_slice_nil (P := Tryf.prog) wx 22 30 a L.length c 0 0 Tryf.underlying22
  cases ha : a with
  | none =>
    obtain ⟨h0, hc⟩ := hn ha
    have hL : L = [] := List.eq_nil_of_length_eq_zero h0
    subst hL ha hc
    clear hn hnil
    have hnil := fun wx => Lib.run_eql_slice_nil (P := Tryf.prog) wx 22 30 none 0 0 0 0 Tryf.underlying22
    show Calls Tryf.prog 11 #[.slice none 0 0] w (ClonedW [] w)
    go_enter Tryf.func11, Tryf.ntmps11
    go_wp2
    go_ret
    exact ⟨none, 0, rfl, (fun k hk => absurd hk (by simp)), Below.refl _ _, (fun _ => ⟨rfl, rfl⟩)⟩
  | some x =>
    subst ha
    clear hn
    go_enter Tryf.func11, Tryf.ntmps11
    go_wp2_with (at_make; refine wpList_make_full _ rfl _ _ 22 rfl w.heap.size 30 i0 (.int .u32 0) 1 Tryf.underlying22 hi hz0 hz1 .i64 .i64 _ _ L.length rfl rfl rfl rfl ?c2 ?c3 ?c4 ?_)
    case c2 => rw [hz2]; omega
    case c3 => unfold maxLen; omega
    case c4 => simp
    intro w1 hown hgrow
    go_wp2
    have hb1 : Below w.heap.size w w1 := (Below.refl _ _).grown hgrow (Nat.le_refl _) (fun _ h => by cases h)
    have hown1 : w1.ownsRow w.heap.size 30 1 (.slice (some ⟨w.heap.size, 0, none⟩) L.length L.length) L.length ((L.take 0).map (Value.int .u32) ++ List.replicate (L.length - 0) (Value.int .u32 0)) := by
      have e : (madeCells #[Value.int .u32 0] L.length).toList = (L.take 0).map (Value.int .u32) ++ List.replicate (L.length - 0) (Value.int .u32 0) := by
        rw [toList_madeCells_one]; simp
      rw [← e]; exact hown
    clear hown hgrow
    go_loopw [4] (fun i wr => ∃ k : Nat, k ≤ L.length ∧ i = .int .i64 k ∧ wr.ownsRow w.heap.size 30 1 (.slice (some ⟨w.heap.size, 0, none⟩) L.length L.length) L.length ((L.take k).map (Value.int .u32) ++ List.replicate (L.length - k) (Value.int .u32 0)) ∧ Below w.heap.size w wr) (fun i _ => L.length - (intOf i).toNat)
    case atStart => exact ⟨0, Nat.zero_le _, rfl, hown1, hb1⟩
    case round =>
      clear hown1 hb1
      obtain ⟨k, hk, rfl, hown, hbel⟩ := hrel
      by_cases hlt : k < L.length
      · obtain ⟨b, off, hx, hc⟩ := S k hlt
        have hst := list_storeI .u32 L k hlt
        obtain rfl : x = ⟨b, off, none⟩ := by simpa using hx
        clear hx S
        have hcr : wr.cell? ⟨b, off + k, none⟩ = some (.int .u32 (L.getD k 0)) := (hbel.cell (World.block_lt_of_cell? _ _ hc)).trans hc
        have hd : ∃ u, wr.cell? ⟨w.heap.size, k, none⟩ = some u := by
          rw [hown.cellAt k (by omega)]
          exact ⟨_, List.getElem?_eq_getElem (by simp; omega)⟩
        obtain ⟨u, hu⟩ := hd
        have hf := hown.frozenAt k
        have hown2 := hown.stored k (.int .u32 (L.getD k 0))
        rw [hst] at hown2
        generalize hs : L.getD k 0 = s at hcr hown2
        have HS := Lib.hid hs
        clear hs hst hc
        go_wp2
        go_roundw
        case rel => exact ⟨k + 1, by omega, by go_num, hown2.1, hbel.setCell (Nat.le_refl _) _⟩
        case measure => simp [intOf]; omega
      · have he : k = L.length := by omega
        subst he
        rw [List.take_length, Nat.sub_self, List.replicate_zero, List.append_nil] at hown
        go_wp2
        go_ret
        exact ⟨some ⟨w.heap.size, 0, none⟩, L.length, rfl, ints_of_owned hown, hbel, (fun h => by cases h)⟩
end Go.Proofs.YtieiaojabkpkfaaFmt
