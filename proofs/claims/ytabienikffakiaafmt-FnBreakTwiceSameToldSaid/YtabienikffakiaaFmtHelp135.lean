/- The break laws' own helpers: the readers of an instruction word, the copies, the guard. -/
import Derived.Test.YtabienikffakiaaFmtOps136
import Derived.Test.YtabienikffakiaaFmtCode
import Derived.Test.YtabienikffakiaaFmtInts
import Derived.BigQuiet
import Derived.Deep.DeepFit
import Derived.Handy
namespace Go.Proofs.YtabienikffakiaaFmt
open Go.RowKit
set_option linter.unusedVariables false

theorem andu_255 (x : Int) (h0 : 0 ≤ x) (h1 : x < 4294967296) : IntKind.i64.wrap (bits .and .u32 (x / 262144) 255) = x / 262144 % 256 := by
  rw [u32_and (x / 262144) 255 (by omega) (by omega) (by omega) (by omega)]
  simp only [Int.reduceToNat, nat_mask8]
  rw [wrap_i64_small] <;> omega
theorem andu_511 (x : Int) (h0 : 0 ≤ x) (h1 : x < 4294967296) : IntKind.i64.wrap (bits .and .u32 (x / 512) 511) = x / 512 % 512 := by
  rw [u32_and (x / 512) 511 (by omega) (by omega) (by omega) (by omega)]
  simp only [Int.reduceToNat, nat_mask9]
  rw [wrap_i64_small] <;> omega

theorem zzOp_any (x r : Int) (h0 : 0 ≤ x) (h1 : x < 4294967296) (hr : x / 67108864 = r) (w : World) :
    Calls Tryf.prog 27 #[.int .u32 x] w fun e w' => e = .returned (.int .i64 r) ∧ w = w' := by
  go_enter Tryf.func27, Tryf.ntmps27
  go_wp2
  go_ret
  exact ⟨by rw [← hr]; rfl, rfl⟩
theorem zzA_any (x r : Int) (h0 : 0 ≤ x) (h1 : x < 4294967296) (hr : x / 262144 % 256 = r) (w : World) :
    Calls Tryf.prog 28 #[.int .u32 x] w fun e w' => e = .returned (.int .i64 r) ∧ w = w' := by
  have hx := andu_255 x h0 h1
  rw [hr] at hx
  have HR := Lib.hid hr
  clear hr
  go_enter Tryf.func28, Tryf.ntmps28
  go_wp2
  go_ret
  exact ⟨rfl, rfl⟩
theorem zzB_any (x r : Int) (h0 : 0 ≤ x) (h1 : x < 4294967296) (hr : x % 512 = r) (w : World) :
    Calls Tryf.prog 29 #[.int .u32 x] w fun e w' => e = .returned (.int .i64 r) ∧ w = w' := by
  have HR := Lib.hid hr
  clear hr
  go_enter Tryf.func29, Tryf.ntmps29
  go_wp2
  go_ret
  exact ⟨by rw [← HR.out]; exact congrArg (fun t => Ending.returned (.int .i64 t)) (get_b x h0 h1), rfl⟩
theorem zzC_any (x r : Int) (h0 : 0 ≤ x) (h1 : x < 4294967296) (hr : x / 512 % 512 = r) (w : World) :
    Calls Tryf.prog 30 #[.int .u32 x] w fun e w' => e = .returned (.int .i64 r) ∧ w = w' := by
  have hx := andu_511 x h0 h1
  rw [hr] at hx
  have HR := Lib.hid hr
  clear hr
  go_enter Tryf.func30, Tryf.ntmps30
  go_wp2
  go_ret
  exact ⟨rfl, rfl⟩
theorem zzSbx_any (x r : Int) (h0 : 0 ≤ x) (h1 : x < 4294967296) (hr : x % 262144 - 131071 = r) (w : World) :
    Calls Tryf.prog 31 #[.int .u32 x] w fun e w' => e = .returned (.int .i64 r) ∧ w = w' := by
  have hx : IntKind.i64.wrap (bits .and .u32 x 262143) = x % 262144 := by
    rw [u32_and x 262143 h0 h1 (by omega) (by omega)]
    simp only [Int.reduceToNat, nat_mask18]
    rw [wrap_i64_small] <;> omega
  have b0 : 0 ≤ x % 262144 ∧ x % 262144 < 262144 := by omega
  generalize x % 262144 = y at *
  have HR := Lib.hid hr
  clear hr
  go_enter Tryf.func31, Tryf.ntmps31
  go_wp2
  go_ret
  exact ⟨by rw [← HR.out]; rfl, rfl⟩

theorem zzIsJmp_any (x l : Int) (h0 : 0 ≤ x) (h1 : x < 4294967296) (ho : x / 67108864 = 25) (ha : x / 262144 % 256 = 0) (hs : x % 262144 - 131071 = l) (w : World) :
    Calls Tryf.prog 19 #[.int .u32 x, .int .i64 l] w fun e w' => e = .returned (.bool true) ∧ w = w' := by
  go_enter Tryf.func19, Tryf.ntmps19
  go_wp2_with fail
  refine (zzOp_any x 25 h0 h1 ho _).mono ?_
  rintro e w' ⟨rfl, rfl⟩
  go_wp2_with fail
  refine (zzA_any x 0 h0 h1 ha _).mono ?_
  rintro e w' ⟨rfl, rfl⟩
  go_wp2_with fail
  refine (zzSbx_any x l h0 h1 hs _).mono ?_
  rintro e w' ⟨rfl, rfl⟩
  go_wp2
  go_ret
  exact ⟨rfl, rfl⟩

theorem zzIsClose_any (x l : Int) (h0 : 0 ≤ x) (h1 : x < 4294967296) (ho : x / 67108864 = 38) (ha : x / 262144 % 256 = l) (hb : x % 512 = 0) (hc : x / 512 % 512 = 0) (w : World) :
    Calls Tryf.prog 18 #[.int .u32 x, .int .i64 l] w fun e w' => e = .returned (.bool true) ∧ w = w' := by
  go_enter Tryf.func18, Tryf.ntmps18
  go_wp2_with fail
  refine (zzOp_any x 38 h0 h1 ho _).mono ?_
  rintro e w' ⟨rfl, rfl⟩
  go_wp2_with fail
  refine (zzA_any x l h0 h1 ha _).mono ?_
  rintro e w' ⟨rfl, rfl⟩
  go_wp2_with fail
  refine (zzB_any x 0 h0 h1 hb _).mono ?_
  rintro e w' ⟨rfl, rfl⟩
  go_wp2_with fail
  refine (zzC_any x 0 h0 h1 hc _).mono ?_
  rintro e w' ⟨rfl, rfl⟩
  go_wp2
  go_ret
  exact ⟨rfl, rfl⟩

def ClonedB (L : List Bool) (w : World) (e : Ending) (w' : World) : Prop :=
  ∃ a c, e = .returned (.slice a L.length c) ∧ Bools w' a L ∧ Below w.heap.size w w' ∧ (a = none → L.length = 0 ∧ c = 0)
def ClonedI (L : List Int) (w : World) (e : Ending) (w' : World) : Prop :=
  ∃ a c, e = .returned (.slice a L.length c) ∧ Ints .i64 w' a L ∧ Below w.heap.size w w' ∧ (a = none → L.length = 0 ∧ c = 0)

theorem list_storeG {α : Type} (f : α → Value) (d : α) (L : List α) (k : Nat) (h : k < L.length) :
    ((L.take k).map f ++ List.replicate (L.length - k) (f d)).set k (f (L.getD k d)) = (L.take (k + 1)).map f ++ List.replicate (L.length - (k + 1)) (f d) := by
  have hr : List.replicate (L.length - k) (f d) = f d :: List.replicate (L.length - (k + 1)) (f d) := by
    rw [show L.length - k = (L.length - (k + 1)) + 1 by omega, List.replicate_succ]
  have hl : ((L.take k).map f).length = k := by simp; omega
  rw [hr, List.set_append_right _ _ (by omega), hl, Nat.sub_self, List.set_cons_zero, List.take_succ_eq_append_getElem h, List.map_append, List.append_assoc]
  simp [List.getD, h]
theorem ints_of_owned {q : IntKind} {w : World} {β : Nat} {e : TypeId} {g cap : Nat} {L : List Int} (h : w.ownsRow β e 1 (.slice (some ⟨g, 0, none⟩) L.length cap) L.length (L.map (Value.int q))) : Ints q w (some ⟨g, 0, none⟩) L := by
  intro k hk
  refine ⟨g, 0, rfl, ?_⟩
  rw [Nat.zero_add, h.cellAt k (by omega)]
  simp [List.getD, hk]
theorem bools_of_owned {w : World} {β : Nat} {e : TypeId} {g cap : Nat} {L : List Bool} (h : w.ownsRow β e 1 (.slice (some ⟨g, 0, none⟩) L.length cap) L.length (L.map Value.bool)) : Bools w (some ⟨g, 0, none⟩) L := by
  intro k hk
  refine ⟨g, 0, rfl, ?_⟩
  rw [Nat.zero_add, h.cellAt k (by omega)]
  simp [List.getD, hk]
theorem infoBool : (Tryf.prog.info? 4).map (fun i => (i.zero, i.size, i.bytes)) = some (some (.bool false), 1, 1) := by kernel_rfl

set_option maxRecDepth 100000 in
set_option maxHeartbeats 1000000 in
theorem copyBools_any (a : Option Addr) (c : Nat) (L : List Bool) (w : World) (S : Bools w a L) (m : L.length ≤ 1048576) (hn : a = none → L.length = 0 ∧ c = 0) :
    Calls Tryf.prog 7 #[.slice a L.length c] w (ClonedB L w) := by
  obtain ⟨i0, hi, hz0, hz1, hz2⟩ := info_parts infoBool
  have hnil := fun wx => Lib.run_eql_slice_nil (P := Tryf.prog) wx 22 4 a L.length c 0 0 Tryf.underlying22
  cases ha : a with
  | none =>
    obtain ⟨h0, hc⟩ := hn ha
    have hL : L = [] := List.eq_nil_of_length_eq_zero h0
    subst hL ha hc
    clear hn hnil
    have hnil := fun wx => Lib.run_eql_slice_nil (P := Tryf.prog) wx 22 4 none 0 0 0 0 Tryf.underlying22
    show Calls Tryf.prog 7 #[.slice none 0 0] w (ClonedB [] w)
    go_enter Tryf.func7, Tryf.ntmps7
    go_wp2
    go_ret
    exact ⟨none, 0, rfl, (fun k hk => absurd hk (by simp)), Below.refl _ _, (fun _ => ⟨rfl, rfl⟩)⟩
  | some x =>
    subst ha
    clear hn
    go_enter Tryf.func7, Tryf.ntmps7
    go_wp2_with (at_make; refine wpList_make_full _ rfl _ _ 22 rfl w.heap.size 4 i0 (Value.bool false) 1 Tryf.underlying22 hi hz0 hz1 .i64 .i64 _ _ L.length rfl rfl rfl rfl ?c2 ?c3 ?c4 ?_)
    case c2 => rw [hz2]; omega
    case c3 => unfold maxLen; omega
    case c4 => simp
    intro w1 hown hgrow
    go_wp2
    have hb1 : Below w.heap.size w w1 := (Below.refl _ _).grown hgrow (Nat.le_refl _) (fun _ h => by cases h)
    have hown1 : w1.ownsRow w.heap.size 4 1 (.slice (some ⟨w.heap.size, 0, none⟩) L.length L.length) L.length ((L.take 0).map (Value.bool) ++ List.replicate (L.length - 0) (Value.bool false)) := by
      have e : (madeCells #[Value.bool false] L.length).toList = (L.take 0).map (Value.bool) ++ List.replicate (L.length - 0) (Value.bool false) := by
        rw [toList_madeCells_one]; simp
      rw [← e]; exact hown
    clear hown hgrow
    go_loopw [4] (fun i wr => ∃ k : Nat, k ≤ L.length ∧ i = .int .i64 k ∧ wr.ownsRow w.heap.size 4 1 (.slice (some ⟨w.heap.size, 0, none⟩) L.length L.length) L.length ((L.take k).map (Value.bool) ++ List.replicate (L.length - k) (Value.bool false)) ∧ Below w.heap.size w wr) (fun i _ => L.length - (intOf i).toNat)
    case atStart => exact ⟨0, Nat.zero_le _, rfl, hown1, hb1⟩
    case round =>
      clear hown1 hb1
      obtain ⟨k, hk, rfl, hown, hbel⟩ := hrel
      by_cases hlt : k < L.length
      · obtain ⟨b, off, hx, hc⟩ := S k hlt
        have hst := list_storeG (Value.bool) false L k hlt
        obtain rfl : x = ⟨b, off, none⟩ := by simpa using hx
        clear hx S
        have hcr : wr.cell? ⟨b, off + k, none⟩ = some (Value.bool (L.getD k false)) := (hbel.cell (World.block_lt_of_cell? _ _ hc)).trans hc
        have hd : ∃ u, wr.cell? ⟨w.heap.size, k, none⟩ = some u := by
          rw [hown.cellAt k (by omega)]
          exact ⟨_, List.getElem?_eq_getElem (by simp; omega)⟩
        obtain ⟨u, hu⟩ := hd
        have hf := hown.frozenAt k
        have hown2 := hown.stored k (Value.bool (L.getD k false))
        rw [hst] at hown2
        generalize hs : L.getD k false = s at hcr hown2
        have HS := Lib.hid hs
        clear hs hst hc
        go_wp2
        go_roundw
        case rel => exact ⟨k + 1, by omega, by go_num, hown2.1, hbel.setCell (Nat.le_refl _) _⟩
        case measure => simp [intOf]; omega
      · have he : k = L.length := by omega
        subst he
        rw [List.take_length, Nat.sub_self, List.replicate_zero, List.append_nil] at hown
        go_wp2
        go_ret
        exact ⟨some ⟨w.heap.size, 0, none⟩, L.length, rfl, bools_of_owned hown, hbel, (fun h => by cases h)⟩

set_option maxRecDepth 100000 in
set_option maxHeartbeats 1000000 in
theorem copyInts_any (a : Option Addr) (c : Nat) (L : List Int) (w : World) (S : Ints .i64 w a L) (m : L.length ≤ 1048576) (hn : a = none → L.length = 0 ∧ c = 0) :
    Calls Tryf.prog 8 #[.slice a L.length c] w (ClonedI L w) := by
  obtain ⟨i0, hi, hz0, hz1, hz2⟩ := info_parts infoInt
  have hnil := fun wx => Lib.run_eql_slice_nil (P := Tryf.prog) wx 23 3 a L.length c 0 0 Tryf.underlying23
  cases ha : a with
  | none =>
    obtain ⟨h0, hc⟩ := hn ha
    have hL : L = [] := List.eq_nil_of_length_eq_zero h0
    subst hL ha hc
    clear hn hnil
    have hnil := fun wx => Lib.run_eql_slice_nil (P := Tryf.prog) wx 23 3 none 0 0 0 0 Tryf.underlying23
    show Calls Tryf.prog 8 #[.slice none 0 0] w (ClonedI [] w)
    go_enter Tryf.func8, Tryf.ntmps8
    go_wp2
    go_ret
    exact ⟨none, 0, rfl, (fun k hk => absurd hk (by simp)), Below.refl _ _, (fun _ => ⟨rfl, rfl⟩)⟩
  | some x =>
    subst ha
    clear hn
    go_enter Tryf.func8, Tryf.ntmps8
    go_wp2_with (at_make; refine wpList_make_full _ rfl _ _ 23 rfl w.heap.size 3 i0 (Value.int .i64 0) 1 Tryf.underlying23 hi hz0 hz1 .i64 .i64 _ _ L.length rfl rfl rfl rfl ?c2 ?c3 ?c4 ?_)
    case c2 => rw [hz2]; omega
    case c3 => unfold maxLen; omega
    case c4 => simp
    intro w1 hown hgrow
    go_wp2
    have hb1 : Below w.heap.size w w1 := (Below.refl _ _).grown hgrow (Nat.le_refl _) (fun _ h => by cases h)
    have hown1 : w1.ownsRow w.heap.size 3 1 (.slice (some ⟨w.heap.size, 0, none⟩) L.length L.length) L.length ((L.take 0).map (Value.int .i64) ++ List.replicate (L.length - 0) (Value.int .i64 0)) := by
      have e : (madeCells #[Value.int .i64 0] L.length).toList = (L.take 0).map (Value.int .i64) ++ List.replicate (L.length - 0) (Value.int .i64 0) := by
        rw [toList_madeCells_one]; simp
      rw [← e]; exact hown
    clear hown hgrow
    go_loopw [4] (fun i wr => ∃ k : Nat, k ≤ L.length ∧ i = .int .i64 k ∧ wr.ownsRow w.heap.size 3 1 (.slice (some ⟨w.heap.size, 0, none⟩) L.length L.length) L.length ((L.take k).map (Value.int .i64) ++ List.replicate (L.length - k) (Value.int .i64 0)) ∧ Below w.heap.size w wr) (fun i _ => L.length - (intOf i).toNat)
    case atStart => exact ⟨0, Nat.zero_le _, rfl, hown1, hb1⟩
    case round =>
      clear hown1 hb1
      obtain ⟨k, hk, rfl, hown, hbel⟩ := hrel
      by_cases hlt : k < L.length
      · obtain ⟨b, off, hx, hc⟩ := S k hlt
        have hst := list_storeG (Value.int .i64) 0 L k hlt
        obtain rfl : x = ⟨b, off, none⟩ := by simpa using hx
        clear hx S
        have hcr : wr.cell? ⟨b, off + k, none⟩ = some (Value.int .i64 (L.getD k 0)) := (hbel.cell (World.block_lt_of_cell? _ _ hc)).trans hc
        have hd : ∃ u, wr.cell? ⟨w.heap.size, k, none⟩ = some u := by
          rw [hown.cellAt k (by omega)]
          exact ⟨_, List.getElem?_eq_getElem (by simp; omega)⟩
        obtain ⟨u, hu⟩ := hd
        have hf := hown.frozenAt k
        have hown2 := hown.stored k (Value.int .i64 (L.getD k 0))
        rw [hst] at hown2
        generalize hs : L.getD k 0 = s at hcr hown2
        have HS := Lib.hid hs
        clear hs hst hc
        go_wp2
        go_roundw
        case rel => exact ⟨k + 1, by omega, by go_num, hown2.1, hbel.setCell (Nat.le_refl _) _⟩
        case measure => simp [intOf]; omega
      · have he : k = L.length := by omega
        subst he
        rw [List.take_length, Nat.sub_self, List.replicate_zero, List.append_nil] at hown
        go_wp2
        go_ret
        exact ⟨some ⟨w.heap.size, 0, none⟩, L.length, rfl, ints_of_owned hown, hbel, (fun h => by cases h)⟩

/-- the sum of the first k numbers -/
def psum (L : List Int) : Nat → Int
  | 0 => 0
  | k + 1 => psum L k + L.getD k 0
/-- what the guard lets through -/
structure Good (r : Int) (n1 n3 : Nat) (L : List Int) : Prop where
  n1 : n1 = L.length
  n3 : n3 = L.length
  small : L.length ≤ 4096
  lo : 0 ≤ r
  each : ∀ k, k < L.length → 0 ≤ L.getD k 0 ∧ L.getD k 0 ≤ 199
  sums : ∀ k, k ≤ L.length → r + psum L k ≤ 199

set_option maxRecDepth 100000 in
set_option maxHeartbeats 1000000 in
theorem breakGuards_any (r : Int) (a1 a2 a3 : Option Addr) (n1 c1 c2 n3 c3 : Nat) (L : List Int) (w : World) (S : Ints .i64 w a2 L) (m1 : n1 ≤ 1048576) (m2 : L.length ≤ 1048576) (m3 : n3 ≤ 1048576) :
    Calls Tryf.prog 6 #[.int .i64 r, .slice a1 n1 c1, .slice a2 L.length c2, .slice a3 n3 c3] w (SomeBool (Good r n1 n3 L) w) := by
  by_cases g1 : 1048576 < n1 + 8 * L.length + n3
  · go_enter Tryf.func6, Tryf.ntmps6
    go_wp2
    go_ret
    exact ⟨false, rfl, (fun h => absurd h (by simp)), rfl⟩
  by_cases g2 : 4096 < n1
  · go_enter Tryf.func6, Tryf.ntmps6
    go_wp2
    go_ret
    exact ⟨false, rfl, (fun h => absurd h (by simp)), rfl⟩
  by_cases g3 : L.length = n1
  case neg =>
    have g3' : ((L.length : Int) != (n1 : Int)) = true := by simp; omega
    go_enter Tryf.func6, Tryf.ntmps6
    go_wp2
    go_ret
    exact ⟨false, rfl, (fun h => absurd h (by simp)), rfl⟩
  subst g3
  by_cases g4 : n3 = L.length
  case neg =>
    have g4' : ((n3 : Int) != (L.length : Int)) = true := by simp; omega
    go_enter Tryf.func6, Tryf.ntmps6
    go_wp2
    go_ret
    exact ⟨false, rfl, (fun h => absurd h (by simp)), rfl⟩
  subst g4
  by_cases g5 : r < 0
  · go_enter Tryf.func6, Tryf.ntmps6
    go_wp2
    go_ret
    exact ⟨false, rfl, (fun h => absurd h (by simp)), rfl⟩
  by_cases g6 : 199 < r
  · go_enter Tryf.func6, Tryf.ntmps6
    go_wp2
    go_ret
    exact ⟨false, rfl, (fun h => absurd h (by simp)), rfl⟩
  go_enter Tryf.func6, Tryf.ntmps6
  go_wp2
  go_loop [9, 10] (fun t i => ∃ k : Nat, k ≤ L.length ∧ i = .int .i64 k ∧ t = .int .i64 (r + psum L k) ∧ 0 ≤ psum L k ∧ (∀ j, j < k → 0 ≤ L.getD j 0 ∧ L.getD j 0 ≤ 199) ∧ (∀ j, j ≤ k → r + psum L j ≤ 199)) (fun _ i => L.length - (intOf i).toNat)
  case atStart => exact ⟨0, Nat.zero_le _, rfl, by simp [psum], Int.le_refl _, (fun j hj => by omega), (fun j hj => by rw [show j = 0 from by omega]; simp only [psum]; omega)⟩
  case round =>
    obtain ⟨k, hk, rfl, rfl, hp0, hE, hS⟩ := hrel
    have hp1 := hS k (Nat.le_refl _)
    by_cases hlt : k < L.length
    · obtain ⟨b, o, rfl, hc⟩ := S k hlt
      have hps : psum L (k + 1) = psum L k + L.getD k 0 := rfl
      generalize hs : L.getD k 0 = x at hc hps
      generalize hq : psum L k = q at *
      have HE := Lib.hid hE
      have HS := Lib.hid hS
      have H1 := Lib.hid hs
      have H2 := Lib.hid hps
      clear hE hS hs hps hq S
      by_cases x0 : x < 0
      · go_wp2
        go_ret
        exact ⟨false, rfl, (fun h => absurd h (by simp)), rfl⟩
      by_cases x1 : 199 < x
      · go_wp2
        go_ret
        exact ⟨false, rfl, (fun h => absurd h (by simp)), rfl⟩
      by_cases x2 : 199 < r + q + x
      · go_wp2
        go_ret
        exact ⟨false, rfl, (fun h => absurd h (by simp)), rfl⟩
      go_wp2
      go_round
      case rel =>
        have h2 := H2.out
        refine ⟨k + 1, by omega, by go_num, by rw [h2]; congr 1; omega, by omega, ?_, ?_⟩
        · intro j hj
          rcases Nat.lt_succ_iff_lt_or_eq.1 hj with h | h
          · exact HE.out j h
          · subst h; rw [H1.out]; omega
        · intro j hj
          rcases Nat.eq_or_lt_of_le hj with h | h
          · subst h; omega
          · exact HS.out j (by omega)
      case measure => simp [intOf]; omega
    · have he : k = L.length := by omega
      subst he
      have HE := Lib.hid hE
      have HS := Lib.hid hS
      clear hE hS S
      go_wp2
      go_ret
      exact ⟨true, rfl, (fun _ => ⟨rfl, rfl, by omega, by omega, HE.out, HS.out⟩), rfl⟩
end Go.Proofs.YtabienikffakiaaFmt
