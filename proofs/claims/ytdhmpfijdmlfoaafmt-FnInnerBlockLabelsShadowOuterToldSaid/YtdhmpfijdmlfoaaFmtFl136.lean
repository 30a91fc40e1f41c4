/- The FindLabel laws' own makers: zzStringsBytes, zzModelTarget, zzFindLabelPremiseFails, zzFindLabelCtx. -/
import Derived.Test.YtdhmpfijdmlfoaaFmtFind136
import Derived.Test.YtdhmpfijdmlfoaaFmtWalk136C
namespace Go.Proofs.YtdhmpfijdmlfoaaFmt
open Go.RowKit Go.Maps
set_option linter.unusedVariables false

theorem sumSizes_take_le' (L : List ByteArray) (k : Nat) : sumSizes (L.take k) ≤ sumSizes L := by
  unfold sumSizes
  induction L generalizing k with
  | nil => simp
  | cons x r ih =>
    cases k with
    | zero => simp
    | succ k => simp only [List.take_succ_cons, List.map_cons, List.sum_cons]; have := ih k; omega

set_option maxRecDepth 100000 in
theorem stringsBytes_any (a : Option Addr) (c : Nat) (L : List ByteArray) (w : World) (S : Strs w a L) (h1 : L.length ≤ 4096) (h2 : sumSizes L ≤ 1048576) :
    Calls Tryf.prog 16 #[.slice a L.length c] w fun e w' => e = .returned (.int .i64 ((16 * L.length + sumSizes L : Nat) : Int)) ∧ w = w' := by
  go_enter Tryf.func16, Tryf.ntmps16
  go_wp2
  go_loop [3, 4] (fun t i => ∃ k : Nat, k ≤ L.length ∧ i = .int .i64 k ∧ t = .int .i64 ((16 * k + sumSizes (L.take k) : Nat) : Int)) (fun _ i => L.length - (intOf i).toNat)
  case atStart => exact ⟨0, Nat.zero_le _, rfl, by simp [sumSizes_nil]⟩
  case round =>
    obtain ⟨k, hk, rfl, rfl⟩ := hrel
    by_cases hlt : k < L.length
    · obtain ⟨b, of, rfl, hc⟩ := S k hlt
      have hsum := sumSizes_take_succ L k hlt
      have hle := sumSizes_take_le' L (k + 1)
      generalize L.getD k ByteArray.empty = s at hc hsum
      generalize ht : sumSizes (L.take k) = t at hsum ⊢
      rw [hsum] at hle
      have HS := Lib.hid hsum
      have HT := Lib.hid ht
      clear hsum ht S
      go_wp2
      go_round
      case rel => exact ⟨k + 1, by omega, by go_num, by rw [HS.out]; go_num⟩
      case measure => simp [intOf]; omega
    · have he : k = L.length := by omega
      subst he
      rw [List.take_length]
      obtain ⟨t, ht⟩ : ∃ t, t = sumSizes L := ⟨_, rfl⟩
      rw [← ht] at h2 ⊢
      have HT := Lib.hid ht
      clear hlt S ht
      go_wp2
      go_ret
      exact ⟨by rw [← HT.out]; go_num, rfl⟩

/-- the first place of a name among the first m -/
structure IsTarget (names : List ByteArray) (m : Nat) (s : ByteArray) (i : Nat) : Prop where
  lt : i < m
  eq : names.getD i ByteArray.empty = s
  first : ∀ t, t < i → names.getD t ByteArray.empty ≠ s

def Target (names : List ByteArray) (ids ns : List Int) (m : Nat) (s : ByteArray) (w : World) (e : Ending) (w' : World) : Prop :=
  (∃ q, w.drewN q = w') ∧ ((∃ i, IsTarget names m s i ∧ e = .returned (.tuple #[.bool true, .int .i64 (ids.getD i 0), .int .i64 (ns.getD i 0)])) ∨ ((∀ t, t < m → names.getD t ByteArray.empty ≠ s) ∧ e = .returned (.tuple #[.bool false, .int .i64 0, .int .i64 0])))

set_option maxRecDepth 100000 in
theorem modelTarget_any (na : Option Addr) (nc : Nat) (names : List ByteArray) (ia : Option Addr) (ic : Nat) (ids : List Int) (sa : Option Addr) (sc : Nat) (ns : List Int) (s : ByteArray) (w : World) (Sn : Strs w na names) (Si : Ints .i64 w ia ids) (Ss : Ints .i64 w sa ns) (h1 : names.length ≤ 4096) (h2 : ids.length ≤ 4096) (h3 : ns.length ≤ 4096) (m : Nat) (hm : m = min (min names.length ids.length) ns.length) :
    Calls Tryf.prog 31 #[.slice na names.length nc, .slice ia ids.length ic, .slice sa ns.length sc, .string s] w (Target names ids ns m s w) := by
  go_enter Tryf.func31, Tryf.ntmps31
  go_wp2_with fail
  refine (zzMin3_any names.length ids.length ns.length _).mono ?_
  rintro e w' ⟨rfl, rfl⟩
  rw [← hm]
  have m1 : m ≤ names.length := by omega
  have m2 : m ≤ ids.length := by omega
  have m3 : m ≤ ns.length := by omega
  clear hm
  go_wp2
  go_loop [12] (fun i => ∃ k : Nat, k ≤ m ∧ i = .int .i64 k ∧ ∀ t, t < k → names.getD t ByteArray.empty ≠ s) (fun i => m - (intOf i).toNat)
  case atStart => exact ⟨0, Nat.zero_le _, rfl, fun t ht => absurd ht (by omega)⟩
  case round =>
    obtain ⟨k, hk, rfl, hne⟩ := hrel
    have HN := Lib.hid hne
    clear hne
    by_cases hlt : k < m
    · obtain ⟨b, of, rfl, hc⟩ := Sn k (by omega)
      obtain ⟨b2, of2, rfl, hc2⟩ := Si k (by omega)
      obtain ⟨b3, of3, rfl, hc3⟩ := Ss k (by omega)
      have q1 : k < names.length := by omega
      have q2 : k < ids.length := by omega
      have q3 : k < ns.length := by omega
      obtain ⟨x2, hx2⟩ : ∃ x, x = ids.getD k 0 := ⟨_, rfl⟩
      obtain ⟨x3, hx3⟩ : ∃ x, x = ns.getD k 0 := ⟨_, rfl⟩
      rw [← hx2] at hc2
      rw [← hx3] at hc3
      generalize hs : names.getD k ByteArray.empty = x at hc
      have HS := Lib.hid hs
      have X2 := Lib.hid hx2
      have X3 := Lib.hid hx3
      clear hs hx2 hx3 Sn Si Ss
      by_cases heq : x = s
      · subst heq
        go_wp2_with fail
        go_quiet (fail)
        go_wp2
        go_ret3
        exact ⟨⟨_, rfl⟩, .inl ⟨k, ⟨hlt, HS.out, HN.out⟩, by rw [← X2.out, ← X3.out]; rfl⟩⟩
      · have hb := bytes_ne heq
        have HQ := Lib.hid heq
        clear heq
        go_wp2
        go_round
        case rel =>
          refine ⟨k + 1, by omega, by go_num, ?_⟩
          intro u hu
          rcases Nat.lt_or_eq_of_le (Nat.le_of_lt_succ hu) with h | h
          · exact HN.out u h
          · subst h; rw [HS.out]; exact HQ.out
        case measure => simp [intOf]; omega
    · have he : k = m := by omega
      subst he
      clear hlt Sn Si Ss
      go_wp2
      go_ret3
      exact ⟨⟨0, rfl⟩, .inr ⟨HN.out, rfl⟩⟩

/-- the FindLabel laws' premise, at the target's fields -/
structure FlPre (n : Nat) (gotoPc gotoN tid tn : Int) (refUp : Bool) : Prop where
  p0 : 0 ≤ gotoPc
  p1 : gotoPc < n
  t0 : -131071 ≤ tid
  t1 : tid ≤ 131072
  nn : ¬ gotoN < tn
  set : (tn < gotoN ∧ refUp = true) → 1 ≤ gotoPc ∧ 0 ≤ tn ∧ tn ≤ 255

def FlSays (P : Prop) (w : World) (e : Ending) (w' : World) : Prop := ∃ b : Bool, e = .returned (.bool b) ∧ (b = false → P) ∧ Turn w w' (fun _ => False)

set_option maxRecDepth 100000 in
set_option maxHeartbeats 4000000 in
theorem flPremise_any (na : Option Addr) (nc : Nat) (names : List ByteArray) (ia : Option Addr) (ic : Nat) (ids : List Int) (sa : Option Addr) (sc : Nat) (ns : List Int) (a : Option Addr) (n c : Nat) (s : ByteArray) (gotoPc gotoN : Int) (refUp : Bool) (w : World) (Sn : Strs w na names) (Si : Ints .i64 w ia ids) (Ss : Ints .i64 w sa ns) (h1 : names.length ≤ 4096) (h2 : ids.length ≤ 4096) (h3 : ns.length ≤ 4096) (hn : n ≤ 1048576) (m : Nat) (hm : m = min (min names.length ids.length) ns.length) :
    Calls Tryf.prog 17 #[.slice na names.length nc, .slice ia ids.length ic, .slice sa ns.length sc, .slice a n c, .string s, .int .i64 gotoPc, .int .i64 gotoN, .bool refUp] w (FlSays (∀ i, IsTarget names m s i → FlPre n gotoPc gotoN (ids.getD i 0) (ns.getD i 0) refUp) w) := by
  go_enter Tryf.func17, Tryf.ntmps17
  go_wp2_with fail
  refine (modelTarget_any na nc names ia ic ids sa sc ns s _ Sn Si Ss h1 h2 h3 m hm).mono ?_
  rintro e w' ⟨⟨q, rfl⟩, hT⟩
  have T := drewN_turn w q (fun _ => False)
  generalize w.drewN q = wq at *
  rcases hT with ⟨i, hi, rfl⟩ | ⟨hno, rfl⟩
  · have huniq : ∀ j, IsTarget names m s j → j = i := fun j hj => by
      rcases Nat.lt_trichotomy j i with h | h | h
      · exact absurd hj.eq (hi.first j h)
      · exact h
      · exact absurd hi.eq (hj.first i h)
    have HU := Lib.hid huniq
    have HT := Lib.hid T
    obtain ⟨tid, htid⟩ : ∃ x, x = ids.getD i 0 := ⟨_, rfl⟩
    obtain ⟨tn, htn⟩ : ∃ x, x = ns.getD i 0 := ⟨_, rfl⟩
    rw [← htid, ← htn]
    have H1 := Lib.hid htid
    have H2 := Lib.hid htn
    clear hi huniq T htid htn hm Sn Si Ss
    have yes : ∀ b : Bool, b = true → FlSays (∀ i, IsTarget names m s i → FlPre n gotoPc gotoN (ids.getD i 0) (ns.getD i 0) refUp) w (.returned (.bool b)) wq := fun b hb => ⟨b, rfl, (fun h => by rw [hb] at h; cases h), HT.out⟩
    by_cases q1 : gotoPc < 0
    · go_wp2
      go_ret
      exact yes _ rfl
    by_cases q2 : (n : Int) ≤ gotoPc
    · go_wp2
      go_ret
      exact yes _ rfl
    by_cases q3 : tid < -131071
    · go_wp2
      go_ret
      exact yes _ rfl
    by_cases q4 : 131072 < tid
    · go_wp2
      go_ret
      exact yes _ rfl
    by_cases q5 : gotoN < tn
    · go_wp2
      go_ret
      exact yes _ rfl
    have no : ((tn < gotoN ∧ refUp = true) → 1 ≤ gotoPc ∧ 0 ≤ tn ∧ tn ≤ 255) → FlSays (∀ i, IsTarget names m s i → FlPre n gotoPc gotoN (ids.getD i 0) (ns.getD i 0) refUp) w (.returned (.bool false)) wq := fun h => ⟨false, rfl, (fun _ j hj => by
      rw [HU.out j hj, ← H1.out, ← H2.out]
      exact ⟨by omega, by omega, by omega, by omega, by omega, h⟩), HT.out⟩
    by_cases q6 : tn < gotoN
    · cases refUp with
      | false =>
        go_wp2
        go_ret
        exact no (fun h => by cases h.2)
      | true =>
        by_cases q7 : gotoPc < 1
        · go_wp2
          go_ret
          exact yes _ rfl
        by_cases q8 : tn < 0
        · go_wp2
          go_ret
          exact yes _ rfl
        by_cases q9 : 255 < tn
        · go_wp2
          go_ret
          exact yes _ rfl
        go_wp2
        go_ret
        exact no (fun _ => ⟨by omega, by omega, by omega⟩)
    · have q6' : gotoN ≤ tn := by omega
      go_wp2
      go_ret
      exact no (fun h => by have := h.1; omega)
  · have HN := Lib.hid hno
    have HT := Lib.hid T
    clear hno T hm Sn Si Ss
    go_wp2
    go_ret
    exact ⟨false, rfl, fun _ j hj => absurd hj.eq (HN.out j hj.lt), HT.out⟩
end Go.Proofs.YtdhmpfijdmlfoaaFmt
