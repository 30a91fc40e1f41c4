/- The walk of FnPatchCodeCountSplitsAsMax: it returns true. Printed by wip/genP3.py. -/
import Derived.Test.YtieiaojabkpkfaaFmtWalkP
import Derived.Test.YtieiaojabkpkfaaFmtBytesP
import Derived.Test.YtieiaojabkpkfaaFmtWalkPM
namespace Go.Proofs.YtieiaojabkpkfaaFmt
open Go.RowKit
set_option linter.unusedVariables false

theorem ints_of_own {q : IntKind} {w : World} {β : Nat} {e : TypeId} {v : Value} {L : List Int} (h : w.ownsRow β e 1 v L.length (L.map (Value.int q))) : ∃ ao c, v = .slice ao L.length c ∧ Ints q w ao L := by
  have h' := h
  obtain ⟨_, ⟨rfl, h0⟩ | ⟨g, cap, cur, rfl, _⟩⟩ := h
  · exact ⟨none, 0, by rw [h0], fun k hk => absurd hk (by omega)⟩
  · exact ⟨_, cap, rfl, ints_of_owned h'⟩

theorem ints_of_below {q : IntKind} {w w' : World} {a : Option Addr} {L : List Int} (h : Below w.heap.size w w') (S : Ints q w a L) : ∀ k, k < L.length → ∃ b o, a = some ⟨b, o, none⟩ ∧ w'.cell? ⟨b, o + k, none⟩ = some (.int q (L.getD k 0)) := ints_later h S

theorem jump_app {A B : List Int} (h1 : NoJump A) (h2 : NoJump B) : NoJump (A ++ B) := by
  intro k hk
  by_cases c : k < A.length
  · rw [getD_app_l A B k c]; exact h1 k c
  · have hk2 : k < A.length + B.length := by simpa using hk
    obtain ⟨d, rfl⟩ : ∃ d, k = A.length + d := ⟨k - A.length, by omega⟩
    rw [getD_app_r]; exact h2 d (by omega)
theorem small_app {A B : List Int} (h1 : Small A) (h2 : Small B) : Small (A ++ B) := by
  intro k hk
  by_cases c : k < A.length
  · rw [getD_app_l A B k c]; exact h1 k c
  · have hk2 : k < A.length + B.length := by simpa using hk
    obtain ⟨d, rfl⟩ : ∃ d, k = A.length + d := ⟨k - A.length, by omega⟩
    rw [getD_app_r]; exact h2 d (by omega)
theorem all32_app {A B : List Int} (h1 : All32 A) (h2 : All32 B) : All32 (A ++ B) := by
  intro k hk
  by_cases c : k < A.length
  · rw [getD_app_l A B k c]; exact h1 k c
  · have hk2 : k < A.length + B.length := by simpa using hk
    obtain ⟨d, rfl⟩ : ∃ d, k = A.length + d := ⟨k - A.length, by omega⟩
    rw [getD_app_r]; exact h2 d (by omega)

/-- two rows that a call owns, and what it has left as it was -/
structure Two (w w3 wr : World) (v8 : Value) (X : List Int) (v9 : Value) (Y : List Int) : Prop where
  own1 : wr.ownsRow w3.heap.size 30 1 v8 X.length (X.map (Value.int .u32))
  own2 : wr.ownsRow w3.heap.size 30 1 v9 Y.length (Y.map (Value.int .u32))
  ne : ∀ k, v8.ownBlock = some k → v9.ownBlock ≠ some k
  bel : Below w3.heap.size w3 wr
  belw : Below w.heap.size w wr

/-- the first row has grown by one -/
theorem Two.grow1 {w w3 wr w' : World} {v8 v9 v' : Value} {X Y : List Int} {x : Int} (h : Two w w3 wr v8 X v9 Y) (hw : w.heap.size ≤ w3.heap.size)
    (own : w'.ownsRow w3.heap.size 30 1 v' (X.length + 1) (X.map (Value.int .u32) ++ [.int .u32 x])) (gr : (wr.alloc (.cells #[.int .u32 x] 30)).grownBy w' v8.ownBlock) (loc : v'.ownBlock = v8.ownBlock ∨ v'.ownBlock = some (wr.heap.size + 1)) :
    Two w w3 w' v' (X ++ [x]) v9 Y := by
  have hs := h.bel.size
  have T : Turn wr w' (fun k => v8.ownBlock = some k) := ((Turn.refl wr _).alloc _).grown gr (fun k hk _ => hk)
  have hge : ∀ k, v8.ownBlock = some k → w3.heap.size ≤ k := fun k hk => (h.own1.lt k hk).1
  refine ⟨?_, T.ownsRow h.own2 (fun k hk e => h.ne k e hk), ?_, h.bel.trans (T.below hs hge), h.belw.trans (T.below h.belw.size (fun k hk => Nat.le_trans hw (hge k hk)))⟩
  · have e1 : (X ++ [x]).length = X.length + 1 := by simp
    have e2 : (X ++ [x]).map (Value.int .u32) = X.map (Value.int .u32) ++ [.int .u32 x] := by simp
    rw [e1, e2]; exact own
  · intro k hk e
    rcases loc with l | l
    · exact h.ne k (by rw [← l, hk]) e
    · have h1 := (h.own2.lt k e).2
      rw [l] at hk
      have : wr.heap.size + 1 = k := by simpa using hk
      omega
theorem Two.swap {w w3 wr : World} {v8 v9 : Value} {X Y : List Int} (h : Two w w3 wr v8 X v9 Y) : Two w w3 wr v9 Y v8 X := ⟨h.own2, h.own1, fun k a b => h.ne k b a, h.bel, h.belw⟩

set_option maxRecDepth 100000 in
set_option maxHeartbeats 4000000 in
theorem walk_FnPatchCodeCountSplitsAsMax (a : Option Addr) (len c : Nat) (zs : List Int) (a2 : Option Addr) (len2 c2 : Nat) (zs2 : List Int) (np : Int) (w : World) (h : IsRow .u32 w a len c zs) (h2 : IsRow .u32 w a2 len2 c2 zs2) (hnp : (Lit.int .u8 np).wf = true) :
    Calls Tryf.prog 5 #[.slice a len c, .slice a2 len2 c2, .int .u8 np] w fun e w' => e = .returned (.bool true) ∧ Below w.heap.size w w' := by
  obtain ⟨A, rfl, SA, hwf, hm, hnil⟩ := h.open
  obtain ⟨B, rfl, SB, hwf2, hm2, hnil2⟩ := h2.open
  have h32 := all32_of hwf
  have h32b := all32_of hwf2
  have hnp := u8_of hnp
  obtain ⟨i0, hi, hz0, hz1, hz2⟩ := info_parts infoU32
  clear h hwf h2 hwf2
  go_enter Tryf.func5, Tryf.ntmps5
  go_wp2_with fail
  refine (zzB_FnPatchCodeCountSplitsAsMax a A.length c a2 B.length c2 np _ hm hm2).mono ?_
  rintro e w' ⟨b, rfl, hb, rfl⟩
  cases b with
  | false =>
    go_wp2
    go_ret
    exact ⟨rfl, Below.refl _ _⟩
  | true =>
  have hb1 := hb rfl
  clear hb hm hm2
  by_cases q1 : 65536 < A.length
  · go_wp2
    go_ret
    exact ⟨rfl, Below.refl _ _⟩
  by_cases q1b : 65536 < B.length
  · go_wp2
    go_ret
    exact ⟨rfl, Below.refl _ _⟩
  by_cases q2 : 199 < np
  · go_wp2
    go_ret
    exact ⟨rfl, Below.refl _ _⟩
  go_wp2_with fail
  refine (hasJump_any a c A _ SA h32 (by omega)).mono ?_
  rintro e w' ⟨⟨b, rfl, hj⟩, rfl⟩
  cases b with
  | true =>
    clear hj
    go_wp2
    go_ret
    exact ⟨rfl, Below.refl _ _⟩
  | false =>
  have HJA := Lib.hid (hj rfl)
  clear hj
  go_wp2_with fail
  refine (hasJump_any a2 c2 B _ SB h32b (by omega)).mono ?_
  rintro e w' ⟨⟨b, rfl, hj⟩, rfl⟩
  cases b with
  | true =>
    clear hj
    go_wp2
    go_ret
    exact ⟨rfl, Below.refl _ _⟩
  | false =>
  have HJB := Lib.hid (hj rfl)
  clear hj
  go_wp2_with fail
  refine (fieldsSmall_any a c A _ SA h32 (by omega)).mono ?_
  rintro e w' ⟨⟨b, rfl, hs⟩, rfl⟩
  cases b with
  | false =>
    clear hs
    go_wp2
    go_ret
    exact ⟨rfl, Below.refl _ _⟩
  | true =>
  have HSA := Lib.hid (hs rfl)
  clear hs
  go_wp2_with fail
  refine (fieldsSmall_any a2 c2 B _ SB h32b (by omega)).mono ?_
  rintro e w' ⟨⟨b, rfl, hs⟩, rfl⟩
  cases b with
  | false =>
    clear hs
    go_wp2
    go_ret
    exact ⟨rfl, Below.refl _ _⟩
  | true =>
  have HSB := Lib.hid (hs rfl)
  clear hs
  go_wp2_with fail
  refine (cloneW_any a c A _ SA (by omega) hnil).mono ?_
  rintro e w1 ⟨a', c', rfl, SA1, hB1, _⟩
  have SB1 := ints_later hB1 SB
  clear SA SB hnil
  go_wp2_with fail
  refine (cloneW_any a2 c2 B _ SB1 (by omega) hnil2).mono ?_
  rintro e w3 ⟨a2', c2', rfl, SB3, hB2, _⟩
  have SA3 := ints_later hB2 SA1
  have hB3 := hB1.trans (hB2.mono hB1.size)
  have H32A := Lib.hid h32
  have H32B := Lib.hid h32b
  have hs3 := hB3.size
  clear SA1 SB1 hnil2 h32 h32b hB1 hB2
  go_wp2_with (at_make; refine wpList_make_own _ rfl _ _ 22 rfl w3.heap.size 30 i0 (.int .u32 0) 1 Tryf.underlying22 hi hz0 hz1 .i64 .i64 _ (A.length + B.length) rfl rfl rfl ?c2 ?c3 ?c4 ?_)
  case c2 => rw [hz2]; omega
  case c3 => unfold maxLen; omega
  case c4 => simp
  intro w4 hown4 hgrow4
  have hs4 := hgrow4.size
  have T4 : Turn w3 w4 (fun _ => False) := (Turn.refl w3 _).grown hgrow4 (fun k h _ => by cases h)
  clear hgrow4
  go_wp2_with (at_make; refine wpList_make_own _ rfl _ _ 22 rfl w3.heap.size 30 i0 (.int .u32 0) 1 Tryf.underlying22 hi hz0 hz1 .i64 .i64 _ (A.length + B.length) rfl rfl rfl ?d2 ?d3 ?d4 ?_)
  case d2 => rw [hz2]; omega
  case d3 => unfold maxLen; omega
  case d4 => omega
  intro w5 hown5 hgrow5
  have T5 : Turn w4 w5 (fun _ => False) := (Turn.refl w4 _).grown hgrow5 (fun k h _ => by cases h)
  have hlt4 : w3.heap.size < w4.heap.size := (hown4.lt _ rfl).2
  have two : Two w w3 w5 (.slice (some ⟨w3.heap.size, 0, none⟩) 0 (A.length + B.length)) [] (.slice (some ⟨w4.heap.size, 0, none⟩) 0 (A.length + B.length)) [] := by
    refine ⟨T5.ownsRow hown4 (fun _ _ => id), hown5, ?_, (T4.below (Nat.le_refl _) (fun _ h => h.elim)).trans (T5.below T4.size (fun _ h => h.elim)), (hB3.trans ((T4.below (Nat.le_refl _) (fun _ h => h.elim)).mono hs3)).trans ((T5.below T4.size (fun _ h => h.elim)).mono hs3)⟩
    intro k h1 h2
    have e1 : w3.heap.size = k := by simpa [Value.ownBlock] using h1
    have e2 : w4.heap.size = k := by simpa [Value.ownBlock] using h2
    omega
  have HT := Lib.hid two
  clear two hown4 hown5 hgrow5 T4 T5 hlt4 hs4
  go_wp2
  go_loopw [7, 9] (fun s7 s wr => ∃ k : Nat, k ≤ A.length ∧ s = .int .i64 k ∧ Two w w3 wr s7 (A.take k) (.slice (some ⟨w4.heap.size, 0, none⟩) 0 (A.length + B.length)) []) (fun _ s _ => A.length - (intOf s).toNat)
  case atStart => exact ⟨0, Nat.zero_le _, rfl, HT.out⟩
  case round =>
    clear HT
    obtain ⟨k, hk, rfl, hT⟩ := hrel
    by_cases hlt : k < A.length
    · skip
      have hbel := hT.bel
      have hsw := hbel.size
      obtain ⟨b, o, rfl, hc⟩ := ints_of_below hbel SA3 k hlt
      have htk : A.take (k + 1) = A.take k ++ [A.getD k 0] := by
        rw [List.take_succ_eq_append_getElem hlt]; simp [List.getD, hlt]
      have hlk : (A.take k).length = k := by simp; omega
      have hle : (A.take k).length ≤ 65536 := by omega
      generalize A.getD k 0 = x at hc htk
      generalize hX : A.take k = X at hT htk hlk hle
      have HX := Lib.hid hX
      have HK := Lib.hid htk
      have HLK := Lib.hid hlk
      clear hX
      have zk : (k : Int) < (A.length : Int) := by omega
      clear htk hlk
      go_wp2_with (at_builtin; refine wpList_append_own_at _ rfl _ _ 22 rfl w3.heap.size 30 i0 (.int .u32 0) 1 4 Tryf.underlying22 hi hz0 hz1 hz2 rfl (by decide) u7 X.length _ rfl (hT.own1.alloc _) ⟨wr.heap.size, 0, none⟩ 1 1 [.int .u32 x] rfl rfl ?c1 ?c2 ?c3 ?c4 ?c5 ?_)
      case c1 => exact cell_one_new _ _ _
      case c2 => intro u hu; simp at hu; subst hu; rfl
      case c3 => unfold maxLen; omega
      case c4 => omega
      case c5 => simp; omega
      intro v7 wn hown hgrow _ hloc
      have hT2 := hT.grow1 hs3 hown hgrow hloc
      rw [← HK.out] at hT2
      have HT2 := Lib.hid hT2
      clear hT hT2 hown hgrow hloc hbel hsw hc
      go_wp2
      go_roundw
      case rel => exact ⟨k + 1, by omega, by go_num, HT2.out⟩
      case measure => simp [intOf]; omega
    · have he : k = A.length := by omega
      subst he
      rw [List.take_length] at hT
      have HT := Lib.hid hT
      clear hT hlt hk
      generalize hW1 : wr = wA at *
      clear hW1
      go_wp2
      go_loopw [7, 8, 10] (fun s7 s8 s wr => ∃ k : Nat, k ≤ B.length ∧ s = .int .i64 k ∧ Two w w3 wr s7 (A ++ B.take k) s8 (B.take k)) (fun _ _ s _ => B.length - (intOf s).toNat)
      case atStart => exact ⟨0, Nat.zero_le _, rfl, by simpa using HT.out⟩
      case round =>
        clear HT
        obtain ⟨k, hk, rfl, hT⟩ := hrel
        by_cases hlt : k < B.length
        · skip
          have hbel := hT.bel
          have hsw := hbel.size
          obtain ⟨b, o, rfl, hc3⟩ := SB3 k hlt
          have htk : B.take (k + 1) = B.take k ++ [B.getD k 0] := by
            rw [List.take_succ_eq_append_getElem hlt]; simp [List.getD, hlt]
          have hlk : (B.take k).length = k := by simp; omega
          have hle : (B.take k).length ≤ 65536 := by omega
          have hc := (hbel.cell (p := ⟨b, o + k, none⟩) (World.block_lt_of_cell? _ _ hc3)).trans hc3
          generalize B.getD k 0 = x at hc hc3 htk
          generalize hX : B.take k = X at hT htk hlk hle
          have HX := Lib.hid hX
          have HK := Lib.hid htk
          have HLK := Lib.hid hlk
          clear hX
          have zk : (k : Int) < (B.length : Int) := by omega
          clear htk hlk
          have hl2 : (A ++ X).length = A.length + X.length := by simp
          have hle2 : (A ++ X).length ≤ 131072 := by omega
          have hz : A ++ B.take (k + 1) = (A ++ X) ++ [x] := by rw [HK.out, List.append_assoc]
          generalize A ++ X = Z at hT hle2 hz
          have HZ := Lib.hid hz
          clear hl2 hz
          go_wp2_with (at_builtin; refine wpList_append_own_at _ rfl _ _ 22 rfl w3.heap.size 30 i0 (.int .u32 0) 1 4 Tryf.underlying22 hi hz0 hz1 hz2 rfl (by decide) u7 Z.length _ rfl (hT.own1.alloc _) ⟨wr.heap.size, 0, none⟩ 1 1 [.int .u32 x] rfl rfl ?c1 ?c2 ?c3 ?c4 ?c5 ?_)
          case c1 => exact cell_one_new _ _ _
          case c2 => intro u hu; simp at hu; subst hu; rfl
          case c3 => unfold maxLen; omega
          case c4 => omega
          case c5 => simp; omega
          intro v7 wn hown hgrow _ hloc
          have hT2 := (hT.grow1 hs3 hown hgrow hloc).swap
          have hsn := hT2.bel.size
          clear hT hown hgrow hloc hbel hsw
          have hcn : wn.cell? ⟨b, o + k, none⟩ = some (.int .u32 x) := (hT2.bel.cell (World.block_lt_of_cell? _ _ hc3)).trans hc3
          go_wp2_with (at_builtin; refine wpList_append_own_at _ rfl _ _ 22 rfl w3.heap.size 30 i0 (.int .u32 0) 1 4 Tryf.underlying22 hi hz0 hz1 hz2 rfl (by decide) u8 X.length _ rfl (hT2.own1.alloc _) ⟨wn.heap.size, 0, none⟩ 1 1 [.int .u32 x] rfl rfl ?d1 ?d2 ?d3 ?d4 ?d5 ?_)
          case d1 => exact cell_one_new _ _ _
          case d2 => intro u hu; simp at hu; subst hu; rfl
          case d3 => unfold maxLen; omega
          case d4 => omega
          case d5 => simp; omega
          intro v8 wm hown hgrow _ hloc
          have hT3 := (hT2.grow1 hs3 hown hgrow hloc).swap
          rw [← HK.out, ← HZ.out] at hT3
          have HT3 := Lib.hid hT3
          clear hT2 hT3 hown hgrow hloc hc hcn
          go_wp2
          go_roundw
          case rel => exact ⟨k + 1, by omega, by go_num, HT3.out⟩
          case measure => simp [intOf]; omega
        · have he : k = B.length := by omega
          subst he
          rw [List.take_length] at hT
          have HT := Lib.hid hT
          clear hT hlt hk
          generalize hW1 : wr = wB at *
          clear hW1
          go_wp2
          go_loopw [8, 11] (fun s8 s wr => ∃ k : Nat, k ≤ A.length ∧ s = .int .i64 k ∧ Two w w3 wr s8 (B ++ A.take k) u7 (A ++ B)) (fun _ s _ => A.length - (intOf s).toNat)
          case atStart => exact ⟨0, Nat.zero_le _, rfl, by simpa using HT.out.swap⟩
          case round =>
            clear HT
            obtain ⟨k, hk, rfl, hT⟩ := hrel
            by_cases hlt : k < A.length
            · skip
              have hbel := hT.bel
              have hsw := hbel.size
              obtain ⟨b, o, rfl, hc⟩ := ints_of_below hbel SA3 k hlt
              have htk : A.take (k + 1) = A.take k ++ [A.getD k 0] := by
                rw [List.take_succ_eq_append_getElem hlt]; simp [List.getD, hlt]
              have hlk : (A.take k).length = k := by simp; omega
              have hle : (A.take k).length ≤ 65536 := by omega
              generalize A.getD k 0 = x at hc htk
              generalize hX : A.take k = X at hT htk hlk hle
              have HX := Lib.hid hX
              have HK := Lib.hid htk
              have HLK := Lib.hid hlk
              clear hX
              have zk : (k : Int) < (A.length : Int) := by omega
              clear htk hlk
              have hl2 : (B ++ X).length = B.length + X.length := by simp
              have hle2 : (B ++ X).length ≤ 131072 := by omega
              have hz : B ++ A.take (k + 1) = (B ++ X) ++ [x] := by rw [HK.out, List.append_assoc]
              generalize B ++ X = Z at hT hle2 hz
              have HZ := Lib.hid hz
              clear hl2 hz
              go_wp2_with (at_builtin; refine wpList_append_own_at _ rfl _ _ 22 rfl w3.heap.size 30 i0 (.int .u32 0) 1 4 Tryf.underlying22 hi hz0 hz1 hz2 rfl (by decide) u8 Z.length _ rfl (hT.own1.alloc _) ⟨wr.heap.size, 0, none⟩ 1 1 [.int .u32 x] rfl rfl ?c1 ?c2 ?c3 ?c4 ?c5 ?_)
              case c1 => exact cell_one_new _ _ _
              case c2 => intro u hu; simp at hu; subst hu; rfl
              case c3 => unfold maxLen; omega
              case c4 => omega
              case c5 => simp; omega
              intro v8 wn hown hgrow _ hloc
              have hT2 := hT.grow1 hs3 hown hgrow hloc
              rw [← HZ.out] at hT2
              have HT2 := Lib.hid hT2
              clear hT hT2 hown hgrow hloc hbel hsw hc
              go_wp2
              go_roundw
              case rel => exact ⟨k + 1, by omega, by go_num, HT2.out⟩
              case measure => simp [intOf]; omega
            · have he : k = A.length := by omega
              subst he
              rw [List.take_length] at hT
              clear hlt hk
              obtain ⟨ao, co, hv, SX⟩ := ints_of_own hT.own2
              subst hv
              obtain ⟨ao2, co2, hv, SY⟩ := ints_of_own hT.own1
              subst hv
              have SA := ints_later hT.bel SA3
              have SB := ints_later hT.bel SB3
              have hB0 := hT.belw
              have hlen : (A ++ B).length = A.length + B.length := by simp
              have hlen2 : (B ++ A).length = B.length + A.length := by simp
              have rAB := regs_app A B np
              have rBA := regs_swap A B np
              have jAB := jump_app HJA.out HJB.out
              have jBA := jump_app HJB.out HJA.out
              have sAB := small_app HSA.out HSB.out
              have sBA := small_app HSB.out HSA.out
              have lAB := all32_app H32A.out H32B.out
              have lBA := all32_app H32B.out H32A.out
              have b1 : (A ++ B).length ≤ 1048576 := by omega
              have b2 : (B ++ A).length ≤ 1048576 := by omega
              have C1 := fun (wx : World) (S : Ints .u32 wx a' A) => countOf_any a' c' A np wx S (by omega) H32A.out HJA.out HSA.out (by omega) (by omega)
              have C2 := fun (wx : World) (S : Ints .u32 wx a2' B) => countOf_any a2' c2' B np wx S (by omega) H32B.out HJB.out HSB.out (by omega) (by omega)
              have C3 := fun (wx : World) (S : Ints .u32 wx ao (A ++ B)) => countOf_any ao co (A ++ B) np wx S b1 lAB jAB sAB (by omega) (by omega)
              have C4 := fun (wx : World) (S : Ints .u32 wx ao2 (B ++ A)) => countOf_any ao2 co2 (B ++ A) np wx S b2 lBA jBA sBA (by omega) (by omega)
              unfold Counted at C1 C2 C3 C4
              simp only [List.length_append] at C3 C4
              rw [rBA] at C4
              rw [rAB] at C3 C4
              generalize regs A np = r1 at C1 C3 C4
              generalize regs B np = r2 at C2 C3 C4
              have K1 := Lib.hid C1
              have K2 := Lib.hid C2
              have K3 := Lib.hid C3
              have K4 := Lib.hid C4
              clear C1 C2 C3 C4 rAB rBA jAB jBA sAB sBA lAB lBA hlen hlen2 b1 b2 hT SA3 SB3
              by_cases hlt : r1 < r2
              · have K5 := K3.out
                have K6 := K4.out
                simp only [if_pos hlt] at K5 K6
                have K7 := Lib.hid K5
                have K8 := Lib.hid K6
                clear K5 K6 K3 K4
                go_wp2_with fail
                refine (K1.out _ SA).mono ?_
                rintro e w6 ⟨rfl, hB1⟩
                go_wp2_with fail
                refine (K2.out _ (ints_later hB1 SB)).mono ?_
                rintro e w7 ⟨rfl, hB2⟩
                have hB12 := hB1.trans (hB2.mono hB1.size)
                go_wp2_with fail
                refine (K7.out _ (ints_later hB12 SX)).mono ?_
                rintro e w8 ⟨rfl, hB3⟩
                have hB13 := hB12.trans (hB3.mono hB12.size)
                go_wp2_with fail
                refine (K8.out _ (ints_later hB13 SY)).mono ?_
                rintro e w9 ⟨rfl, hB4⟩
                have hB14 := hB0.trans ((hB13.trans (hB4.mono hB13.size)).mono hB0.size)
                clear SA SB SX SY hB1 hB2 hB3 hB4 hB12 hB13 K1 K2 K7 K8
                go_wp2
                go_ret
                exact ⟨rfl, hB14⟩
              · have K5 := K3.out
                have K6 := K4.out
                simp only [if_neg hlt] at K5 K6
                have K7 := Lib.hid K5
                have K8 := Lib.hid K6
                clear K5 K6 K3 K4
                go_wp2_with fail
                refine (K1.out _ SA).mono ?_
                rintro e w6 ⟨rfl, hB1⟩
                go_wp2_with fail
                refine (K2.out _ (ints_later hB1 SB)).mono ?_
                rintro e w7 ⟨rfl, hB2⟩
                have hB12 := hB1.trans (hB2.mono hB1.size)
                go_wp2_with fail
                refine (K7.out _ (ints_later hB12 SX)).mono ?_
                rintro e w8 ⟨rfl, hB3⟩
                have hB13 := hB12.trans (hB3.mono hB12.size)
                go_wp2_with fail
                refine (K8.out _ (ints_later hB13 SY)).mono ?_
                rintro e w9 ⟨rfl, hB4⟩
                have hB14 := hB0.trans ((hB13.trans (hB4.mono hB13.size)).mono hB0.size)
                clear SA SB SX SY hB1 hB2 hB3 hB4 hB12 hB13 K1 K2 K7 K8
                go_wp2
                go_ret
                exact ⟨rfl, hB14⟩
end Go.Proofs.YtieiaojabkpkfaaFmt
