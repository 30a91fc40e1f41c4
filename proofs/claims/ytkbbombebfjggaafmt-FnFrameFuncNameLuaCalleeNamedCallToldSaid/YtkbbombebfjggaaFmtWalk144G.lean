/- The walk of FnFrameFuncNameLuaCalleeNamedCall: it returns true. -/
import Derived.Test.YtkbbombebfjggaaFmtWalk144F
namespace Go.Proofs.YtkbbombebfjggaaFmt
open Go.RowKit
set_option linter.unusedVariables false

theorem blk6 (w : World) (o0 o1 o2 o3 o4 o5 : Obj) : ((((((w.alloc o0).alloc o1).alloc o2).alloc o3).alloc o4).alloc o5).heap[w.heap.size]? = some o0 ∧ ((((((w.alloc o0).alloc o1).alloc o2).alloc o3).alloc o4).alloc o5).heap[w.heap.size + 1]? = some o1 ∧ ((((((w.alloc o0).alloc o1).alloc o2).alloc o3).alloc o4).alloc o5).heap[w.heap.size + 1 + 1]? = some o2 ∧
    ((((((w.alloc o0).alloc o1).alloc o2).alloc o3).alloc o4).alloc o5).heap[w.heap.size + 1 + 1 + 1]? = some o3 ∧ ((((((w.alloc o0).alloc o1).alloc o2).alloc o3).alloc o4).alloc o5).heap[w.heap.size + 1 + 1 + 1 + 1]? = some o4 ∧ ((((((w.alloc o0).alloc o1).alloc o2).alloc o3).alloc o4).alloc o5).heap[w.heap.size + 1 + 1 + 1 + 1 + 1]? = some o5 := by
  obtain ⟨b0, b1, b2, b3, b4⟩ := blk5 w o0 o1 o2 o3 o4
  have s4 : (((((w.alloc o0).alloc o1).alloc o2).alloc o3).alloc o4).heap.size = w.heap.size + 1 + 1 + 1 + 1 + 1 := by simp
  have n5 := heap_alloc_new (((((w.alloc o0).alloc o1).alloc o2).alloc o3).alloc o4) o5
  rw [s4] at n5
  refine ⟨?_, ?_, ?_, ?_, ?_, n5⟩
  · rw [Below.heap_alloc _ _ _ (by omega), b0]
  · rw [Below.heap_alloc _ _ _ (by omega), b1]
  · rw [Below.heap_alloc _ _ _ (by omega), b2]
  · rw [Below.heap_alloc _ _ _ (by omega), b3]
  · rw [Below.heap_alloc _ _ _ (by omega), b4]

set_option maxRecDepth 100000 in
theorem ZZffn_lua (p : Option Addr) (fr frf pf pff pr d m β : Nat) (ppc tail : Int) (L : List ByteArray) (P : List Int) (w : World) (j : Nat) (hj : j < m) (hjz : P.getD j 0 = ppc - 1) (hjn : ∀ t, t < j → P.getD t 0 ≠ ppc - 1) (hjs : L.getD j ByteArray.empty ≠ ⟨#[63]⟩) (htl : tail ≤ 0) (hF : Frames w fr frf pf pff pr d m false ppc tail) (hD : Dbg w β d m L P) (hm : m ≤ 65536) (h1 : -1073741824 ≤ ppc) (h2 : ppc ≤ 1073741824) :
    Calls Tryf.prog 8 #[.pointer p, .pointer (some ⟨fr, 0, none⟩)] w fun e w' => e = .returned (.tuple #[.string (L.getD j ByteArray.empty), .bool false]) ∧ Turn w w' (fun _ => False) := by
  go_enter Tryf.func8, Tryf.ntmps8
  go_wp2_with fail
  refine (ffn_lua p fr frf pf pff pr d m β ppc tail L P _ j hj hjz hjn hjs htl hF hD hm h1 h2).mono ?_
  rintro e w' ⟨rfl, hT⟩
  go_wp2
  go_ret2
  exact ⟨rfl, hT⟩

/-- what the law's own search has found from k on -/
def Got (L : List ByteArray) (P : List Int) (z : Int) (m k : Nat) (f v : Value) : Prop :=
  (f = .bool false ∧ ∃ q, v = .string q) ∨ (∃ x, f = .bool true ∧ v = .string (L.getD x ByteArray.empty) ∧ k ≤ x ∧ x < m ∧ P.getD x 0 = z ∧ ∀ t, k ≤ t → t < x → P.getD t 0 ≠ z)

set_option maxRecDepth 100000 in
set_option maxHeartbeats 4000000 in
theorem walk_FnFrameFuncNameLuaCalleeNamedCall (ps : Bool) (ppc : Int) (pa : Option Addr) (plen pcap : Nat) (pzs : List Int) (na : Option Addr) (nlen ncap : Nat) (nss : List ByteArray) (tail : Int) (src : ByteArray) (ld : Int)
    (w : World) (w0 : (Lit.int .i64 ppc).wf = true) (hp : IsRow .i64 w pa plen pcap pzs) (hn : IsStrs w na nlen ncap nss) (w1 : (Lit.int .i64 tail).wf = true) (w2 : src.size ≤ maxLen) (w3 : (Lit.int .i64 ld).wf = true) :
    Calls Tryf.prog 3 #[.bool ps, .int .i64 ppc, .slice pa plen pcap, .slice na nlen ncap, .int .i64 tail, .string src, .int .i64 ld] w fun e w' => e = .returned (.bool true) ∧ Below w.heap.size w w' := by
  obtain ⟨P, rfl, SP, hzP, hmP, _⟩ := hp.open
  obtain ⟨L, rfl, SL, hzL, hmL, _⟩ := hn.open
  clear hp hn
  go_enter Tryf.func3, Tryf.ntmps3
  go_wp2_with fail
  refine (zzB_FnFrameFuncNameLuaCalleeNamedCall ps ppc pa P.length pcap na ncap L tail src ld _ hmP SL hmL hzL w2).mono ?_
  rintro e w' ⟨b, rfl, hb, rfl⟩
  cases b with
  | false =>
    go_wp2
    go_ret
    exact ⟨rfl, Below.refl _ _⟩
  | true =>
    have hb1 := hb rfl
    clear hb
    by_cases h1 : 65536 < P.length
    · go_wp2
      go_ret
      exact ⟨rfl, Below.refl _ _⟩
    by_cases h2 : 65536 < L.length
    · go_wp2
      go_ret
      exact ⟨rfl, Below.refl _ _⟩
    have h3 : src.size ≤ 1048576 := by omega
    go_wp2
    go_loop [15, 16] (fun n i => ∃ k : Nat, k ≤ L.length ∧ i = .int .i64 k ∧ n = .int .i64 ((8 * P.length + 16 * L.length + src.size + sumSizes (L.take k) : Nat) : Int) ∧ sumSizes (L.take k) ≤ 1048576) (fun _ i => L.length - (intOf i).toNat)
    case atStart => exact ⟨0, Nat.zero_le _, rfl, by rw [List.take_zero, sumSizes_nil]; go_num, by simp [sumSizes_nil]⟩
    case round =>
      obtain ⟨k, hk, rfl, rfl, hacc⟩ := hrel
      by_cases hlt : k < L.length
      · obtain ⟨b, off, rfl, hc⟩ := SL k hlt
        have hsum := sumSizes_take_succ L k hlt
        have hle := sumSizes_take_le L (k + 1)
        generalize hs : L.getD k ByteArray.empty = s at hc hsum
        have hsz : s.size ≤ maxLen := hzL s (by rw [← hs]; simp [List.getD, hlt])
        unfold maxLen at hsz
        generalize ht : sumSizes (L.take k) = t at hacc hsum ⊢
        rw [hsum] at hle
        by_cases hbig : 1048576 < 8 * P.length + 16 * L.length + src.size + t + s.size
        · clear hsum ht hs SL SP
          go_wp2
          go_ret
          exact ⟨rfl, Below.refl _ _⟩
        have HS := Lib.hid hsum
        have HT := Lib.hid ht
        have H := Lib.hid hs
        clear hsum ht hs SL SP
        go_wp2
        go_round
        case rel => exact ⟨k + 1, by omega, by go_num, by rw [HS.out]; go_num, by rw [HS.out]; omega⟩
        case measure => simp [intOf]; omega
      · have he : k = L.length := by omega
        subst he
        rw [List.take_length] at hacc ⊢
        clear hlt hk
        by_cases ht : 1048576 < 8 * P.length + 16 * L.length + src.size + sumSizes L
        · go_wp2
          go_ret
          exact ⟨rfl, Below.refl _ _⟩
        by_cases hlo : ppc < -1073741824
        · go_wp2
          go_ret
          exact ⟨rfl, Below.refl _ _⟩
        by_cases hhi : 1073741824 < ppc
        · go_wp2
          go_ret
          exact ⟨rfl, Below.refl _ _⟩
        by_cases htl : 0 < tail
        · go_wp2
          go_ret
          exact ⟨rfl, Below.refl _ _⟩
        go_wp2_with fail
        obtain ⟨m, hm⟩ : ∃ m, m = min P.length L.length := ⟨_, rfl⟩
        have hm1 : m ≤ L.length := by omega
        have hm2 : m ≤ P.length := by omega
        have hm3 : m ≤ 65536 := by omega
        refine (build_any pa pcap P na ncap L m _ hm (by omega) (by omega) SP SL).mono ?_
        rintro e w4 ⟨d, rfl, hD, hT⟩
        clear hm hb1 hacc
        have hB4 := hT.below (Nat.le_refl _) (fun _ h => h.elim)
        go_wp2
        go_loop [18, 19, 20] (fun f v i => ∃ k : Nat, k ≤ m ∧ i = .int .i64 ((k : Int) - 1) ∧ Got L P (ppc - 1) m k f v) (fun _ _ i => (intOf i + 1).toNat)
        case atStart => exact ⟨m, Nat.le_refl _, rfl, .inl ⟨rfl, _, rfl⟩⟩
        case round =>
          obtain ⟨k, hk, rfl, hq⟩ := hrel
          cases k with
          | zero =>
            have e : ((0 : Nat) : Int) - 1 = -1 := rfl
            rw [e]
            rcases hq with ⟨rfl, q, rfl⟩ | ⟨x, rfl, rfl, _, hx, hxz, hxn⟩
            · go_wp2
              go_ret
              exact ⟨rfl, hB4⟩
            · generalize hs : L.getD x ByteArray.empty = s
              by_cases hsq : s = ⟨#[63]⟩
              · clear hs
                subst hsq
                go_wp2
                go_ret
                exact ⟨rfl, hB4⟩
              · have hne := bytes_ne hsq
                have h63 := not63 hsq
                have HS := Lib.hid hs
                have HZ := Lib.hid hxz
                have HN := Lib.hid hxn
                clear hs hxz hxn
                have h64 : (s.toList == [63]) = false := by simpa using h63
                clear hne
                go_wp2_with fail
                refine (newState_any ps _).mono ?_
                rintro e w5 ⟨p, rfl, hT5⟩
                have hF : Frames w5 (w4.heap.size + 1 + 1 + 1 + 1 + 1) (w4.heap.size + 1 + 1 + 1 + 1) (w4.heap.size + 1 + 1) (w4.heap.size + 1) w4.heap.size d m false ppc tail := by
                  obtain ⟨b0, b1, b2, b3, b4, b5⟩ := blk6 w4 _ _ _ _ _ _
                  exact Frames.later ⟨cell_of_blk b5 2 _ rfl, cell_of_blk b5 1 _ rfl, cell_of_blk b4 0 _ rfl, cell_of_blk b5 9 _ rfl, cell_of_blk b2 1 _ rfl, cell_of_blk b2 3 _ rfl, cell_of_blk b1 0 _ rfl, cell_of_blk b1 2 _ rfl, cell_of_blk b0 12 _ rfl⟩ hT5
                have hT6 := ((((((hT.alloc _).alloc _).alloc _).alloc _).alloc _).alloc _).trans hT5
                have hD6 := (hD.later (((((((Turn.refl w4 _).alloc _).alloc _).alloc _).alloc _).alloc _).alloc _)).later hT5
                clear hT hT5 hD
                have hc := ZZffn_lua (some p) _ _ _ _ _ _ _ _ _ _ L P w5 x hx HZ.out (fun t h => HN.out t (Nat.zero_le _) h) (by rw [HS.out]; exact hsq) (by omega) hF hD6 hm3 hlo hhi
                rw [show L.getD x ByteArray.empty = s from HS.out] at hc
                go_wp2_with fail
                refine hc.mono ?_
                rintro e w7 ⟨rfl, hT7⟩
                have hT8 := hT6.trans hT7
                clear hF hD6 hT7 hT6 hc
                go_wp2
                go_ret
                exact ⟨by first | rfl | simp, hT8.below (Nat.le_refl _) (fun _ h => h.elim)⟩
          | succ j =>
            have e : ((j + 1 : Nat) : Int) - 1 = (j : Int) := by omega
            rw [e]
            have hn := hD.name j hk
            have hpc := hD.pc j hk
            generalize hs : L.getD j ByteArray.empty = s at hn
            generalize hz : P.getD j 0 = z at hpc
            have HS := Lib.hid hs
            have HZ := Lib.hid hz
            have HQ := Lib.hid hq
            clear hs hz hq
            by_cases hzz : z = ppc - 1
            · subst hzz
              go_wp2
              go_round
              case rel => exact ⟨j, by omega, rfl, .inr ⟨j, rfl, congrArg Value.string HS.out.symm, Nat.le_refl _, by omega, HZ.out, fun t h1 h2 => by omega⟩⟩
              case measure => first | (simp [intOf]; done) | (simp [intOf]; omega)
            · go_wp2
              go_round
              case rel =>
                refine ⟨j, by omega, rfl, ?_⟩
                rcases HQ.out with ⟨h1, h2⟩ | ⟨x, h1, h2, h3, h4, h5, h6⟩
                · exact .inl ⟨h1, h2⟩
                · refine .inr ⟨x, h1, h2, by omega, h4, h5, fun t t1 t2 => ?_⟩
                  rcases Nat.eq_or_lt_of_le t1 with rfl | t1
                  · rw [HZ.out]; exact hzz
                  · exact h6 t t1 t2
              case measure => first | (simp [intOf]; done) | (simp [intOf]; omega)
end Go.Proofs.YtkbbombebfjggaaFmt
