/- The walk of FnFrameFuncNameGoCallee: it returns true. -/
import Derived.Test.YtkbbombebfjggaaFmtFfn144
namespace Go.Proofs.YtkbbombebfjggaaFmt
open Go.RowKit
set_option linter.unusedVariables false

theorem sumSizes_take_le (L : List ByteArray) (k : Nat) : sumSizes (L.take k) ≤ sumSizes L := by
  have h : L.take k ++ L.drop k = L := List.take_append_drop k L
  have e : sumSizes (L.take k) + sumSizes (L.drop k) = sumSizes L := by
    conv => rhs; rw [← h]
    unfold sumSizes
    rw [List.map_append, List.sum_append]
  omega

theorem blk5 (w : World) (o0 o1 o2 o3 o4 : Obj) : (((((w.alloc o0).alloc o1).alloc o2).alloc o3).alloc o4).heap[w.heap.size]? = some o0 ∧ (((((w.alloc o0).alloc o1).alloc o2).alloc o3).alloc o4).heap[w.heap.size + 1]? = some o1 ∧ (((((w.alloc o0).alloc o1).alloc o2).alloc o3).alloc o4).heap[w.heap.size + 1 + 1]? = some o2 ∧
    (((((w.alloc o0).alloc o1).alloc o2).alloc o3).alloc o4).heap[w.heap.size + 1 + 1 + 1]? = some o3 ∧ (((((w.alloc o0).alloc o1).alloc o2).alloc o3).alloc o4).heap[w.heap.size + 1 + 1 + 1 + 1]? = some o4 := by
  have s0 : (w.alloc o0).heap.size = w.heap.size + 1 := by simp
  have s1 : ((w.alloc o0).alloc o1).heap.size = w.heap.size + 1 + 1 := by simp
  have s2 : (((w.alloc o0).alloc o1).alloc o2).heap.size = w.heap.size + 1 + 1 + 1 := by simp
  have s3 : ((((w.alloc o0).alloc o1).alloc o2).alloc o3).heap.size = w.heap.size + 1 + 1 + 1 + 1 := by simp
  have n0 := heap_alloc_new w o0
  have n1 := heap_alloc_new (w.alloc o0) o1
  have n2 := heap_alloc_new ((w.alloc o0).alloc o1) o2
  have n3 := heap_alloc_new (((w.alloc o0).alloc o1).alloc o2) o3
  have n4 := heap_alloc_new ((((w.alloc o0).alloc o1).alloc o2).alloc o3) o4
  rw [s0] at n1
  rw [s1] at n2
  rw [s2] at n3
  rw [s3] at n4
  refine ⟨?_, ?_, ?_, ?_, n4⟩
  · rw [Below.heap_alloc _ _ _ (by omega), Below.heap_alloc _ _ _ (by omega), Below.heap_alloc _ _ _ (by omega), Below.heap_alloc _ _ _ (by omega), n0]
  · rw [Below.heap_alloc _ _ _ (by omega), Below.heap_alloc _ _ _ (by omega), Below.heap_alloc _ _ _ (by omega), n1]
  · rw [Below.heap_alloc _ _ _ (by omega), Below.heap_alloc _ _ _ (by omega), n2]
  · rw [Below.heap_alloc _ _ _ (by omega), n3]

set_option maxRecDepth 100000 in
theorem ZZffn_go (p : Option Addr) (fr frf pf pff pr d m β : Nat) (ppc tail : Int) (L : List ByteArray) (P : List Int) (w : World) (hF : Frames w fr frf pf pff pr d m true ppc tail) (hD : Dbg w β d m L P) (hm : m ≤ 65536) (h1 : -1073741824 ≤ ppc) (h2 : ppc ≤ 1073741824) :
    Calls Tryf.prog 8 #[.pointer p, .pointer (some ⟨fr, 0, none⟩)] w fun e w' => ∃ r, e = .returned (.tuple #[.string r, .bool false]) ∧ FirstFrom L P (ppc - 1) anonB m 0 r ∧ Turn w w' (fun _ => False) := by
  go_enter Tryf.func8, Tryf.ntmps8
  go_wp2_with fail
  refine (ffn_go p fr frf pf pff pr d m β ppc tail L P _ hF hD hm h1 h2).mono ?_
  rintro e w' ⟨r, rfl, hr, hT⟩
  go_wp2
  go_ret2
  exact ⟨r, rfl, hr, hT⟩

set_option maxRecDepth 100000 in
set_option maxHeartbeats 4000000 in
theorem walk_FnFrameFuncNameGoCallee (ps pf ig : Bool) (ppc : Int) (pa : Option Addr) (plen pcap : Nat) (pzs : List Int) (na : Option Addr) (nlen ncap : Nat) (nss : List ByteArray) (tail : Int)
    (w : World) (w0 : (Lit.int .i64 ppc).wf = true) (hp : IsRow .i64 w pa plen pcap pzs) (hn : IsStrs w na nlen ncap nss) (w1 : (Lit.int .i64 tail).wf = true) :
    Calls Tryf.prog 4 #[.bool ps, .bool pf, .bool ig, .int .i64 ppc, .slice pa plen pcap, .slice na nlen ncap, .int .i64 tail] w fun e w' => e = .returned (.bool true) ∧ Below w.heap.size w w' := by
  obtain ⟨P, rfl, SP, hzP, hmP, _⟩ := hp.open
  obtain ⟨L, rfl, SL, hzL, hmL, _⟩ := hn.open
  clear hp hn
  go_enter Tryf.func4, Tryf.ntmps4
  go_wp2_with fail
  refine (zzB_FnFrameFuncNameGoCallee ps pf ig ppc pa P.length pcap na ncap L tail _ hmP SL hmL hzL).mono ?_
  rintro e w' ⟨b, rfl, hb, rfl⟩
  cases b with
  | false =>
    go_wp2
    go_ret
    exact ⟨rfl, Below.refl _ _⟩
  | true =>
    have hb1 := hb rfl
    clear hb
    by_cases h1 : 65536 < P.length
    · go_wp2
      go_ret
      exact ⟨rfl, Below.refl _ _⟩
    by_cases h2 : 65536 < L.length
    · go_wp2
      go_ret
      exact ⟨rfl, Below.refl _ _⟩
    go_wp2
    go_loop [15, 16] (fun n i => ∃ k : Nat, k ≤ L.length ∧ i = .int .i64 k ∧ n = .int .i64 ((8 * P.length + 16 * L.length + sumSizes (L.take k) : Nat) : Int) ∧ sumSizes (L.take k) ≤ 1048576) (fun _ i => L.length - (intOf i).toNat)
    case atStart => exact ⟨0, Nat.zero_le _, rfl, by rw [List.take_zero, sumSizes_nil]; go_num, by simp [sumSizes_nil]⟩
    case round =>
      obtain ⟨k, hk, rfl, rfl, hacc⟩ := hrel
      by_cases hlt : k < L.length
      · obtain ⟨b, off, rfl, hc⟩ := SL k hlt
        have hsum := sumSizes_take_succ L k hlt
        have hle := sumSizes_take_le L (k + 1)
        generalize hs : L.getD k ByteArray.empty = s at hc hsum
        have hsz : s.size ≤ maxLen := hzL s (by rw [← hs]; simp [List.getD, hlt])
        unfold maxLen at hsz
        generalize ht : sumSizes (L.take k) = t at hacc hsum ⊢
        rw [hsum] at hle
        by_cases hbig : 1048576 < 8 * P.length + 16 * L.length + t + s.size
        · clear hsum ht hs SL SP
          go_wp2
          go_ret
          exact ⟨rfl, Below.refl _ _⟩
        have HS := Lib.hid hsum
        have HT := Lib.hid ht
        have H := Lib.hid hs
        clear hsum ht hs SL SP
        go_wp2
        go_round
        case rel => exact ⟨k + 1, by omega, by go_num, by rw [HS.out]; go_num, by rw [HS.out]; omega⟩
        case measure => simp [intOf]; omega
      · have he : k = L.length := by omega
        subst he
        rw [List.take_length] at hacc ⊢
        clear hlt hk
        by_cases ht : 1048576 < 8 * P.length + 16 * L.length + sumSizes L
        · go_wp2
          go_ret
          exact ⟨rfl, Below.refl _ _⟩
        by_cases hlo : ppc < -1073741824
        · go_wp2
          go_ret
          exact ⟨rfl, Below.refl _ _⟩
        by_cases hhi : 1073741824 < ppc
        · go_wp2
          go_ret
          exact ⟨rfl, Below.refl _ _⟩
        go_wp2_with fail
        obtain ⟨m, hm⟩ : ∃ m, m = min P.length L.length := ⟨_, rfl⟩
        have hm1 : m ≤ L.length := by omega
        have hm2 : m ≤ P.length := by omega
        have hm3 : m ≤ 65536 := by omega
        refine (build_any pa pcap P na ncap L m _ hm (by omega) (by omega) SP SL).mono ?_
        rintro e w4 ⟨d, rfl, hD, hT⟩
        clear hm hb1 hacc
        cases pf with
        | false =>
          cases ps with
          | false =>
            go_wp2
            go_ret
            exact ⟨rfl, (((hT.alloc _).alloc _).alloc _ |>.alloc _).below (Nat.le_refl _) (fun _ h => h.elim)⟩
          | true => 
            go_wp2
            go_ret
            exact ⟨rfl, ((((hT.alloc _).alloc _).alloc _).alloc _ |>.alloc _).below (Nat.le_refl _) (fun _ h => h.elim)⟩
        | true => 
          cases ig with
          | true =>
            cases ps with
            | false =>
              go_wp2
              go_ret
              exact ⟨rfl, (((((((hT.alloc _).alloc _).alloc _).alloc _).alloc _).alloc _).alloc _).below (Nat.le_refl _) (fun _ h => h.elim)⟩
            | true =>
              go_wp2
              go_ret
              exact ⟨rfl, ((((((((hT.alloc _).alloc _).alloc _).alloc _).alloc _).alloc _).alloc _).alloc _).below (Nat.le_refl _) (fun _ h => h.elim)⟩
          | false =>
            go_wp2_with fail
            refine (newState_any ps _).mono ?_
            rintro e w5 ⟨p, rfl, hT5⟩
            have hF : Frames w5 (w4.heap.size + 1 + 1 + 1 + 1) (w4.heap.size + 1 + 1 + 1) (w4.heap.size + 1 + 1) (w4.heap.size + 1) w4.heap.size d m true ppc tail := by
              obtain ⟨b0, b1, b2, b3, b4⟩ := blk5 w4 _ _ _ _ _
              exact Frames.later ⟨cell_of_blk b4 2 _ rfl, cell_of_blk b4 1 _ rfl, cell_of_blk b3 0 _ rfl, cell_of_blk b4 9 _ rfl, cell_of_blk b2 1 _ rfl, cell_of_blk b2 3 _ rfl, cell_of_blk b1 0 _ rfl, cell_of_blk b1 2 _ rfl, cell_of_blk b0 12 _ rfl⟩ hT5
            have hT6 := (((((hT.alloc _).alloc _).alloc _).alloc _).alloc _).trans hT5
            have hD6 := (hD.later ((((((Turn.refl w4 _).alloc _).alloc _).alloc _).alloc _).alloc _)).later hT5
            clear hT hT5 hD
            go_wp2_with fail
            refine (ZZffn_go _ _ _ _ _ _ _ _ _ _ _ _ _ _ hF hD6 hm3 hlo hhi).mono ?_
            rintro e w7 ⟨r, rfl, hr, hT7⟩
            have hD7 := hD6.later hT7
            have hT8 := hT6.trans hT7
            clear hF hD6 hT7 hT6
            go_wp2
            go_loop [24, 25] (fun v i => ∃ (k : Nat) (q : ByteArray), k ≤ m ∧ i = .int .i64 ((k : Int) - 1) ∧ v = .string q ∧ FirstFrom L P (ppc - 1) anonB m k q) (fun _ i => (intOf i + 1).toNat)
            case atStart => exact ⟨m, anonB, Nat.le_refl _, rfl, rfl, FirstFrom.last⟩
            case round =>
              obtain ⟨k, q, hk, rfl, rfl, hq⟩ := hrel
              cases k with
              | zero =>
                have e : ((0 : Nat) : Int) - 1 = -1 := rfl
                rw [e]
                have hrq := hr.uniq hq
                subst hrq
                go_wp2
                go_ret
                exact ⟨rfl, hT8.below (Nat.le_refl _) (fun _ h => h.elim)⟩
              | succ j =>
                have e : ((j + 1 : Nat) : Int) - 1 = (j : Int) := by omega
                rw [e]
                have hn := hD7.name j hk
                have hpc := hD7.pc j hk
                generalize hs : L.getD j ByteArray.empty = s at hn
                generalize hz : P.getD j 0 = z at hpc
                have HS := Lib.hid hs
                have HZ := Lib.hid hz
                have HQ := Lib.hid hq
                clear hs hz hq
                by_cases hzz : z = ppc - 1
                · subst hzz
                  go_wp2
                  go_round
                  case rel => exact ⟨j, s, by omega, rfl, rfl, HS.out ▸ FirstFrom.hit (by omega) HZ.out⟩
                  case measure => first | (simp [intOf]; done) | (simp [intOf]; omega)
                · go_wp2
                  go_round
                  case rel => exact ⟨j, q, by omega, rfl, rfl, FirstFrom.miss (by rw [HZ.out]; exact hzz) HQ.out⟩
                  case measure => first | (simp [intOf]; done) | (simp [intOf]; omega)
end Go.Proofs.YtkbbombebfjggaaFmt
