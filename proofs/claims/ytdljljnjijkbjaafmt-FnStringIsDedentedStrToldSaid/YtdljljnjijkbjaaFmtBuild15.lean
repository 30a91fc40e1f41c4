/- zzBuild's contract: a prototype with the given counts, locals and upvalues. Printed by wip/genZB.py. -/
import Derived.Test.YtdljljnjijkbjaaFmtBd15
import Derived.Lib.QuoteBits
namespace Go.Proofs.YtdljljnjijkbjaaFmt
open Go.RowKit Go.Kit Go.Extern.Stop Go.Stop Go.Extern
set_option linter.unusedVariables false

def LoSlot (p g1 k c1 : Nat) (la : Value) (b0 o0 : Nat) (x : ByteArray) (ps : List Nat) (β : Nat) (j : Nat) (v : Value) (w : World) : Prop :=
  match j with
  | 3 => v = .pointer (some ⟨p, 11, none⟩)
  | 4 => v = .slice (some ⟨g1, 0, none⟩) k c1
  | 5 => v = la
  | 6 => v = .int .i64 k
  | 7 => v = .pointer (some ⟨b0, o0 + k, none⟩)
  | 8 => v = .string x
  | 9 => v = .int .i64 k
  | 10 => v = .int .i64 k
  | 11 => v = .int .i64 ((k : Int) + 1)
  | 12 => v = .agg (lCells x k)
  | 13 => ∃ b, v = .pointer (some ⟨b, 0, none⟩) ∧ b ≠ g1 ∧ w.heap[b]? = some (.cells (lCells x k) 50 (0, 0))
  | 14 => ∃ t b, v = .slice (some ⟨t, 0, none⟩) 1 1 ∧ t ≠ g1 ∧ w.heap[t]? = some (.cells #[.pointer (some ⟨b, 0, none⟩)] 48 (0, 0)) ∧ b ≠ g1 ∧ w.heap[b]? = some (.cells (lCells x k) 50 (0, 0))
  | 15 => ∃ q c b, v = .slice (some ⟨q, 0, none⟩) (k + 1) c ∧ w.ownsRow β 48 1 (.slice (some ⟨q, 0, none⟩) (k + 1) c) (k + 1) (ptrs ps ++ [.pointer (some ⟨b, 0, none⟩)]) ∧ w.heap[b]? = some (.cells (lCells x k) 50 (0, 0))
  | 17 => v = .pointer (some ⟨p, 11, none⟩)
  | _ => v = .pointer (some ⟨p, 0, none⟩)

theorem LoSlot.later {p g1 k c1 : Nat} {la : Value} {b0 o0 : Nat} {x : ByteArray} {ps : List Nat} {β : Nat} {j : Nat} {v : Value} {w w' : World} (h : LoSlot p g1 k c1 la b0 o0 x ps β j v w) (t : Turn w w' (fun k => k = g1)) (t0 : j = 15 → Turn w w' (fun _ => False)) : LoSlot p g1 k c1 la b0 o0 x ps β j v w' := by
  unfold LoSlot at *
  split at h
  all_goals first
    | exact h
    | (obtain ⟨c, h1, h2, h3⟩ := h; exact ⟨c, h1, h2, t.heap h3 h2⟩)
    | (obtain ⟨c, b, h1, h2, h3, h4, h5⟩ := h; exact ⟨c, b, h1, h2, t.heap h3 h2, h4, t.heap h5 h4⟩)
    | (obtain ⟨q, c, b, h1, h2, h3⟩ := h; exact ⟨q, c, b, h1, (t0 rfl).ownsRow h2 (fun _ _ => id), (t0 rfl).heap h3 id⟩)

def UvSlot (p g2 k c2 : Nat) (ua : Value) (b0 o0 : Nat) (x : ByteArray) (us : List ByteArray) (β : Nat) (j : Nat) (v : Value) (w : World) : Prop :=
  match j with
  | 3 => v = .pointer (some ⟨p, 13, none⟩)
  | 4 => v = .slice (some ⟨g2, 0, none⟩) k c2
  | 5 => v = ua
  | 6 => v = .int .i64 k
  | 7 => v = .pointer (some ⟨b0, o0 + k, none⟩)
  | 8 => v = .string x
  | 9 => ∃ t, v = .slice (some ⟨t, 0, none⟩) 1 1 ∧ t ≠ g2 ∧ w.heap[t]? = some (.cells #[.string x] 9 (0, 0))
  | 10 => ∃ q c, v = .slice (some ⟨q, 0, none⟩) (k + 1) c ∧ w.ownsRow β 9 1 (.slice (some ⟨q, 0, none⟩) (k + 1) c) (k + 1) (strs us ++ [.string x])
  | 12 => v = .pointer (some ⟨p, 13, none⟩)
  | _ => v = .pointer (some ⟨p, 0, none⟩)

theorem UvSlot.later {p g2 k c2 : Nat} {ua : Value} {b0 o0 : Nat} {x : ByteArray} {us : List ByteArray} {β : Nat} {j : Nat} {v : Value} {w w' : World} (h : UvSlot p g2 k c2 ua b0 o0 x us β j v w) (t : Turn w w' (fun k => k = g2)) (t0 : j = 10 → Turn w w' (fun _ => False)) : UvSlot p g2 k c2 ua b0 o0 x us β j v w' := by
  unfold UvSlot at *
  split at h
  all_goals first
    | exact h
    | (obtain ⟨c, h1, h2, h3⟩ := h; exact ⟨c, h1, h2, t.heap h3 h2⟩)
    | (obtain ⟨q, c, h1, h2⟩ := h; exact ⟨q, c, h1, (t0 rfl).ownsRow h2 (fun _ _ => id)⟩)

def Built (s : ByteArray) (nu np nr : Int) (ls us : List ByteArray) (w : World) (e : Ending) (w' : World) : Prop :=
  ∃ p la lc lb ua uc ca cc da dc, e = .returned (.pointer (some ⟨p, 0, none⟩)) ∧ Pr w' p nu np nr la lc lb ls ua uc us ca cc da dc ∧ Turn w w' (fun _ => False)

set_option maxRecDepth 100000 in
set_option maxHeartbeats 2000000 in
theorem zzBuild_any (s : ByteArray) (nu np nr : Int) (la : Option Addr) (lc : Nat) (ls : List ByteArray) (ua : Option Addr) (uc : Nat) (us : List ByteArray) (w : World) (Sl : Strs w la ls) (Su : Strs w ua us)
    (bnu : 0 ≤ nu ∧ nu ≤ 255) (bnp : 0 ≤ np ∧ np ≤ 255) (bnr : 0 ≤ nr ∧ nr ≤ 255) (bls : ls.length ≤ 4096 ∧ ∀ s ∈ ls, s.size ≤ 1048576) (bus : us.length ≤ 4096 ∧ ∀ s ∈ us, s.size ≤ 1048576) :
    Calls Tryf.prog 13 #[.string s, .int .u8 nu, .int .u8 np, .int .u8 nr, .slice la ls.length lc, .slice ua us.length uc] w (Built s nu np nr ls us w) := by
  go_enter Tryf.func13, Tryf.ntmps13
  go_wp2_with fail
  refine (ZZnew_any s _).mono ?_
  rintro e w1 ⟨p, g, rfl, hP, T1⟩
  have f3 := free_of_blk hP.blk 3
  have f4 := free_of_blk hP.blk 4
  have f6 := free_of_blk hP.blk 6
  have c3 := cell_of_blk hP.blk 3 (.int .u8 0) rfl
  have c4 := cell_of_blk hP.blk 4 (.int .u8 0) rfl
  have c6 := cell_of_blk hP.blk 6 (.int .u8 2) rfl
  have hlsl := bls.1
  have husl := bus.1
  have HP := Lib.hid hP
  clear hP
  go_wp2
  have hB0 := Bd.start HP.out T1 nu np nr ls
  clear f3 f4 f6 c3 c4 c6
  generalize ((w1.setCell ⟨p, 3, none⟩ (.int .u8 nu)).setCell ⟨p, 4, none⟩ (.int .u8 np)).setCell ⟨p, 6, none⟩ (.int .u8 nr) = w2 at *
  obtain ⟨iL, hL, hL0, hL1, hL2⟩ := info_parts infoPDL
  obtain ⟨iS, hS, hS0, hS1, hS2⟩ := info_parts infoString
  go_loopw [14] (fun i wr => ∃ (k g1 c1 : Nat) (ps : List Nat), k ≤ ls.length ∧ i = .int .i64 k ∧ Bd w wr p g1 k c1 (g 13) 0 16 s nu np nr (v0 g) ps ls []) (fun i _ => ls.length - (intOf i).toNat)
  case atStart => exact ⟨0, _, _, [], Nat.zero_le _, rfl, hB0⟩
  case round =>
    clear hB0
    obtain ⟨k, g1, c1, ps, hk, rfl, hB⟩ := hrel
    by_cases hkl : k < ls.length
    · obtain ⟨b0, o0, rfl, hc⟩ := Sl k hkl
      have hcx := hB.turn.cell hc id
      obtain ⟨x, hx⟩ : ∃ x, x = ls.getD k ByteArray.empty := ⟨_, rfl⟩
      rw [← hx] at hcx
      have HX := Lib.hid hx
      have HB := Lib.hid hB
      obtain ⟨u1, hu1⟩ := owned_elem hB.row1
      have npg : p ≠ g1 := ne_type hB.blk hu1 (by decide)
      have hg1l := (hB.row1.lt g1 rfl).2
      have hge1 := (hB.row1.lt g1 rfl).1
      have hblk := Lib.hid hB.blk
      have hc11 := cell_of_blk hB.blk 11 (.slice (some ⟨g1, 0, none⟩) k c1) rfl
      have hb0 : ¬ b0 = g1 := by
        have := World.block_lt_of_cell? _ _ hc
        simp at this
        omega
      clear hx hB hc hu1
      go_wp2_with fail
      refine wp_region_endC 18 15 (fun j => j = g1) (by kernel_rfl) (LoSlot p g1 k c1 (.slice (some ⟨b0, o0, none⟩) ls.length lc) b0 o0 x ps w.heap.size) (by kernel_rfl) (by kernel_rfl) (by kernel_rfl) (fun j v w1 w2 h t t0 => h.later t t0) ?_ ?_
      · intro i o hi18 ho a w3 hTA hT3 hnd hV K hK'
        have hK : i ≠ 15 → ∀ v w', LoSlot p g1 k c1 (.slice (some ⟨b0, o0, none⟩) ls.length lc) b0 o0 x ps w.heap.size i v w' → Turn w3 w' (fun _ => False) → K (a.put o.dst v) w' := fun _ v w' h t => hK' v w' h (t.mono (fun _ _ h => h.elim)) (fun _ => t)
        have n13 := hnd 13 (nondstC 18 (by kernel_rfl))
        have n14 := hnd 14 (nondstC 18 (by kernel_rfl))
        have n4 := hnd 4 (nondstC 18 (by kernel_rfl))
        have d11 := hT3.cell hc11 npg
        have dx := hT3.cell hcx hb0
        have hs3 := hT3.size
        have hwr : IntKind.i64.wrap ((k : Int) + 1) = (k : Int) + 1 := Lib.wrap_i64_small (k + 1) (by omega)
        clear hnd
        rcases (by omega : i = 0 ∨ i = 1 ∨ i = 2 ∨ i = 3 ∨ i = 4 ∨ i = 5 ∨ i = 6 ∨ i = 7 ∨ i = 8 ∨ i = 9 ∨ i = 10 ∨ i = 11 ∨ i = 12 ∨ i = 13 ∨ i = 14 ∨ i = 15 ∨ i = 16 ∨ i = 17) with rfl | rfl | rfl | rfl | rfl | rfl | rfl | rfl | rfl | rfl | rfl | rfl | rfl | rfl | rfl | rfl | rfl | rfl
        all_goals (simp at ho; subst ho; try replace hK := hK (by decide))
        · exact wp_value (by simp [execOp, Act.eval, n13]) (hK (.pointer (some ⟨p, 0, none⟩)) w3 rfl (Turn.refl _ _))
        · exact wp_value (by simp [execOp, Act.eval, n13]) (hK (.pointer (some ⟨p, 0, none⟩)) w3 rfl (Turn.refl _ _))
        · have k1 : a.tmps.getD 37 undef = .pointer (some ⟨p, 0, none⟩) := hV ⟨1, .data⟩ (by simp) rfl _ 37 rfl rfl
          exact wp_value (v := .pointer (some ⟨p, 0, none⟩)) (by simp only [execOp, Act.eval, k1]; kernel_rfl) (hK (.pointer (some ⟨p, 0, none⟩)) w3 rfl (Turn.refl _ _))
        · have k2 : a.tmps.getD 38 undef = .pointer (some ⟨p, 0, none⟩) := hV ⟨2, .data⟩ (by simp) rfl _ 38 rfl rfl
          exact wp_value (v := .pointer (some ⟨p, 11, none⟩)) (by simp only [execOp, Act.eval, k2]; kernel_rfl) (hK (.pointer (some ⟨p, 11, none⟩)) w3 rfl (Turn.refl _ _))
        · have k3 : a.tmps.getD 39 undef = .pointer (some ⟨p, 11, none⟩) := hV ⟨3, .data⟩ (by simp) rfl _ 39 rfl rfl
          exact wp_value (v := .slice (some ⟨g1, 0, none⟩) k c1) (by simp only [execOp, Act.eval, k3]; go_simp) (hK (.slice (some ⟨g1, 0, none⟩) k c1) w3 rfl (Turn.refl _ _))
        · exact wp_value (by simp [execOp, Act.eval, n4]) (hK (.slice (some ⟨b0, o0, none⟩) ls.length lc) w3 rfl (Turn.refl _ _))
        · exact wp_value (by simp [execOp, Act.eval, n14]) (hK (.int .i64 k) w3 rfl (Turn.refl _ _))
        · have k5 : a.tmps.getD 41 undef = .slice (some ⟨b0, o0, none⟩) ls.length lc := hV ⟨5, .data⟩ (by simp) rfl _ 41 rfl rfl
          have k6 : a.tmps.getD 42 undef = .int .i64 k := hV ⟨6, .data⟩ (by simp) rfl _ 42 rfl rfl
          exact wp_value (v := .pointer (some ⟨b0, o0 + k, none⟩)) (by simp only [execOp, Act.eval, k5, k6]; go_simp) (hK (.pointer (some ⟨b0, o0 + k, none⟩)) w3 rfl (Turn.refl _ _))
        · have k7 : a.tmps.getD 43 undef = .pointer (some ⟨b0, o0 + k, none⟩) := hV ⟨7, .data⟩ (by simp) rfl _ 43 rfl rfl
          exact wp_value (v := .string x) (by simp only [execOp, Act.eval, k7]; go_simp) (hK (.string x) w3 rfl (Turn.refl _ _))
        · exact wp_value (by simp [execOp, Act.eval, n14]) (hK (.int .i64 k) w3 rfl (Turn.refl _ _))
        · exact wp_value (by simp [execOp, Act.eval, n14]) (hK (.int .i64 k) w3 rfl (Turn.refl _ _))
        · have k10 : a.tmps.getD 46 undef = .int .i64 k := hV ⟨10, .data⟩ (by simp) rfl _ 46 rfl rfl
          exact wp_value (v := .int .i64 ((k : Int) + 1)) (by simp only [execOp, Act.eval, k10]; go_simp) (hK (.int .i64 ((k : Int) + 1)) w3 rfl (Turn.refl _ _))
        · have k8 : a.tmps.getD 44 undef = .string x := hV ⟨8, .data⟩ (by simp) rfl _ 44 rfl rfl
          have k9 : a.tmps.getD 45 undef = .int .i64 k := hV ⟨9, .data⟩ (by simp) rfl _ 45 rfl rfl
          have k11 : a.tmps.getD 47 undef = .int .i64 ((k : Int) + 1) := hV ⟨11, .data⟩ (by simp) rfl _ 47 rfl rfl
          exact wp_value (v := .agg (lCells x k)) (by simp only [execOp, Act.eval, List.map_toArray, List.map_cons, List.map_nil, k8, k9, k11]; kernel_rfl) (hK _ w3 rfl (Turn.refl _ _))
        · have k12 : a.tmps.getD 48 undef = .agg (lCells x k) := hV ⟨12, .data⟩ (by simp) rfl _ 48 rfl rfl
          exact wp_value (v := .pointer (some ⟨w3.heap.size, 0, none⟩)) (w' := w3.alloc (.cells (lCells x k) 50)) (by simp only [execOp, Act.eval, k12]; kernel_rfl)
            (hK _ _ ⟨w3.heap.size, rfl, by omega, alloc_blk _ _⟩ ((Turn.refl _ _).alloc _))
        · obtain ⟨b, k13, hbg, hb⟩ : ∃ b, a.tmps.getD 49 undef = .pointer (some ⟨b, 0, none⟩) ∧ b ≠ g1 ∧ w3.heap[b]? = some (.cells (lCells x k) 50 (0, 0)) := hV ⟨13, .data⟩ (by simp) rfl _ 49 rfl rfl
          have T := (Turn.refl w3 (fun _ => False)).alloc (.cells #[.pointer (some ⟨b, 0, none⟩)] 48)
          exact wp_value (v := .slice (some ⟨w3.heap.size, 0, none⟩) 1 1) (w' := w3.alloc (.cells #[.pointer (some ⟨b, 0, none⟩)] 48)) (by simp only [execOp, Act.eval, List.map_toArray, List.map_cons, List.map_nil, k13]; kernel_rfl)
            (hK _ _ ⟨w3.heap.size, b, rfl, by omega, alloc_blk _ _, hbg, T.heap hb id⟩ T)
        · have k4 : a.tmps.getD 40 undef = .slice (some ⟨g1, 0, none⟩) k c1 := hV ⟨4, .data⟩ (by simp) rfl _ 40 rfl rfl
          obtain ⟨t, b, k14, ht, hbt, hbg, hb⟩ : ∃ t b, a.tmps.getD 50 undef = .slice (some ⟨t, 0, none⟩) 1 1 ∧ t ≠ g1 ∧ w3.heap[t]? = some (.cells #[.pointer (some ⟨b, 0, none⟩)] 48 (0, 0)) ∧ b ≠ g1 ∧ w3.heap[b]? = some (.cells (lCells x k) 50 (0, 0)) := hV ⟨14, .data⟩ (by simp) rfl _ 50 rfl rfl
          have hrow3 := (hTA rfl).ownsRow HB.out.row1 (fun _ _ => id)
          have hsz0 := HB.out.turn.size
          obtain ⟨v', w', hr, h2, h3, _, h5⟩ := run_append_own_at (P := Tryf.prog) w3 w.heap.size 29 29 48 iL (.pointer none) 1 8 Tryf.underlying29 hL hL0 hL1 hL2 rfl (by decide) _ k _ hrow3 ⟨t, 0, none⟩ 1 1 [.pointer (some ⟨b, 0, none⟩)] rfl
            (fun j u hj => by
              match j, hj with
              | 0, hj =>
                simp at hj
                subst hj
                simpa [Addr.add] using cell_of_blk hbt 0 (.pointer (some ⟨b, 0, none⟩)) rfl) (by intro u hu; simp at hu; subst hu; rfl) (by unfold maxLen; omega) (by omega) (by omega)
          have T : Turn w3 w' (fun k => k = g1) := (Turn.refl w3 _).grown h3 (fun k hk _ => by cases hk; rfl)
          obtain ⟨qq, cq, rfl, _⟩ := shape_of_owned h2 (by omega)
          refine wp_value (v := .slice (some ⟨qq, 0, none⟩) (k + 1) cq) (w' := w') ?_ (hK' _ w' ⟨qq, cq, b, rfl, h2, T.heap hb hbg⟩ T (fun h => absurd rfl h))
          unfold execOp
          simp only [resolve, invoke, builtin, Sem.run_bind, Sem.run_pure, Result.andThen_ok, List.map_toArray, List.map_cons, List.map_nil, Act.eval, k4, k14, hr]
        · have k0 : a.tmps.getD 36 undef = .pointer (some ⟨p, 0, none⟩) := hV ⟨0, .data⟩ (by simp) rfl _ 36 rfl rfl
          exact wp_value (v := .pointer (some ⟨p, 0, none⟩)) (by simp only [execOp, Act.eval, k0]; kernel_rfl) (hK (.pointer (some ⟨p, 0, none⟩)) w3 rfl (Turn.refl _ _))
        · have k16 : a.tmps.getD 52 undef = .pointer (some ⟨p, 0, none⟩) := hV ⟨16, .data⟩ (by simp) rfl _ 52 rfl rfl
          exact wp_value (v := .pointer (some ⟨p, 11, none⟩)) (by simp only [execOp, Act.eval, k16]; kernel_rfl) (hK (.pointer (some ⟨p, 11, none⟩)) w3 rfl (Turn.refl _ _))
      · intro a w3 ol hol hsz hdf hnd hV hT
        simp at hol
        subst hol
        obtain ⟨q, cq, b, k15, hq, hb⟩ : ∃ q y b, a.tmps.getD 51 undef = .slice (some ⟨q, 0, none⟩) (k + 1) y ∧ w3.ownsRow w.heap.size 48 1 (.slice (some ⟨q, 0, none⟩) (k + 1) y) (k + 1) (ptrs ps ++ [Value.pointer (some ⟨b, 0, none⟩)]) ∧ w3.heap[b]? = some (Obj.cells (lCells x k) 50 (0, 0)) := hV 15 _ 51 (by omega) rfl rfl
        have k17 : a.tmps.getD 53 undef = .pointer (some ⟨p, 11, none⟩) := hV 17 _ 53 (by omega) rfl rfl
        obtain ⟨T, df⟩ := a
        obtain rfl : df = [] := hdf
        have k15 : T.getD 51 undef = _ := k15
        have k17 : T.getD 53 undef = _ := k17
        have hTm := tmps_of T [36, 37, 38, 39, 40, 41, 42, 43, 44, 45, 46, 47, 48, 49, 50, 51, 52, 53] _ hsz (fun t ht => hnd t (fun j oj _ => nondst_of _ (by kernel_rfl) t ht j oj))
        clear hV hnd hsz
        simp only [List.foldl_cons, List.foldl_nil] at hTm
        rw [k15, k17] at hTm
        clear k15 k17
        generalize T.getD 36 undef = y36 at hTm
        generalize T.getD 37 undef = y37 at hTm
        generalize T.getD 38 undef = y38 at hTm
        generalize T.getD 39 undef = y39 at hTm
        generalize T.getD 40 undef = y40 at hTm
        generalize T.getD 41 undef = y41 at hTm
        generalize T.getD 42 undef = y42 at hTm
        generalize T.getD 43 undef = y43 at hTm
        generalize T.getD 44 undef = y44 at hTm
        generalize T.getD 45 undef = y45 at hTm
        generalize T.getD 46 undef = y46 at hTm
        generalize T.getD 47 undef = y47 at hTm
        generalize T.getD 48 undef = y48 at hTm
        generalize T.getD 49 undef = y49 at hTm
        generalize T.getD 50 undef = y50 at hTm
        generalize T.getD 52 undef = y52 at hTm
        simp only [List.setIfInBounds_toArray, List.set_cons_succ, List.set_cons_zero] at hTm
        rw [hTm]
        clear hTm
        have e11 := cell_of_blk (hT.heap hblk.out npg) 11 (.slice (some ⟨g1, 0, none⟩) k c1) rfl
        have f11 := free_of_blk (hT.heap hblk.out npg) 11
        have hstep := HB.out.step1 hT HX.out hb hq
        have HSt := Lib.hid hstep
        clear hstep hb hq hT hcx hc11
        go_wp2
        go_roundw
        case rel => exact ⟨k + 1, q, cq, ps ++ [b], by omega, by go_num, HSt.out⟩
        case measure => simp [intOf]; omega
    · obtain rfl : k = ls.length := by omega
      obtain ⟨wA, rfl⟩ : ∃ wA, wA = wr := ⟨_, rfl⟩
      go_wp2
      go_loopw [15] (fun i wr => ∃ (k g2 c2 : Nat), k ≤ us.length ∧ i = .int .i64 k ∧ Bd w wr p g1 ls.length c1 g2 k c2 s nu np nr (v0 g) ps ls (us.take k)) (fun i _ => us.length - (intOf i).toNat)
      case atStart => exact ⟨0, _, _, Nat.zero_le _, rfl, hB⟩
      case round =>
        clear hB
        obtain ⟨k, g2, c2, hk, rfl, hB⟩ := hrel
        by_cases hkl : k < us.length
        · obtain ⟨b0, o0, rfl, hc⟩ := Su k hkl
          have hcx := hB.turn.cell hc id
          obtain ⟨x, hx⟩ : ∃ x, x = us.getD k ByteArray.empty := ⟨_, rfl⟩
          rw [← hx] at hcx
          have htk : us.take (k + 1) = us.take k ++ [x] := by rw [List.take_succ_eq_append_getElem hkl, hx]; simp [List.getD, hkl]
          have HX := Lib.hid htk
          have HB := Lib.hid hB
          obtain ⟨u1, hu1⟩ := owned_elem hB.row2
          have npg : p ≠ g2 := ne_type hB.blk hu1 (by decide)
          have hg1l := (hB.row2.lt g2 rfl).2
          have hge1 := (hB.row2.lt g2 rfl).1
          have hblk := Lib.hid hB.blk
          have hc13 := cell_of_blk hB.blk 13 (.slice (some ⟨g2, 0, none⟩) k c2) rfl
          have hb0 : ¬ b0 = g2 := by
            have := World.block_lt_of_cell? _ _ hc
            simp at this
            omega
          clear hx hB hc hu1 htk
          go_wp2_with fail
          refine wp_region_endC 13 10 (fun j => j = g2) (by kernel_rfl) (UvSlot p g2 k c2 (.slice (some ⟨b0, o0, none⟩) us.length uc) b0 o0 x (us.take k) w.heap.size) (by kernel_rfl) (by kernel_rfl) (by kernel_rfl) (fun j v w1 w2 h t t0 => h.later t t0) ?_ ?_
          · intro i o hi13 ho a w3 hTA hT3 hnd hV K hK'
            have hK : i ≠ 10 → ∀ v w', UvSlot p g2 k c2 (.slice (some ⟨b0, o0, none⟩) us.length uc) b0 o0 x (us.take k) w.heap.size i v w' → Turn w3 w' (fun _ => False) → K (a.put o.dst v) w' := fun _ v w' h t => hK' v w' h (t.mono (fun _ _ h => h.elim)) (fun _ => t)
            have n13 := hnd 13 (nondstC 13 (by kernel_rfl))
            have n15 := hnd 15 (nondstC 13 (by kernel_rfl))
            have n5 := hnd 5 (nondstC 13 (by kernel_rfl))
            have d13 := hT3.cell hc13 npg
            have dx := hT3.cell hcx hb0
            have hs3 := hT3.size
            clear hnd
            rcases (by omega : i = 0 ∨ i = 1 ∨ i = 2 ∨ i = 3 ∨ i = 4 ∨ i = 5 ∨ i = 6 ∨ i = 7 ∨ i = 8 ∨ i = 9 ∨ i = 10 ∨ i = 11 ∨ i = 12) with rfl | rfl | rfl | rfl | rfl | rfl | rfl | rfl | rfl | rfl | rfl | rfl | rfl
            all_goals (simp at ho; subst ho; try replace hK := hK (by decide))
            · exact wp_value (by simp [execOp, Act.eval, n13]) (hK (.pointer (some ⟨p, 0, none⟩)) w3 rfl (Turn.refl _ _))
            · exact wp_value (by simp [execOp, Act.eval, n13]) (hK (.pointer (some ⟨p, 0, none⟩)) w3 rfl (Turn.refl _ _))
            · have k1 : a.tmps.getD 61 undef = .pointer (some ⟨p, 0, none⟩) := hV ⟨1, .data⟩ (by simp) rfl _ 61 rfl rfl
              exact wp_value (v := .pointer (some ⟨p, 0, none⟩)) (by simp only [execOp, Act.eval, k1]; kernel_rfl) (hK (.pointer (some ⟨p, 0, none⟩)) w3 rfl (Turn.refl _ _))
            · have k2 : a.tmps.getD 62 undef = .pointer (some ⟨p, 0, none⟩) := hV ⟨2, .data⟩ (by simp) rfl _ 62 rfl rfl
              exact wp_value (v := .pointer (some ⟨p, 13, none⟩)) (by simp only [execOp, Act.eval, k2]; kernel_rfl) (hK (.pointer (some ⟨p, 13, none⟩)) w3 rfl (Turn.refl _ _))
            · have k3 : a.tmps.getD 63 undef = .pointer (some ⟨p, 13, none⟩) := hV ⟨3, .data⟩ (by simp) rfl _ 63 rfl rfl
              exact wp_value (v := .slice (some ⟨g2, 0, none⟩) k c2) (by simp only [execOp, Act.eval, k3]; go_simp) (hK (.slice (some ⟨g2, 0, none⟩) k c2) w3 rfl (Turn.refl _ _))
            · exact wp_value (by simp [execOp, Act.eval, n5]) (hK (.slice (some ⟨b0, o0, none⟩) us.length uc) w3 rfl (Turn.refl _ _))
            · exact wp_value (by simp [execOp, Act.eval, n15]) (hK (.int .i64 k) w3 rfl (Turn.refl _ _))
            · have k5 : a.tmps.getD 65 undef = .slice (some ⟨b0, o0, none⟩) us.length uc := hV ⟨5, .data⟩ (by simp) rfl _ 65 rfl rfl
              have k6 : a.tmps.getD 66 undef = .int .i64 k := hV ⟨6, .data⟩ (by simp) rfl _ 66 rfl rfl
              exact wp_value (v := .pointer (some ⟨b0, o0 + k, none⟩)) (by simp only [execOp, Act.eval, k5, k6]; go_simp) (hK (.pointer (some ⟨b0, o0 + k, none⟩)) w3 rfl (Turn.refl _ _))
            · have k7 : a.tmps.getD 67 undef = .pointer (some ⟨b0, o0 + k, none⟩) := hV ⟨7, .data⟩ (by simp) rfl _ 67 rfl rfl
              exact wp_value (v := .string x) (by simp only [execOp, Act.eval, k7]; go_simp) (hK (.string x) w3 rfl (Turn.refl _ _))
            · have k8 : a.tmps.getD 68 undef = .string x := hV ⟨8, .data⟩ (by simp) rfl _ 68 rfl rfl
              exact wp_value (v := .slice (some ⟨w3.heap.size, 0, none⟩) 1 1) (w' := w3.alloc (.cells #[.string x] 9)) (by simp only [execOp, Act.eval, List.map_toArray, List.map_cons, List.map_nil, k8]; kernel_rfl)
                (hK _ _ ⟨w3.heap.size, rfl, by omega, alloc_blk _ _⟩ ((Turn.refl _ _).alloc _))
            · have k4 : a.tmps.getD 64 undef = .slice (some ⟨g2, 0, none⟩) k c2 := hV ⟨4, .data⟩ (by simp) rfl _ 64 rfl rfl
              obtain ⟨t, k9, ht, hbt⟩ : ∃ t, a.tmps.getD 69 undef = .slice (some ⟨t, 0, none⟩) 1 1 ∧ t ≠ g2 ∧ w3.heap[t]? = some (Obj.cells #[.string x] 9 (0, 0)) := hV ⟨9, .data⟩ (by simp) rfl _ 69 rfl rfl
              have hrow3 := (hTA rfl).ownsRow HB.out.row2 (fun _ _ => id)
              have hsz0 := HB.out.turn.size
              obtain ⟨v', w', hr, h2, h3, _, h5⟩ := run_append_own_at (P := Tryf.prog) w3 w.heap.size 31 31 9 iS (.string ByteArray.empty) 1 16 Tryf.underlying31 hS hS0 hS1 hS2 rfl (by decide) _ k _ hrow3 ⟨t, 0, none⟩ 1 1 [.string x] rfl
                (fun j u hj => by
                  match j, hj with
                  | 0, hj =>
                    simp at hj
                    subst hj
                    simpa [Addr.add] using cell_of_blk hbt 0 (.string x) rfl) (by intro u hu; simp at hu; subst hu; rfl) (by unfold maxLen; omega) (by omega) (by omega)
              have T : Turn w3 w' (fun k => k = g2) := (Turn.refl w3 _).grown h3 (fun k hk _ => by cases hk; rfl)
              obtain ⟨qq, cq, rfl, _⟩ := shape_of_owned h2 (by omega)
              refine wp_value (v := .slice (some ⟨qq, 0, none⟩) (k + 1) cq) (w' := w') ?_ (hK' _ w' ⟨qq, cq, rfl, h2⟩ T (fun h => absurd rfl h))
              unfold execOp
              simp only [resolve, invoke, builtin, Sem.run_bind, Sem.run_pure, Result.andThen_ok, List.map_toArray, List.map_cons, List.map_nil, Act.eval, k4, k9, hr]
            · have k0 : a.tmps.getD 60 undef = .pointer (some ⟨p, 0, none⟩) := hV ⟨0, .data⟩ (by simp) rfl _ 60 rfl rfl
              exact wp_value (v := .pointer (some ⟨p, 0, none⟩)) (by simp only [execOp, Act.eval, k0]; kernel_rfl) (hK (.pointer (some ⟨p, 0, none⟩)) w3 rfl (Turn.refl _ _))
            · have k11 : a.tmps.getD 71 undef = .pointer (some ⟨p, 0, none⟩) := hV ⟨11, .data⟩ (by simp) rfl _ 71 rfl rfl
              exact wp_value (v := .pointer (some ⟨p, 13, none⟩)) (by simp only [execOp, Act.eval, k11]; kernel_rfl) (hK (.pointer (some ⟨p, 13, none⟩)) w3 rfl (Turn.refl _ _))
          · intro a w3 ol hol hsz hdf hnd hV hT
            simp at hol
            subst hol
            obtain ⟨q, cq, k10, hq⟩ : ∃ q y, a.tmps.getD 70 undef = .slice (some ⟨q, 0, none⟩) (k + 1) y ∧ w3.ownsRow w.heap.size 9 1 (.slice (some ⟨q, 0, none⟩) (k + 1) y) (k + 1) (strs (us.take k) ++ [Value.string x]) := hV 10 _ 70 (by omega) rfl rfl
            have k12 : a.tmps.getD 72 undef = .pointer (some ⟨p, 13, none⟩) := hV 12 _ 72 (by omega) rfl rfl
            obtain ⟨T, df⟩ := a
            obtain rfl : df = [] := hdf
            have k10 : T.getD 70 undef = _ := k10
            have k12 : T.getD 72 undef = _ := k12
            have hTm := tmps_of T [60, 61, 62, 63, 64, 65, 66, 67, 68, 69, 70, 71, 72] _ hsz (fun t ht => hnd t (fun j oj _ => nondst_of _ (by kernel_rfl) t ht j oj))
            clear hV hnd hsz
            simp only [List.foldl_cons, List.foldl_nil] at hTm
            rw [k10, k12] at hTm
            clear k10 k12
            generalize T.getD 60 undef = y60 at hTm
            generalize T.getD 61 undef = y61 at hTm
            generalize T.getD 62 undef = y62 at hTm
            generalize T.getD 63 undef = y63 at hTm
            generalize T.getD 64 undef = y64 at hTm
            generalize T.getD 65 undef = y65 at hTm
            generalize T.getD 66 undef = y66 at hTm
            generalize T.getD 67 undef = y67 at hTm
            generalize T.getD 68 undef = y68 at hTm
            generalize T.getD 69 undef = y69 at hTm
            generalize T.getD 71 undef = y71 at hTm
            simp only [List.setIfInBounds_toArray, List.set_cons_succ, List.set_cons_zero] at hTm
            rw [hTm]
            clear hTm
            have e13 := cell_of_blk (hT.heap hblk.out npg) 13 (.slice (some ⟨g2, 0, none⟩) k c2) rfl
            have f13 := free_of_blk (hT.heap hblk.out npg) 13
            have hstep := HB.out.step2 hT hq
            rw [← HX.out] at hstep
            have HSt := Lib.hid hstep
            clear hstep hq hT hcx hc13
            go_wp2
            go_roundw
            case rel => exact ⟨k + 1, q, cq, by omega, by go_num, HSt.out⟩
            case measure => simp [intOf]; omega
        · obtain rfl : k = us.length := by omega
          rw [List.take_length] at hB
          have HB := Lib.hid hB
          clear hB
          go_wp2
          go_ret
          exact ⟨p, _, _, _, _, _, _, _, _, _, rfl, HB.out.pr rfl rfl rfl bnu bnp bnr bls bus, HB.out.turn⟩
end Go.Proofs.YtdljljnjijkbjaaFmt
