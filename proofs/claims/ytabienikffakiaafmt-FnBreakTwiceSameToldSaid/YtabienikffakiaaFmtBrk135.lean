/- compileBreakStmt's contract. Printed by wip/genB.py. -/
import Derived.Test.YtabienikffakiaaFmtStt135
import Derived.BigQuiet
import Derived.StillTailTactics
import Derived.Deep.LoopGhost
namespace Go.Proofs.YtabienikffakiaaFmt
open Go.RowKit
set_option linter.unusedVariables false

theorem still_of {f : FuncId} {args : Array Value} {w : World} {v : Value} (h : Calls Tryf.prog f args w fun e w' => e = .returned v ∧ w = w') : Calls Tryf.prog f args w fun e w'' => e = .returned v ∧ w'' = w :=
  h.mono fun e w'' ⟨h1, h2⟩ => ⟨h1, h2.symm⟩

theorem lit56 (l : List Value) (h : l.length = 56) : ∃ x0 x1 x2 x3 x4 x5 x6 x7 x8 x9 x10 x11 x12 x13 x14 x15 x16 x17 x18 x19 x20 x21 x22 x23 x24 x25 x26 x27 x28 x29 x30 x31 x32 x33 x34 x35 x36 x37 x38 x39 x40 x41 x42 x43 x44 x45 x46 x47 x48 x49 x50 x51 x52 x53 x54 x55, l = [x0, x1, x2, x3, x4, x5, x6, x7, x8, x9, x10, x11, x12, x13, x14, x15, x16, x17, x18, x19, x20, x21, x22, x23, x24, x25, x26, x27, x28, x29, x30, x31, x32, x33, x34, x35, x36, x37, x38, x39, x40, x41, x42, x43, x44, x45, x46, x47, x48, x49, x50, x51, x52, x53, x54, x55] := by
  match l, h with
  | x0 :: x1 :: x2 :: x3 :: x4 :: x5 :: x6 :: x7 :: x8 :: x9 :: x10 :: x11 :: x12 :: x13 :: x14 :: x15 :: x16 :: x17 :: x18 :: x19 :: x20 :: x21 :: x22 :: x23 :: x24 :: x25 :: x26 :: x27 :: x28 :: x29 :: x30 :: x31 :: x32 :: x33 :: x34 :: x35 :: x36 :: x37 :: x38 :: x39 :: x40 :: x41 :: x42 :: x43 :: x44 :: x45 :: x46 :: x47 :: x48 :: x49 :: x50 :: x51 :: x52 :: x53 :: x54 :: x55 :: [], _ => exact ⟨x0, x1, x2, x3, x4, x5, x6, x7, x8, x9, x10, x11, x12, x13, x14, x15, x16, x17, x18, x19, x20, x21, x22, x23, x24, x25, x26, x27, x28, x29, x30, x31, x32, x33, x34, x35, x36, x37, x38, x39, x40, x41, x42, x43, x44, x45, x46, x47, x48, x49, x50, x51, x52, x53, x54, x55, rfl⟩

theorem drewN_t (w : World) (q : Nat) (F : Nat → Prop) : Turn w (w.drewN q) F := ⟨rfl, rfl, rfl, Nat.le_refl _, fun _ _ _ => rfl⟩

theorem sline_any (p : Nat) (l : Int) (w : World) (h : w.cell? ⟨p, 0, none⟩ = some (.int .i64 l)) :
    Calls Tryf.prog 38 #[.iface 34 (.pointer (some ⟨p, 0, none⟩))] w fun e w' => e = .returned (.int .i64 l) ∧ w = w' := by
  go_enter Tryf.func38, Tryf.ntmps38
  go_wp2
  go_ret
  exact ⟨rfl, rfl⟩

def brk (ref : Bool) (lab off : Int) : List Int := if ref then [mkABC 38 off 0 0, mkABx 25 0 (lab + 131071)] else [mkABx 25 0 (lab + 131071)]
def Broke (β c gc gl : Nat) (is ls : List Int) (ref : Bool) (lab off l : Int) (w : World) (e : Ending) (w' : World) : Prop :=
  ∃ gc' cc' gl' cl', e = .returned (.tuple #[]) ∧ Code w' β c gc' cc' gl' cl' (is ++ brk ref lab off) (ls ++ List.replicate (brk ref lab off).length l) ∧ Turn w w' (fun b => b = c ∨ b = gc ∨ b = gl) ∧ (gc' = gc ∨ w.heap.size ≤ gc') ∧ (gl' = gl ∨ w.heap.size ≤ gl')

def BsSlot (fc c tb pb plv st : Nat) (off l : Int) (j : Nat) (v : Value) : Prop :=
  match j with
  | 2 => v = .pointer (some ⟨fc, 1, none⟩)
  | 3 => v = .pointer (some ⟨c, 0, none⟩)
  | 4 => v = .pointer (some ⟨tb, 0, none⟩)
  | 5 => v = .pointer (some ⟨tb, 0, none⟩)
  | 6 => v = .pointer (some ⟨tb, 2, none⟩)
  | 7 => v = .pointer (some ⟨pb, 0, none⟩)
  | 8 => v = .pointer (some ⟨pb, 0, none⟩)
  | 9 => v = .pointer (some ⟨pb, 0, none⟩)
  | 10 => v = .pointer (some ⟨plv, 0, none⟩)
  | 11 => v = .int .i64 off
  | 12 => v = .pointer (some ⟨st, 0, none⟩)
  | 13 => v = .iface 34 (.pointer (some ⟨st, 0, none⟩))
  | 14 => v = .int .i64 l
  | _ => v = .pointer (some ⟨fc, 0, none⟩)

set_option maxRecDepth 100000 in
set_option maxHeartbeats 1000000 in
theorem break_any (β fc st c gc cc gl cl : Nat) (fcc : Array Value) (q0 : Option Addr) (is ls : List Int) (pre : List Bk) (T N : Bk) (R : List Bk) (l : Int) (w : World)
    (hfc : w.heap[fc]? = some (.cells fcc 62 (0, 0))) (h1 : fcc[1]? = some (.pointer (some ⟨c, 0, none⟩))) (h4 : fcc[4]? = some (.pointer q0)) (hq : q0 = parOf (pre ++ T :: N :: R)) (hco : Code w β c gc cc gl cl is ls) (hch : Chain w β (pre ++ T :: N :: R)) (hpre : ∀ C ∈ pre, C.lab = 0) (hT : T.lab ≠ 0)
    (hoff : N.off + N.ss.length = T.off) (ho0 : 0 ≤ T.off) (ho1 : T.off ≤ 1000) (hst : w.cell? ⟨st, 0, none⟩ = some (.int .i64 l)) (hns : ¬ (st = c ∨ st = gc ∨ st = gl)) (hβ : β ≤ w.heap.size) (hn : is.length < 1048576) :
    Calls Tryf.prog 26 #[.pointer (some ⟨fc, 0, none⟩), .pointer (some ⟨st, 0, none⟩)] w (Broke β c gc gl is ls T.ref T.lab T.off l w) := by
  have c1 := cell_of_blk hfc 1 _ h1
  have c4 := cell_of_blk hfc 4 _ h4
  obtain ⟨tb, tlv, tM, tlab, tref, toff, tl1, tl2, tpv, tss⟩ := T
  simp only at hT hoff ho0 ho1 ⊢
  have HQ := Lib.hid hq
  clear hq
  go_enter Tryf.func26, Tryf.ntmps26
  go_wp2
  go_loopg [4, 5] pre.length (fun g s4 s5 wr => wr = w ∧ ∃ pr : List Bk, pr.length = g ∧ (∀ C ∈ pr, C.lab = 0) ∧ s4 = .pointer (parOf (pr ++ ⟨tb, tlv, tM, tlab, tref, toff, tl1, tl2, tpv, tss⟩ :: N :: R)) ∧ Chain w β (pr ++ ⟨tb, tlv, tM, tlab, tref, toff, tl1, tl2, tpv, tss⟩ :: N :: R))
  case atStart => exact ⟨rfl, pre, rfl, hpre, by rw [HQ.out], hch⟩
  case round =>
    clear hpre hch c4 h4
    obtain ⟨hwr, pr, hg, hpr, rfl, hch⟩ := hrel
    subst hwr
    cases pr with
    | cons C pr =>
      obtain ⟨cb, clv, cM, clab, cref, coff, cl1, cl2, cpv, css⟩ := C
      obtain rfl : clab = 0 := hpr ⟨cb, clv, cM, clab, cref, coff, cl1, cl2, cpv, css⟩ (by simp)
      have hA := hch.1.blk
      have b1 := cell_of_blk hA 1 (.int .i64 0) rfl
      have b2 := cell_of_blk hA 2 (.pointer (parOf (pr ++ ⟨tb, tlv, tM, tlab, tref, toff, tl1, tl2, tpv, tss⟩ :: N :: R))) rfl
      have HC := Lib.hid hch.2
      have HP := Lib.hid hpr
      clear hch hpr hA
      simp only [List.cons_append, parOf]
      go_wp2
      go_roundg pr.length
      case measure => simp at hg; omega
      case rel => exact ⟨rfl, pr, rfl, fun C hC => HP.out C (by simp [hC]), rfl, HC.out⟩
    | nil =>
      have hA := hch.1.blk
      have hB := hch.2.1
      have b1 := cell_of_blk hA 1 (.int .i64 tlab) rfl
      have b2 := cell_of_blk hA 2 (.pointer (some ⟨N.b, 0, none⟩)) rfl
      have b3 := cell_of_blk hA 3 (.bool tref) rfl
      have p0 := cell_of_blk hB.blk 0 (.pointer (some ⟨N.lv, 0, none⟩)) rfl
      have hpool := hB.pool
      have hr : wrap64 (N.off + N.ss.length) = toff := by rw [hoff]; unfold wrap64; omega
      clear hch hpr
      obtain ⟨pb, plv, pM, plab, pref, poff, pl1, pl2, ppv, pss⟩ := N
      simp only at b2 p0 hpool hr hoff hB
      have HO := Lib.hid hoff
      have HR := Lib.hid hr
      have HA := Lib.hid hA
      have HB := Lib.hid hB
      clear hoff hr hA hB
      simp only [List.nil_append, parOf]
      cases tref with
      | false =>
        have A := still_of (sline_any st l wr.drew (show wr.drew.cell? _ = _ from hst))
        go_wp2_with fail
        go_still_tail 8, (by kernel_rfl)
        still_call A
        repeat still_step
        refine wpStill_nil ?_
        have hco2 := hco.kept ((Turn.refl wr (fun _ => False)).drew) id id id
        have hd : β ≤ wr.drew.heap.size := hβ
        go_wp2_with fail
        refine (addASbx_any β c gc cc gl cl is ls 25 0 tlab l _ hco2 hd (by omega)).mono ?_
        rintro e w' ⟨gc', cc', gl', cl', rfl, a1, a2, a3, a4⟩
        have HF : Broke β c gc gl is ls false tlab toff l wr (.returned (.tuple #[])) w' := ⟨gc', cc', gl', cl', rfl, a1, ((Turn.refl wr _).drew).trans a2, a3, a4⟩
        have HH := Lib.hid HF
        clear HF a1 a2 a3 a4 hco2 hd A
        go_wp2
        go_end0
        exact HH.out
      | true =>
        go_wp2_with fail
        refine wp_region_end 15 15 (fun _ => False) (by kernel_rfl) (fun j v _ => BsSlot fc c tb pb plv st toff l j v) (by kernel_rfl) (by kernel_rfl) (by kernel_rfl) (fun j v w1 w2 h t t0 => h) ?_ ?_
        · intro i o hi ho a w1 _ hT1 hnd hV K hK'
          have hK : ∀ v w', BsSlot fc c tb pb plv st toff l i v → Turn w1 w' (fun _ => False) → K (a.put o.dst v) w' := fun v w' h t => hK' v w' h t (fun _ => t)
          clear hK'
          have n0 := hnd 0 (nondst (by kernel_rfl))
          have n1 := hnd 1 (nondst (by kernel_rfl))
          have n4 := hnd 4 (nondst (by kernel_rfl))
          have d1 := hT1.cell c1 id
          have d2 := hT1.cell b2 id
          have d0 := hT1.cell p0 id
          have ds := hT1.cell hst id
          have hp1 := hpool.kept hT1 id (fun _ _ => id)
          clear hnd
          rcases (by omega : i = 0 ∨ i = 1 ∨ i = 2 ∨ i = 3 ∨ i = 4 ∨ i = 5 ∨ i = 6 ∨ i = 7 ∨ i = 8 ∨ i = 9 ∨ i = 10 ∨ i = 11 ∨ i = 12 ∨ i = 13 ∨ i = 14) with rfl | rfl | rfl | rfl | rfl | rfl | rfl | rfl | rfl | rfl | rfl | rfl | rfl | rfl | rfl
          all_goals (simp at ho; subst ho)
          · exact wp_value (by simp [execOp, Act.eval, n0]) (hK (.pointer (some ⟨fc, 0, none⟩)) w1 rfl (Turn.refl _ _))
          · have k0 : a.tmps.getD 26 undef = .pointer (some ⟨fc, 0, none⟩) := hV ⟨0, .data⟩ (by simp) rfl _ 26 rfl rfl
            exact wp_value (v := .pointer (some ⟨fc, 0, none⟩)) (by simp only [execOp, Act.eval, k0]; kernel_rfl) (hK (.pointer (some ⟨fc, 0, none⟩)) w1 rfl (Turn.refl _ _))
          · have k1 : a.tmps.getD 27 undef = .pointer (some ⟨fc, 0, none⟩) := hV ⟨1, .data⟩ (by simp) rfl _ 27 rfl rfl
            exact wp_value (v := .pointer (some ⟨fc, 1, none⟩)) (by simp only [execOp, Act.eval, k1]; kernel_rfl) (hK (.pointer (some ⟨fc, 1, none⟩)) w1 rfl (Turn.refl _ _))
          · have k2 : a.tmps.getD 28 undef = .pointer (some ⟨fc, 1, none⟩) := hV ⟨2, .data⟩ (by simp) rfl _ 28 rfl rfl
            exact wp_value (v := .pointer (some ⟨c, 0, none⟩)) (by simp only [execOp, Act.eval, k2]; go_simp) (hK (.pointer (some ⟨c, 0, none⟩)) w1 rfl (Turn.refl _ _))
          · exact wp_value (by simp [execOp, Act.eval, n4]) (hK (.pointer (some ⟨tb, 0, none⟩)) w1 rfl (Turn.refl _ _))
          · have k4 : a.tmps.getD 30 undef = .pointer (some ⟨tb, 0, none⟩) := hV ⟨4, .data⟩ (by simp) rfl _ 30 rfl rfl
            exact wp_value (v := .pointer (some ⟨tb, 0, none⟩)) (by simp only [execOp, Act.eval, k4]; kernel_rfl) (hK (.pointer (some ⟨tb, 0, none⟩)) w1 rfl (Turn.refl _ _))
          · have k5 : a.tmps.getD 31 undef = .pointer (some ⟨tb, 0, none⟩) := hV ⟨5, .data⟩ (by simp) rfl _ 31 rfl rfl
            exact wp_value (v := .pointer (some ⟨tb, 2, none⟩)) (by simp only [execOp, Act.eval, k5]; kernel_rfl) (hK (.pointer (some ⟨tb, 2, none⟩)) w1 rfl (Turn.refl _ _))
          · have k6 : a.tmps.getD 32 undef = .pointer (some ⟨tb, 2, none⟩) := hV ⟨6, .data⟩ (by simp) rfl _ 32 rfl rfl
            exact wp_value (v := .pointer (some ⟨pb, 0, none⟩)) (by simp only [execOp, Act.eval, k6]; go_simp) (hK (.pointer (some ⟨pb, 0, none⟩)) w1 rfl (Turn.refl _ _))
          · have k7 : a.tmps.getD 33 undef = .pointer (some ⟨pb, 0, none⟩) := hV ⟨7, .data⟩ (by simp) rfl _ 33 rfl rfl
            exact wp_value (v := .pointer (some ⟨pb, 0, none⟩)) (by simp only [execOp, Act.eval, k7]; kernel_rfl) (hK (.pointer (some ⟨pb, 0, none⟩)) w1 rfl (Turn.refl _ _))
          · have k8 : a.tmps.getD 34 undef = .pointer (some ⟨pb, 0, none⟩) := hV ⟨8, .data⟩ (by simp) rfl _ 34 rfl rfl
            exact wp_value (v := .pointer (some ⟨pb, 0, none⟩)) (by simp only [execOp, Act.eval, k8]; kernel_rfl) (hK (.pointer (some ⟨pb, 0, none⟩)) w1 rfl (Turn.refl _ _))
          · have k9 : a.tmps.getD 35 undef = .pointer (some ⟨pb, 0, none⟩) := hV ⟨9, .data⟩ (by simp) rfl _ 35 rfl rfl
            exact wp_value (v := .pointer (some ⟨plv, 0, none⟩)) (by simp only [execOp, Act.eval, k9]; go_simp) (hK (.pointer (some ⟨plv, 0, none⟩)) w1 rfl (Turn.refl _ _))
          · have k10 : a.tmps.getD 36 undef = .pointer (some ⟨plv, 0, none⟩) := hV ⟨10, .data⟩ (by simp) rfl _ 36 rfl rfl
            refine wp_call (f := 37) (vals := #[.pointer (some ⟨plv, 0, none⟩)]) (by simp only [execOp, resolve, Act.eval, List.map_toArray, List.map_cons, List.map_nil, k10]; kernel_rfl) ((lastIndex_any β plv ppv pss poff w1 hp1 hp1.slice toff HR.out).mono ?_)
            rintro e w2 ⟨rfl, q, rfl⟩
            exact ⟨_, rfl, hK _ _ rfl (drewN_t w1 q _)⟩
          · exact wp_value (by simp [execOp, Act.eval, n1]) (hK (.pointer (some ⟨st, 0, none⟩)) w1 rfl (Turn.refl _ _))
          · have k12 : a.tmps.getD 38 undef = .pointer (some ⟨st, 0, none⟩) := hV ⟨12, .data⟩ (by simp) rfl _ 38 rfl rfl
            exact wp_value (v := .iface 34 (.pointer (some ⟨st, 0, none⟩))) (by simp only [execOp, Act.eval, k12]; kernel_rfl) (hK (.iface 34 (.pointer (some ⟨st, 0, none⟩))) w1 rfl (Turn.refl _ _))
          · have k13 : a.tmps.getD 39 undef = .iface 34 (.pointer (some ⟨st, 0, none⟩)) := hV ⟨13, .data⟩ (by simp) rfl _ 39 rfl rfl
            refine wp_call (f := 38) (vals := #[.iface 34 (.pointer (some ⟨st, 0, none⟩))]) (by simp only [execOp, resolve, Act.eval, List.map_toArray, List.map_cons, List.map_nil, k13]; kernel_rfl) ((sline_any st l w1 ds).mono ?_)
            rintro e w2 ⟨rfl, rfl⟩
            exact ⟨_, rfl, hK _ _ rfl (Turn.refl _ _)⟩
        · intro a w1 ol hol hsz hdf hnd hV hT1
          simp at hol
          subst hol
          have k3 : a.tmps.getD 29 undef = .pointer (some ⟨c, 0, none⟩) := hV 3 _ 29 (by omega) rfl rfl
          have k11 : a.tmps.getD 37 undef = .int .i64 toff := hV 11 _ 37 (by omega) rfl rfl
          have k14 : a.tmps.getD 40 undef = .int .i64 l := hV 14 _ 40 (by omega) rfl rfl
          have n0 := hnd 0 (nondst (by kernel_rfl))
          have n1 := hnd 1 (nondst (by kernel_rfl))
          have n5 := hnd 5 (nondst (by kernel_rfl))
          clear hV hnd
          obtain ⟨⟨lst⟩, df⟩ := a
          obtain ⟨x0, x1, x2, x3, x4, x5, x6, x7, x8, x9, x10, x11, x12, x13, x14, x15, x16, x17, x18, x19, x20, x21, x22, x23, x24, x25, x26, x27, x28, x29, x30, x31, x32, x33, x34, x35, x36, x37, x38, x39, x40, x41, x42, x43, x44, x45, x46, x47, x48, x49, x50, x51, x52, x53, x54, x55, rfl⟩ := lit56 lst (by simpa using hsz)
          obtain rfl : df = [] := hdf
          obtain rfl : x29 = .pointer (some ⟨c, 0, none⟩) := k3
          obtain rfl : x37 = .int .i64 toff := k11
          obtain rfl : x40 = .int .i64 l := k14
          obtain rfl : x0 = .pointer (some ⟨fc, 0, none⟩) := n0
          obtain rfl : x1 = .pointer (some ⟨st, 0, none⟩) := n1
          obtain rfl : x5 = .int .i64 tlab := n5
          clear hsz
          have hco1 := hco.kept hT1 id id id
          have hs1 := hT1.size
          have blk1 := hT1.heap hfc id
          have st1 := hT1.cell hst id
          rename_i K hK
          refine wp_call (f := 36) (vals := #[.pointer (some ⟨c, 0, none⟩), .int .i64 38, .int .i64 toff, .int .i64 0, .int .i64 0, .int .i64 l]) (by simp only [execOp, resolve, Act.eval, List.map_toArray, List.map_cons, List.map_nil]; kernel_rfl) ((addABC_any β c gc cc gl cl is ls 38 toff 0 0 l w1 hco1 (by omega) (by omega)).mono ?_)
          rintro e w2 ⟨gc2, cc2, gl2, cl2, rfl, a1, a2, a3, a4⟩
          refine ⟨_, rfl, hK _ _ ?_⟩
          clear hK
          obtain ⟨i1, g1⟩ := owned_elem hco1.codes
          obtain ⟨i2, g2⟩ := owned_elem hco1.lines
          have nfc : ¬ (fc = c ∨ fc = gc ∨ fc = gl) := by
            have hb := hco1.blk
            rintro (e | e | e)
            · rw [e, hb] at blk1; simp at blk1
            · rw [e, g1] at blk1; simp at blk1
            · rw [e, g2] at blk1; simp at blk1
          have nst : ¬ (st = c ∨ st = gc ∨ st = gl) := hns
          have blk2 := a2.heap blk1 nfc
          have st2 := a2.cell st1 nst
          have c1' := cell_of_blk blk2 1 _ h1
          have hs2 := a2.size
          have hβ2 : β ≤ w2.heap.size := by omega
          have T2 : Turn wr w2 (fun b => b = c ∨ b = gc ∨ b = gl) := (hT1.mono (fun _ _ h => h.elim)).trans a2
          clear hco1 blk1 st1 g1 g2 c1
          simp only [Act.put]
          go_simp
          have A := still_of (sline_any st l w2.drew (show w2.drew.cell? _ = _ from st2))
          go_wp2_with fail
          go_still_tail 8, (by kernel_rfl)
          still_call A
          repeat still_step
          refine wpStill_nil ?_
          have hco2 := a1.kept ((Turn.refl w2 (fun _ => False)).drew) id id id
          have hd : β ≤ w2.drew.heap.size := hβ2
          go_wp2_with fail
          refine (addASbx_any β c gc2 cc2 gl2 cl2 _ _ 25 0 tlab l _ hco2 hd (by simp; omega)).mono ?_
          rintro e w' ⟨gc', cc', gl', cl', rfl, b1, b2, b3, b4⟩
          have HF : Broke β c gc gl is ls true tlab toff l wr (.returned (.tuple #[])) w' := by
            refine ⟨gc', cc', gl', cl', rfl, ?_, T2.trans' (((Turn.refl w2 _).drew).trans b2) ?_, ?_, ?_⟩
            · have := b1
              rw [List.append_assoc, List.append_assoc] at this
              exact this
            · intro j hj hG
              have hs0 := hT1.size
              rcases hG with h | h | h
              · exact .inl h
              · rcases a3 with e | e
                · exact .inr (.inl (h.trans e))
                · omega
              · rcases a4 with e | e
                · exact .inr (.inr (h.trans e))
                · omega
            · have hs0 := hT1.size
              have hz : w2.drew.heap.size = w2.heap.size := rfl
              rcases b3 with e | e
              · rcases a3 with e' | e'
                · exact .inl (e.trans e')
                · exact .inr (by omega)
              · exact .inr (by omega)
            · have hs0 := hT1.size
              have hz : w2.drew.heap.size = w2.heap.size := rfl
              rcases b4 with e | e
              · rcases a4 with e' | e'
                · exact .inl (e.trans e')
                · exact .inr (by omega)
              · exact .inr (by omega)
          have HH := Lib.hid HF
          clear HF b1 b2 b3 b4 hco2 hd A a1 a2 a3 a4 T2
          go_wp2
          go_end0
          exact HH.out
end Go.Proofs.YtabienikffakiaaFmt
