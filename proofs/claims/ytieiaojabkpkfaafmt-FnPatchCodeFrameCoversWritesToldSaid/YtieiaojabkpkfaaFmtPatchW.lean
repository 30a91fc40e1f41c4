/- The walk of patchCode: the register count and the patched list. -/
import Derived.Test.YtieiaojabkpkfaaFmtPatchDef
import Derived.Test.YtieiaojabkpkfaaFmtFcB
import Derived.Deep.DeepCutAuto
import Derived.Deep.CutBlock
import Derived.Deep.LoopGhost
import Derived.StillTailTactics
import Derived.Outline
namespace Go.Proofs.YtieiaojabkpkfaaFmt
open Go.RowKit
set_option linter.unusedVariables false

/-- a prototype's cells with a number of parameters and of registers -/
def pcs (s : ByteArray) (np nu : Int) (v : Nat → Value) : Array Value :=
  #[.string s, .int .i64 0, .int .i64 0, .int .u8 0, .int .u8 np, .int .u8 0, .int .u8 nu, v 7, v 8, v 9, v 10, v 11, v 12, v 13, v 14]

/-- a function context whose code store holds 'is' -/
structure PState (w : World) (β fc : Nat) (F : FcAt) (sl : Value) (v : Nat → Value) (np nu : Int) (gc cc gl cl : Nat) (is ls : List Int) : Prop where
  fblk : w.heap[fc]? = some (.cells (fcCells F sl) 61 (0, 0))
  pblk : w.heap[F.pr]? = some (.cells (pcs F.nm np nu v) 52 (0, 0))
  code : Code w β F.c gc cc gl cl is ls
  fge : β ≤ fc
  pge : β ≤ F.pr
  cge : β ≤ F.c

theorem Code.gcge {w : World} {β c gc cc gl cl : Nat} {is ls : List Int} (h : Code w β c gc cc gl cl is ls) : β ≤ gc ∧ β ≤ gl := ⟨(h.codes.lt _ rfl).1, (h.lines.lt _ rfl).1⟩

theorem PState.put {w : World} {β fc : Nat} {F : FcAt} {sl : Value} {v : Nat → Value} {np nu : Int} {gc cc gl cl : Nat} {is ls : List Int} (h : PState w β fc F sl v np nu gc cc gl cl is ls) (k : Nat) (y : Int) : PState (w.setCell ⟨gc, k, none⟩ (.int .u32 y)) β fc F sl v np nu gc cc gl cl (is.set k y) ls := by
  have T := (Turn.refl w (fun b => b = gc)).setCell (p := ⟨gc, k, none⟩) (fun _ => rfl) (.int .u32 y)
  obtain ⟨cu, hu⟩ := owned_elem h.code.codes
  refine ⟨T.heap h.fblk ?_, T.heap h.pblk ?_, h.code.put k y, h.fge, h.pge, h.cge⟩
  · rintro rfl
    have := h.fblk
    rw [hu] at this
    simp at this
  · intro e
    have := h.pblk
    rw [e, hu] at this
    simp at this

theorem PState.same {w w' : World} {β fc : Nat} {F : FcAt} {sl : Value} {v : Nat → Value} {np nu : Int} {gc cc gl cl : Nat} {is ls : List Int} (h : PState w β fc F sl v np nu gc cc gl cl is ls) (t : Turn w w' (fun _ => False)) : PState w' β fc F sl v np nu gc cc gl cl is ls :=
  ⟨t.heap h.fblk id, t.heap h.pblk id, h.code.kept t id id id, h.fge, h.pge, h.cge⟩

/-- the answer of patchCode: the list is patched, the count is laid down -/
def Patched (β fc : Nat) (F : FcAt) (sl : Value) (v : Nat → Value) (np : Int) (gc cc gl cl : Nat) (L ls : List Int) (w : World) (e : Ending) (w' : World) : Prop :=
  e = .returned (.tuple #[]) ∧ PState w' β fc F sl v np (regs L np) gc cc gl cl (pat L L.length) ls ∧ Turn w w' (fun b => b = gc ∨ b = F.pr)

theorem Turn.drewN {a b : World} {F : Nat → Prop} (h : Turn a b F) (q : Nat) : Turn a (b.drewN q) F := ⟨h.os, h.tape, h.output, h.size, h.block⟩

def Rel (w : World) (β fc : Nat) (F : FcAt) (sl : Value) (v : Nat → Value) (np nu : Int) (gc cc gl cl : Nat) (L ls : List Int) (k : Nat) (wr : World) : Prop :=
  PState wr β fc F sl v np nu gc cc gl cl (pat L k) ls ∧ Turn w wr (fun b => b = gc ∨ b = F.pr)

theorem set_twice (L : List Int) (i : Nat) (a b : Int) : (L.set i a).set i b = L.set i b := by
  apply List.ext_getElem?
  intro j
  by_cases h : i = j
  · subst h; simp
  · simp [h]

theorem still_of {f : FuncId} {args : Array Value} {w : World} {v : Value} (h : Calls Tryf.prog f args w fun e w' => e = .returned v ∧ w = w') : Calls Tryf.prog f args w fun e w'' => e = .returned v ∧ w'' = w :=
  h.mono fun _ _ ⟨he, hm⟩ => ⟨he, hm.symm⟩

theorem fuse_min (y : Int) (V : Nat) : setC (setOp y 1) (if (V : Int) - 1 < 511 then (V : Int) - 1 else 511) = fuse y V := rfl

set_option maxRecDepth 100000 in
set_option maxHeartbeats 4000000 in
theorem patch_any (β fc : Nat) (F : FcAt) (sl : Value) (v : Nat → Value) (np nu : Int) (gc cc gl cl : Nat) (L ls : List Int) (w : World) (h : PState w β fc F sl v np nu gc cc gl cl L ls)
    (hn : L.length ≤ 1048576) (hcc : L.length ≤ cc) (h32 : All32 L) (hj : NoJump L) (hs : Small L) (hp0 : 0 ≤ np) (hp1 : np ≤ 199) :
    Calls Tryf.prog 34 #[.pointer (some ⟨fc, 0, none⟩)] w (Patched β fc F sl v np gc cc gl cl L ls w) := by
  have f0 := cell_of_blk h.fblk 0 (.pointer (some ⟨F.pr, 0, none⟩)) rfl
  have f1 := cell_of_blk h.fblk 1 (.pointer (some ⟨F.c, 0, none⟩)) rfl
  have p4 := cell_of_blk h.pblk 4 (.int .u8 np) rfl
  go_enter Tryf.func34, Tryf.ntmps34
  go_upto_if 27 with fail
  go_cut [2] (fun s2 wx => s2 = .int .i64 (m0 np) ∧ wx = w)
  case first =>
    by_cases h1 : 1 < np
    · have hm0 : m0 np = np := by unfold m0; rw [if_pos h1]
      have HM0 := Lib.hid hm0
      clear hm0
      as_aux_lemma =>
      go_wp2_with fail
      go_meet
      exact ⟨by rw [HM0.out], rfl⟩
    · have hm0 : m0 np = 1 := by unfold m0; rw [if_neg h1]
      have HM0 := Lib.hid hm0
      clear hm0
      as_aux_lemma =>
      go_wp2_with fail
      go_meet
      exact ⟨by rw [HM0.out], rfl⟩
  case rest =>
  obtain ⟨rfl, hw⟩ := hcut
  have hw := hw.symm
  subst hw
  go_wp2_with fail
  refine (list_any β F.c gc cc gl cl L ls _ h.code hn hcc).mono ?_
  rintro e w' ⟨q, rfl, rfl⟩
  have h0 : Rel w β fc F sl v np nu gc cc gl cl L ls 0 (w.drewN q) := ⟨h.same ((Turn.refl _ _).drewN q), (Turn.refl _ _).drewN q⟩
  have H0 := Lib.hid h0
  clear h0 h f0 f1 p4
  go_wp2
  go_loopg [2, 4, 6] L.length (fun g s1 s3 s5 wr => ∃ k : Nat, k + g = L.length ∧ s5 = .int .i64 k ∧ s1 = .int .i64 (mx (m0 np) L k) ∧ s3 = .int .i64 (mv L k) ∧ Rel w β fc F sl v np nu gc cc gl cl L ls k wr)
  case atStart => exact ⟨0, by omega, rfl, rfl, rfl, H0.out⟩
  case round =>
    clear H0
    obtain ⟨k, hk, rfl, rfl, rfl, hP, hT⟩ := hrel
    have e0 := cell_of_blk hP.fblk 0 (.pointer (some ⟨F.pr, 0, none⟩)) rfl
    have e1 := cell_of_blk hP.fblk 1 (.pointer (some ⟨F.c, 0, none⟩)) rfl
    have HP := Lib.hid hP
    have HT := Lib.hid hT
    by_cases hlt : k < L.length
    · have hc := hP.code.cell k (by rw [pat_len]; exact hlt)
      rw [pat_get L k (by omega) k (Nat.sub_le _ _)] at hc
      have x32 := h32 k hlt
      have hsm := hs k hlt
      have hnj := hj k hlt
      have hb := mx_bd (m0 np) L hs (m0_bd np hp1).1 (m0_bd np hp1).2 k (by omega)
      have hmv := mv_le L k
      have hMs := mx_succ_up (m0 np) L k
      have hMe := mx_succ_same (m0 np) L k
      have hp32 := pat_32 L h32 k (by omega)
      generalize hx : L.getD k 0 = x at hc x32 hsm hnj hMs hMe
      generalize hM : mx (m0 np) L k = M at hb hMs hMe ⊢
      generalize hV : mv L k = V at hmv ⊢
      have HX := Lib.hid hx
      have HM := Lib.hid hM
      have HV := Lib.hid hV
      have H32 := Lib.hid hp32
      have HMS := Lib.hid hMs
      have HME := Lib.hid hMe
      clear hx hM hV hP hT h32 hj hs hMs hMe hp32
      go_wp2_with fail
      refine (opGetOpCode_any x x32 _).mono ?_
      rintro e w' ⟨rfl, rfl⟩
      generalize ho : opI x = o at hnj ⊢
      have HO := Lib.hid ho
      clear ho
      have hA := aI_bd x
      have hB := bI_bd x
      have hC := cI_bd x
      go_upto_block 2 with fail
      go_cut [2, 4, 6] (fun s2 s4 s6 wx => s2 = .int .i64 (mx (m0 np) L (k + 1)) ∧ s4 = .int .i64 V ∧ s6 = .int .i64 k ∧ wx = wr)
      case first =>
        by_cases hI : Idle o
        · have hr := reg_idle x (by rw [HO.out]; exact hI)
          have hM2 := HME.out (by omega)
          have HM2 := Lib.hid hM2
          clear hM2 hr
          unfold Idle at hI
          rcases hI with rfl | rfl | rfl | rfl | rfl | rfl | rfl | rfl | rfl | rfl | rfl | rfl | rfl
          all_goals (as_aux_lemma => (go_wp2_with fail; go_meet; exact ⟨by rw [HM2.out], rfl, rfl, rfl⟩))
        by_cases h31 : o = 31
        · subst h31
          have hr := reg_call x HO.out
          by_cases hgt : M < aI x + cI x - 2
          · have hM2 := HMS.out (by omega)
            rw [hr] at hM2
            have HM2 := Lib.hid hM2
            clear hM2 hr
            as_aux_lemma =>
            go_wp2_with fail
            refine (opGetArgA_any x x32 _).mono ?_
            rintro e w' ⟨rfl, rfl⟩
            go_wp2_with fail
            refine (opGetArgC_any x x32 _).mono ?_
            rintro e w' ⟨rfl, rfl⟩
            go_wp2_with fail
            go_meet
            exact ⟨by rw [HM2.out], rfl, rfl, rfl⟩
          · have hM2 := HME.out (by omega)
            have HM2 := Lib.hid hM2
            clear hM2 hr
            as_aux_lemma =>
            go_wp2_with fail
            refine (opGetArgA_any x x32 _).mono ?_
            rintro e w' ⟨rfl, rfl⟩
            go_wp2_with fail
            refine (opGetArgC_any x x32 _).mono ?_
            rintro e w' ⟨rfl, rfl⟩
            go_wp2_with fail
            go_meet
            exact ⟨by rw [HM2.out], rfl, rfl, rfl⟩
        by_cases h40 : o = 40
        · subst h40
          have hr := reg_vararg x HO.out
          by_cases hgt : M < aI x + bI x - 1
          · have hM2 := HMS.out (by omega)
            rw [hr] at hM2
            have HM2 := Lib.hid hM2
            clear hM2 hr
            as_aux_lemma =>
            go_wp2_with fail
            refine (opGetArgA_any x x32 _).mono ?_
            rintro e w' ⟨rfl, rfl⟩
            go_wp2_with fail
            refine (opGetArgB_any x x32 _).mono ?_
            rintro e w' ⟨rfl, rfl⟩
            go_wp2_with fail
            go_meet
            exact ⟨by rw [HM2.out], rfl, rfl, rfl⟩
          · have hM2 := HME.out (by omega)
            have HM2 := Lib.hid hM2
            clear hM2 hr
            as_aux_lemma =>
            go_wp2_with fail
            refine (opGetArgA_any x x32 _).mono ?_
            rintro e w' ⟨rfl, rfl⟩
            go_wp2_with fail
            refine (opGetArgB_any x x32 _).mono ?_
            rintro e w' ⟨rfl, rfl⟩
            go_wp2_with fail
            go_meet
            exact ⟨by rw [HM2.out], rfl, rfl, rfl⟩
        by_cases h14 : o = 14
        · subst h14
          have hr := reg_self x HO.out
          by_cases hgt : M < aI x + 1
          · have hM2 := HMS.out (by omega)
            rw [hr] at hM2
            have HM2 := Lib.hid hM2
            clear hM2 hr
            as_aux_lemma =>
            go_wp2_with fail
            refine (opGetArgA_any x x32 _).mono ?_
            rintro e w' ⟨rfl, rfl⟩
            go_wp2_with fail
            go_meet
            exact ⟨by rw [HM2.out], rfl, rfl, rfl⟩
          · have hM2 := HME.out (by omega)
            have HM2 := Lib.hid hM2
            clear hM2 hr
            as_aux_lemma =>
            go_wp2_with fail
            refine (opGetArgA_any x x32 _).mono ?_
            rintro e w' ⟨rfl, rfl⟩
            go_wp2_with fail
            go_meet
            exact ⟨by rw [HM2.out], rfl, rfl, rfl⟩
        by_cases h4 : o = 4
        · subst h4
          have hr := reg_nil x HO.out
          by_cases hgt : M < bI x
          · have hM2 := HMS.out (by omega)
            rw [hr] at hM2
            have HM2 := Lib.hid hM2
            clear hM2 hr
            as_aux_lemma =>
            go_wp2_with fail
            refine (opGetArgB_any x x32 _).mono ?_
            rintro e w' ⟨rfl, rfl⟩
            go_wp2_with fail
            go_meet
            exact ⟨by rw [HM2.out], rfl, rfl, rfl⟩
          · have hM2 := HME.out (by omega)
            have HM2 := Lib.hid hM2
            clear hM2 hr
            as_aux_lemma =>
            go_wp2_with fail
            refine (opGetArgB_any x x32 _).mono ?_
            rintro e w' ⟨rfl, rfl⟩
            go_wp2_with fail
            go_meet
            exact ⟨by rw [HM2.out], rfl, rfl, rfl⟩
        have hr := reg_else x (by rw [HO.out]; exact hI) (by rw [HO.out]; exact h31) (by rw [HO.out]; exact h40) (by rw [HO.out]; exact h14) (by rw [HO.out]; exact h4)
        have b9 : (o == 9) = false := by simpa using (fun e : o = 9 => hI (by unfold Idle; omega))
        have b10 : (o == 10) = false := by simpa using (fun e : o = 10 => hI (by unfold Idle; omega))
        have b26 : (o == 26) = false := by simpa using (fun e : o = 26 => hI (by unfold Idle; omega))
        have b27 : (o == 27) = false := by simpa using (fun e : o = 27 => hI (by unfold Idle; omega))
        have b28 : (o == 28) = false := by simpa using (fun e : o = 28 => hI (by unfold Idle; omega))
        have b29 : (o == 29) = false := by simpa using (fun e : o = 29 => hI (by unfold Idle; omega))
        have b32 : (o == 32) = false := by simpa using (fun e : o = 32 => hI (by unfold Idle; omega))
        have b33 : (o == 33) = false := by simpa using (fun e : o = 33 => hI (by unfold Idle; omega))
        have b34 : (o == 34) = false := by simpa using (fun e : o = 34 => hI (by unfold Idle; omega))
        have b35 : (o == 35) = false := by simpa using (fun e : o = 35 => hI (by unfold Idle; omega))
        have b36 : (o == 36) = false := by simpa using (fun e : o = 36 => hI (by unfold Idle; omega))
        have b37 : (o == 37) = false := by simpa using (fun e : o = 37 => hI (by unfold Idle; omega))
        have b38 : (o == 38) = false := by simpa using (fun e : o = 38 => hI (by unfold Idle; omega))
        have b31 : (o == 31) = false := by simpa using h31
        have b40 : (o == 40) = false := by simpa using h40
        have b14 : (o == 14) = false := by simpa using h14
        have b4 : (o == 4) = false := by simpa using h4
        have b25 : (o == 25) = false := by simpa using hnj.1
        have b39 : (o == 39) = false := by simpa using hnj.2
        clear hI h31 h40 h14 h4 hnj
        by_cases hgt : M < aI x
        · have hM2 := HMS.out (by omega)
          rw [hr] at hM2
          have HM2 := Lib.hid hM2
          clear hM2 hr
          as_aux_lemma =>
          go_wp2_with fail
          refine (opGetArgA_any x x32 _).mono ?_
          rintro e w' ⟨rfl, rfl⟩
          go_wp2_with fail
          go_meet
          exact ⟨by rw [HM2.out], rfl, rfl, rfl⟩
        · have hM2 := HME.out (by omega)
          have HM2 := Lib.hid hM2
          clear hM2 hr
          as_aux_lemma =>
          go_wp2_with fail
          refine (opGetArgA_any x x32 _).mono ?_
          rintro e w' ⟨rfl, rfl⟩
          go_wp2_with fail
          go_meet
          exact ⟨by rw [HM2.out], rfl, rfl, rfl⟩
      case rest =>
        obtain ⟨rfl, rfl, rfl, hw⟩ := hcut
        have hw := hw.symm
        subst hw
        clear HMS HME hA hB hC hsm hnj x32 hc
        by_cases h0 : o = 0
        · subst h0
          have hop : opI (L.getD k 0) = 0 := by rw [HX.out, HO.out]
          have hv1 := mv_succ_zero L k hop
          have hR : Rel w β fc F sl v np nu gc cc gl cl L ls (k + 1) wr := ⟨by rw [pat_succ_same L k (.inl hop)]; exact HP.out, HT.out⟩
          have HR := Lib.hid hR
          have HV1 := Lib.hid hv1
          clear hR hv1 hop
          as_aux_lemma =>
          go_wp2_with fail
          go_roundg (L.length - (k + 1))
          case measure => omega
          case rel => exact ⟨k + 1, by omega, by go_num, rfl, by rw [HV1.out, HV.out]; go_num, HR.out⟩
        · have b0 : (o == 0) = false := by simpa using h0
          have hop : opI (L.getD k 0) ≠ 0 := by rw [HX.out, HO.out]; exact h0
          have hv1 := mv_succ_else L k hop
          by_cases hV1 : 1 < V
          · have hset := pat_succ_set L k hop (by rw [HV.out]; exact hV1)
            rw [HV.out] at hset
            have HS := Lib.hid hset
            have HV1 := Lib.hid hv1
            have hpl := pat_len L k
            have hki : (k : Int) - (V : Int) = ((k - V : Nat) : Int) := by omega
            have hik : k - V < (pat L k).length := by omega
            have hbig : (pat L k).length ≤ 1048576 := by omega
            have y32 := H32.out (k - V) hik
            have hS1 := setOpCode_any β F.c gc cc gl cl (pat L k) ls (k - V) 1 wr HP.out.code hik hbig y32
            have P1 := HP.out.put (k - V) (setOp ((pat L k).getD (k - V) 0) 1)
            have T1 := (Turn.refl wr (fun b => b = gc)).setCell (p := ⟨gc, k - V, none⟩) (fun _ => rfl) (.int .u32 (setOp ((pat L k).getD (k - V) 0) 1))
            have y1 : W32 (setOp ((pat L k).getD (k - V) 0) 1) := setOp_bd _ 1
            have g1 : ((pat L k).set (k - V) (setOp ((pat L k).getD (k - V) 0) 1)).getD (k - V) 0 = setOp ((pat L k).getD (k - V) 0) 1 := by rw [getD_set _ _ _ _ hik, if_pos rfl]
            have hl1 : ((pat L k).set (k - V) (setOp ((pat L k).getD (k - V) 0) 1)).length = (pat L k).length := List.length_set
            have hS2 := setArgC_any β F.c gc cc gl cl ((pat L k).set (k - V) (setOp ((pat L k).getD (k - V) 0) 1)) ls (k - V) (if (V : Int) - 1 < 511 then (V : Int) - 1 else 511) (wr.setCell ⟨gc, k - V, none⟩ (.int .u32 (setOp ((pat L k).getD (k - V) 0) 1))).drew
              ((P1.same ((Turn.refl _ _).drew)).code) (by rw [hl1]; exact hik) (by rw [hl1]; exact hbig) (by rw [g1]; exact y1)
            have P2 := (P1.same ((Turn.refl _ _).drew)).put (k - V) (fuse ((pat L k).getD (k - V) 0) V)
            rw [set_twice] at P2
            rw [g1, fuse_min] at hS2
            have d1 := cell_of_blk P1.fblk 1 (.pointer (some ⟨F.c, 0, none⟩)) rfl
            have T2 := (T1.drew).setCell (p := ⟨gc, k - V, none⟩) (fun _ => rfl) (.int .u32 (fuse ((pat L k).getD (k - V) 0) V))
            have hR : Rel w β fc F sl v np nu gc cc gl cl L ls (k + 1) _ := ⟨by rw [HS.out]; exact P2, HT.out.trans (T2.mono (fun _ _ h => .inl h))⟩
            have HR := Lib.hid hR
            have A := still_of (intMin_any ((V : Int) - 1) 511 (wr.setCell ⟨gc, k - V, none⟩ (.int .u32 (setOp ((pat L k).getD (k - V) 0) 1))).drew)
            have z1 : (V : Int) ≤ 1048576 := by omega
            have z2 : 1 < (V : Int) := by omega
            have w1 : IntKind.i64.wrap ((V : Int) - 1) = (V : Int) - 1 := wrap_i64_small _ (by omega) (by omega)
            have w2 : IntKind.i64.wrap ((k - V : Nat) : Int) = ((k - V : Nat) : Int) := wrap_i64_small _ (by omega) (by omega)
            have hgl := HP.out.code.gcge
            clear hR P1 P2 T1 T2 y1 g1 hl1 hset hv1 y32 hop hgl
            generalize (if (V : Int) - 1 < 511 then (V : Int) - 1 else 511) = c at A hS2
            generalize wr.setCell ⟨gc, k - V, none⟩ (.int .u32 (setOp ((pat L k).getD (k - V) 0) 1)) = w5 at *
            as_aux_lemma =>
            go_wp2_with fail
            refine hS1.mono ?_
            rintro e w' ⟨rfl, hw5⟩
            subst hw5
            go_wp2_with fail
            go_still_tail 10, (by kernel_rfl)
            still_call A
            repeat still_step
            refine wpStill_nil ?_
            go_wp2_with fail
            refine hS2.mono ?_
            rintro e w' ⟨rfl, hw6⟩
            subst hw6
            go_wp2
            go_roundg (L.length - (k + 1))
            case measure => omega
            case rel => exact ⟨k + 1, by omega, by go_num, rfl, by rw [HV1.out]; go_num, HR.out⟩
          · have hR : Rel w β fc F sl v np nu gc cc gl cl L ls (k + 1) wr := ⟨by rw [pat_succ_same L k (.inr (by rw [HV.out]; omega))]; exact HP.out, HT.out⟩
            have HR := Lib.hid hR
            have HV1 := Lib.hid hv1
            clear hR hv1 hop
            as_aux_lemma =>
            go_wp2_with fail
            go_roundg (L.length - (k + 1))
            case measure => omega
            case rel => exact ⟨k + 1, by omega, by go_num, rfl, by rw [HV1.out]; go_num, HR.out⟩
    · have he : k = L.length := by omega
      subst he
      have hb := mx_bd (m0 np) L hs (m0_bd np hp1).1 (m0_bd np hp1).2 L.length (Nat.le_refl _)
      have hr : regs L np = mx (m0 np) L L.length + 1 := rfl
      have p6 := free_of_blk hP.pblk 6
      have p6' := cell_of_blk hP.pblk 6 (.int .u8 nu) rfl
      have T := (Turn.refl wr (fun b => b = F.pr)).setCell (p := ⟨F.pr, 6, none⟩) (fun _ => rfl) (.int .u8 (mx (m0 np) L L.length + 1))
      have hres : Patched β fc F sl v np gc cc gl cl L ls w (.returned (.tuple #[])) (wr.setCell ⟨F.pr, 6, none⟩ (.int .u8 (mx (m0 np) L L.length + 1))) := by
        obtain ⟨c1, h1⟩ := owned_elem hP.code.codes
        obtain ⟨c2, h2⟩ := owned_elem hP.code.lines
        have q1 := hP.pblk
        have q2 := hP.fblk
        have q3 := hP.code.blk
        refine ⟨rfl, ⟨T.heap hP.fblk ?_, ?_, hP.code.kept T ?_ ?_ ?_, hP.fge, hP.pge, hP.cge⟩, hT.trans (T.mono (fun _ _ h => .inr h))⟩
        · intro e; rw [e, q1] at q2; simp at q2
        · rw [hr]; exact blk_setCell hP.pblk 6 _
        · intro e; rw [e, q1] at q3; simp at q3
        · intro e; rw [e, q1] at h1; simp at h1
        · intro e; rw [e, q1] at h2; simp at h2
      have HRES := Lib.hid hres
      clear hres T hP hT HP HT h32 hj hs hr
      generalize mx (m0 np) L L.length = M at hb HRES ⊢
      as_aux_lemma =>
      go_wp2
      go_end0
      exact HRES.out
end Go.Proofs.YtieiaojabkpkfaaFmt
