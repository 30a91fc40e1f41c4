/- zzBuildBlocks' contract. Printed by wip/genBuild.py. -/
import Derived.Test.YtabienikffakiaaFmtExp135
import Derived.Test.YtabienikffakiaaFmtHelp135
namespace Go.Proofs.YtabienikffakiaaFmt
open Go.RowKit
set_option linter.unusedVariables false

def cntT (L : List Bool) : Nat → Nat
  | 0 => 0
  | k + 1 => cntT L k + (if L.getD k false then 1 else 0)
/-- the label of block k: 0 where it is no loop -/
def labAt (L : List Bool) (k : Nat) : Int := if L.getD k false then 1 + (cntT L k : Int) else 0
theorem cntT_le (L : List Bool) (k : Nat) : cntT L k ≤ k := by
  induction k with
  | zero => exact Nat.le_refl _
  | succ k ih =>
    unfold cntT
    split <;> omega
theorem labAt_bd (L : List Bool) (k : Nat) : 0 ≤ labAt L k ∧ labAt L k ≤ 1 + k := by
  have := cntT_le L k
  unfold labAt
  split <;> omega
def labs (L : List Bool) : List Int := (List.range L.length).map (labAt L)
theorem labs_len (L : List Bool) : (labs L).length = L.length := by simp [labs]
theorem labs_get (L : List Bool) (k : Nat) (h : k < L.length) : (labs L).getD k 0 = labAt L k := by simp [labs, List.getD, h]

/-- the blocks, the innermost first, as the arguments tell them -/
def Fits (r : Int) (ns : List Int) (loops refs : List Bool) : List Bk → Prop
  | [] => False
  | [B] => B.lab = 0 ∧ B.top = r
  | B :: C :: R => (B.lab = labAt loops R.length ∧ B.ref = refs.getD R.length false ∧ B.off = r + psum ns R.length ∧ B.top = r + psum ns (R.length + 1)) ∧ Fits r ns loops refs (C :: R)

theorem Fits.topIs {r : Int} {ns : List Int} {loops refs : List Bool} {B : Bk} {R : List Bk} (h : Fits r ns loops refs (B :: R)) : B.top = r + psum ns R.length := by
  cases R with
  | nil => have := h.2; simp only [List.length_nil, psum]; omega
  | cons C R => exact h.1.2.2.2

theorem IntsKept.row {w w' : World} (h : IntsKept w w') {β s : Nat} {v : Value} {n : Nat} {xs : List Value} (o : w.ownsRow β 3 s v n xs) : w'.ownsRow β 3 s v n xs := by
  obtain ⟨h1, h2 | ⟨g, cap, cur, rfl, hb, hg, r⟩⟩ := o
  · exact ⟨h1, .inl h2⟩
  · exact ⟨h1, .inr ⟨g, cap, cur, rfl, hb, h g cur hg, r⟩⟩

theorem Stt.kept {w w' : World} {β fc : Nat} {F : FcAt} {B : Bk} {R : List Bk} {g m cap : Nat} {ys : List Value} {lid : Int} {n : Nat} {v : Nat → Value} {xs : List Value} {G : Nat → Prop} (h : Stt w β fc F B R g m cap ys lid n v xs) (t : Turn w w' G)
    (ne : ∀ (k : Nat) (X : Array Value) (t : TypeId), w.heap[k]? = some (.cells X t (0, 0)) → t ≠ 3 → ¬ G k) (hgl : ¬ G F.gl) : Stt w' β fc F B R g m cap ys lid n v xs := by
  obtain ⟨c1, u1⟩ := owned_elem h.loc.code.codes
  obtain ⟨gd, capd, ed, rd⟩ := h.loc.row
  obtain ⟨c3, u3⟩ := owned_elem rd
  obtain ⟨c4, u4⟩ := owned_elem h.row
  have hpk : ∀ k, B.pv.ownBlock = some k → ¬ G k := fun k hk => by
    obtain ⟨X, hX, _⟩ := h.loc.pool.rowKind hk
    exact ne _ _ _ hX (by decide)
  refine ⟨⟨h.loc.ge, t.heap h.loc.blk (ne _ _ _ h.loc.blk (by decide)), h.loc.code.kept t (ne _ _ _ h.loc.code.blk (by decide)) (ne _ _ _ u1 (by decide)) hgl, h.loc.cge, t.heap h.loc.bblk (ne _ _ _ h.loc.bblk (by decide)), h.loc.bc0, h.loc.pool.kept t (ne _ _ _ h.loc.pool.blk (by decide)) hpk, h.loc.lvge, t.heap h.loc.pblk (ne _ _ _ h.loc.pblk (by decide)), h.loc.prge, gd, capd, ed, t.ownsRow rd (fun k hk => by cases hk; exact ne _ _ _ u3 (by decide))⟩, h.bge, h.rest.kept t ?_, h.apart, h.offs, t.ownsRow h.row (fun k hk => by cases hk; exact ne _ _ _ u4 (by decide))⟩
  intro C hC
  obtain ⟨par, hA⟩ := h.rest.mem hC
  refine ⟨ne _ _ _ hA.blk (by decide), ne _ _ _ hA.pool.blk (by decide), fun k hk => ?_⟩
  obtain ⟨X, hX, _⟩ := hA.pool.rowKind hk
  exact ne _ _ _ hX (by decide)

/-- the state after j blocks -/
structure Built (r : Int) (ns : List Int) (loops refs : List Bool) (w : World) (fc : Nat) (F : FcAt) (gL : Nat) (j : Nat) (B : Bk) (R : List Bk) (g cap : Nat) (ys : List Value) (n : Nat) (v : Nat → Value) (xs : List Value) (w' : World) : Prop where
  st : Stt w' w.heap.size fc F B R g (j + 1) cap ys (1 + (cntT loops j : Int)) n v xs
  len : R.length = j
  fits : Fits r ns loops refs (B :: R)
  cnt : (n : Int) = r + psum ns j
  row : w'.ownsRow w.heap.size 3 1 (.slice (some ⟨gL, 0, none⟩) loops.length loops.length) loops.length (((labs loops).take j).map (Value.int .i64) ++ List.replicate (loops.length - j) (Value.int .i64 0))
  ne : gL ≠ F.gl
  turn : Turn w w' (fun _ => False)

def AllBuilt (r : Int) (ns : List Int) (loops refs : List Bool) (w : World) (e : Ending) (w' : World) : Prop :=
  ∃ fc F gL B R g cap ys n v xs, e = .returned (.tuple #[.pointer (some ⟨fc, 0, none⟩), .slice (some ⟨gL, 0, none⟩) loops.length loops.length]) ∧ Built r ns loops refs w fc F gL loops.length B R g cap ys n v xs w'

set_option maxRecDepth 100000 in
set_option maxHeartbeats 2000000 in
theorem build_any (r : Int) (a1 a2 a3 : Option Addr) (n c1 c2 c3 : Nat) (loops refs : List Bool) (ns : List Int) (line : Int) (w : World) (l1 : loops.length = n) (l2 : ns.length = n) (l3 : refs.length = n) (S1 : Bools w a1 loops) (S2 : Ints .i64 w a2 ns) (S3 : Bools w a3 refs)
    (hn : n ≤ 4096) (hr : 0 ≤ r) (hE : ∀ k, k < n → 0 ≤ ns.getD k 0 ∧ ns.getD k 0 ≤ 199) (hS : ∀ k, k ≤ n → r + psum ns k ≤ 199) (hP : ∀ k, k ≤ n → 0 ≤ psum ns k) :
    Calls Tryf.prog 9 #[.int .i64 r, .slice a1 n c1, .slice a2 n c2, .slice a3 n c3, .int .i64 line] w (AllBuilt r ns loops refs w) := by
  obtain ⟨i0, hi, hz0, hz1, hz2⟩ := info_parts infoInt
  have hr1 : r ≤ 199 := by
    have := hS 0 (Nat.zero_le _)
    simp only [psum] at this
    omega
  have HE := Lib.hid hE
  have HS := Lib.hid hS
  have HP := Lib.hid hP
  have HL1 := Lib.hid l1
  have HL2 := Lib.hid l2
  have HL3 := Lib.hid l3
  clear hE hS hP l1 l2 l3
  go_enter Tryf.func9, Tryf.ntmps9
  go_wp2_with fail
  refine (ZZnewFc_any _).mono ?_
  intro e w1 hm
  obtain ⟨fc, F, B0, g, ys, v, xs, rfl, hst, k1, k2, k3, k4, hT1⟩ := hm
  have T1 := Lib.hid hT1
  have X0 := Lib.hid hst
  clear hst hT1
  go_wp2
  go_loopw [13] (fun i wr => ∃ (k : Nat) (B : Bk) (v' : Nat → Value) (xs' : List Value), (k : Int) ≤ r ∧ i = .int .i64 k ∧ Stt wr w.heap.size fc F B [] g 1 1 ys 1 k v' xs' ∧ B.lab = 0 ∧ B.off = 0 ∧ B.ss.length = k ∧ Turn w wr (fun _ => False)) (fun i _ => r.toNat - (intOf i).toNat)
  case atStart => exact ⟨0, B0, v, xs, hr, rfl, X0.out, k1, k4, by rw [k3]; rfl, T1.out⟩
  case round =>
    clear T1 X0 k1 k2 k3 k4
    obtain ⟨k, B, v', xs', hk, rfl, hst, q1, q2, q3, hT⟩ := hrel
    have hsz := hT.size
    have HT := Lib.hid hT
    have X := Lib.hid hst
    have Q1 := Lib.hid q1
    have Q2 := Lib.hid q2
    have Q3 := Lib.hid q3
    clear hT hst q1 q2 q3
    by_cases hlt : (k : Int) < r
    · go_wp2_with fail
      refine (ZZreg_any _ _ X.out hsz (by have := Q2.out; have := Q3.out; unfold Bk.top; omega) (by have := Q2.out; have := Q3.out; unfold Bk.top; omega) (by have := Q3.out; omega) (by omega)).mono ?_
      rintro e w2 ⟨pv2, v2, xs2, rr, rfl, hst2, hT2, _⟩
      have Y := Lib.hid hst2
      have T2 := Lib.hid (HT.out.trans' hT2 (fun j hj h => by omega))
      clear hst2 hT2
      go_wp2
      go_roundw
      case rel => exact ⟨k + 1, _, v2, xs2, by omega, by go_num, Y.out, Q1.out, Q2.out, by have := Q3.out; simp; omega, T2.out⟩
      case measure => simp [intOf]; omega
    · have hkr : (k : Int) = r := by omega
      go_wp2_with (at_make; refine wpList_make_full _ rfl _ _ 23 rfl w.heap.size 3 i0 (.int .i64 0) 1 Tryf.underlying23 hi hz0 hz1 .i64 .i64 _ _ n rfl rfl rfl rfl ?c2 ?c3 ?c4 ?_)
      case c2 => omega
      case c3 => unfold maxLen; omega
      intro w3 hown hgrow
      have hst0 := X.out
      obtain ⟨cgl, hglb⟩ := owned_elem hst0.loc.code.lines
      have hglt := lt_of_block hglb
      have T3 : Turn wr w3 (fun _ => False) := (Turn.refl wr _).grown hgrow (fun _ h => by cases h)
      have hst3 := hst0.kept T3 (fun _ _ _ _ _ => id) id
      have hT3 := HT.out.trans T3
      have hown3 : w3.ownsRow w.heap.size 3 1 (.slice (some ⟨wr.heap.size, 0, none⟩) loops.length loops.length) loops.length (((labs loops).take 0).map (Value.int .i64) ++ List.replicate (loops.length - 0) (Value.int .i64 0)) := by
        have e : (madeCells #[Value.int .i64 0] n).toList = ((labs loops).take 0).map (Value.int .i64) ++ List.replicate (loops.length - 0) (Value.int .i64 0) := by
          rw [toList_madeCells_one, HL1.out]; simp
        rw [← e, HL1.out]; exact hown
      have hbl : Built r ns loops refs w fc F wr.heap.size 0 B [] g 1 ys k v' xs' w3 :=
        ⟨hst3, rfl, ⟨Q1.out, by have := Q2.out; have := Q3.out; unfold Bk.top; omega⟩, by simp only [psum]; omega, hown3, by omega, hT3⟩
      have XB := Lib.hid hbl
      generalize hgL : wr.heap.size = gL at *
      clear hbl hown3 hst3 hst0 hT3 T3 hglb hglt hown hgrow X HT Q1 Q2 Q3 hsz
      go_wp2
      go_loopw [15] (fun i wr => ∃ (j : Nat) (B : Bk) (R : List Bk) (g cap : Nat) (ys : List Value) (m : Nat) (v : Nat → Value) (xs : List Value), j ≤ n ∧ i = .int .i64 j ∧ Built r ns loops refs w fc F gL j B R g cap ys m v xs wr) (fun i _ => n - (intOf i).toNat)
      case atStart => exact ⟨0, B, [], g, 1, ys, k, v', xs', Nat.zero_le _, rfl, XB.out⟩
      case round =>
        clear XB hgL
        obtain ⟨j, B, R, g, cap, ys, m, v, xs, hj, rfl, hb⟩ := hrel
        by_cases hlt2 : j < n
        · obtain ⟨b1, o1, rfl, hc1⟩ := S1 j (by rw [HL1.out]; exact hlt2)
          obtain ⟨b2, o2, rfl, hc2⟩ := S2 j (by rw [HL2.out]; exact hlt2)
          obtain ⟨b3, o3, rfl, hc3⟩ := S3 j (by rw [HL3.out]; exact hlt2)
          have hx := HE.out j hlt2
          have hsj := HS.out j hj
          have hsj1 := HS.out (j + 1) hlt2
          have hpj := HP.out j hj
          have hps : psum ns (j + 1) = psum ns j + ns.getD j 0 := rfl
          have hlg : labAt loops j = if loops.getD j false then 1 + (cntT loops j : Int) else 0 := rfl
          have hcn : cntT loops (j + 1) = cntT loops j + (if loops.getD j false then 1 else 0) := rfl
          have hcle := cntT_le loops j
          have hlst := list_storeG (Value.int .i64) 0 (labs loops) j (by rw [labs_len, HL1.out]; exact hlt2)
          rw [labs_len, labs_get loops j (by rw [HL1.out]; exact hlt2)] at hlst
          have d1 := hb.turn.cell hc1 id
          have hbst := hb.st
          have hblen := hb.len
          have hbfit := hb.fits
          have hbcnt := hb.cnt
          have hbrow := hb.row
          have hbne := hb.ne
          have hbT := hb.turn
          have htop := hbfit.topIs
          rw [hblen] at htop
          clear hb S1 S2 S3
          generalize hxx : ns.getD j 0 = x at hx hc2 hps
          generalize hqq : psum ns j = q at hsj hpj hps hbcnt htop
          generalize hxr : refs.getD j false = xr at hc3
          generalize hll : loops.getD j false = bl at d1 hc1 hlg hcn
          rw [hps] at hsj1
          have HLST := Lib.hid hlst
          have HFIT := Lib.hid hbfit
          have HROW := Lib.hid hbrow
          have HCNT := Lib.hid hbcnt
          have HNE := Lib.hid hbne
          have HT := Lib.hid hbT
          have HST := Lib.hid hbst
          have HLEN := Lib.hid hblen
          have HTOP := Lib.hid htop
          have HXX := Lib.hid hxx
          have HQQ := Lib.hid hqq
          have HXR := Lib.hid hxr
          have HLG := Lib.hid hlg
          have HCN := Lib.hid hcn
          have HPS := Lib.hid hps
          have C1 := Lib.hid hc1
          have C2 := Lib.hid hc2
          have C3 := Lib.hid hc3
          have hwr := hbT.size
          clear hlst hbfit hbrow hbcnt hbne hbT hbst hblen htop hxx hqq hxr hlg hcn hps hc1 hc2 hc3 hll
          cases bl with
          | true =>
            go_wp2_with fail
            refine (ZZnewLabel_any _ HST.out (by omega) (by omega)).mono ?_
            rintro e wA ⟨rfl, hstA, hTA, hIA⟩
            have hrowA := hIA.row HROW.out
            have hTAA := HT.out.trans' hTA (fun _ _ h => by omega)
            obtain ⟨lab, hlab⟩ : ∃ lab, lab = labAt loops j := ⟨_, rfl⟩
            have hel : 1 + (cntT loops j : Int) = lab := by rw [hlab, HLG.out]; rfl
            have hei : 1 + (cntT loops j : Int) + 1 = 1 + (cntT loops (j + 1) : Int) := by rw [HCN.out]; simp; omega
            rw [hei] at hstA
            rw [hel]
            clear hIA hTA HST HROW
            have hlb := labAt_bd loops j
            rw [← hlab] at hlb
            have HLAB := Lib.hid hlab
            have hsA := hTAA.size
            have hf := hrowA.frozenAt j
            have hd : ∃ u, wA.cell? ⟨gL, j, none⟩ = some u := by
              rw [hrowA.cellAt j (by have := HL1.out; omega)]
              exact ⟨_, List.getElem?_eq_getElem (by have := HL1.out; simp [labs_len]; omega)⟩
            obtain ⟨u, hu⟩ := hd
            have hrowB := (hrowA.stored j (.int .i64 (labAt loops j))).1
            rw [HLST.out, ← hlab] at hrowB
            obtain ⟨cgL, hgLb⟩ := owned_elem hrowA
            have hgLge : w.heap.size ≤ gL := (hrowA.lt _ rfl).1
            have hsz0 : (wA.setCell ⟨gL, j, none⟩ (.int .i64 lab)).heap.size = wA.heap.size := by simp
            have hab := alloc_blk (wA.setCell ⟨gL, j, none⟩ (.int .i64 lab)) (.cells #[.int .i64 0, .int .i64 0] 38)
            rw [hsz0] at hab
            have HAB := Lib.hid hab
            have HSZ := Lib.hid hsz0
            clear hab hsz0
            have hTB := (Turn.refl wA (fun k => k = gL)).setCell (p := ⟨gL, j, none⟩) (fun _ => rfl) (.int .i64 lab)
            have hstB := hstA.kept hTB (fun k X t hk ht e => by subst e; rw [hgLb] at hk; simp at hk; exact ht hk.2.symm) (fun e => HNE.out e.symm)
            have hTBB := hTAA.trans' hTB (fun k hk e => by omega)
            have ROWB := Lib.hid hrowB
            have STB := Lib.hid hstB
            have TBB := Lib.hid hTBB
            clear hlab hrowA hrowB hgLb hTB hstA hstB hTBB hTAA hei
            go_wp2_with fail
            refine (setLine_any _ _ line (.int .i64 0) _ ?cA ?fA).mono ?_
            case cA => exact cell_of_blk HAB.out 0 (.int .i64 0) rfl
            case fA => exact free_of_blk HAB.out 0
            rintro e wC ⟨rfl, hwC⟩
            generalize wA.setCell ⟨gL, j, none⟩ (.int .i64 lab) = wB at *
            have hTC : Turn wB wC (fun _ => False) := by
              rw [← hwC]
              exact ((Turn.refl wB (fun _ => False)).alloc _).setCell (fun h => absurd h (by have := HSZ.out; show ¬ wA.heap.size < wB.heap.size; omega)) _
            have hpb := blk_setCell HAB.out 0 (.int .i64 line)
            rw [hwC] at hpb
            have p0 := cell_of_blk hpb 0 (.int .i64 line) rfl
            have p1 := cell_of_blk hpb 1 (.int .i64 0) rfl
            have hstC := STB.out.kept hTC (fun _ _ _ _ _ => id) id
            have hrowC := hTC.ownsRow ROWB.out (fun _ _ => id)
            have hTCC := TBB.out.trans hTC
            have hsC := hTCC.size
            have STC := Lib.hid hstC
            have ROWC := Lib.hid hrowC
            have TCC := Lib.hid hTCC
            clear hwC hTC hpb hstC hrowC hTCC STB ROWB TBB
            go_wp2_with fail
            refine (ZZenter_any lab line 0 wA.heap.size _ STC.out hsC (by omega) p0 p1).mono ?_
            rintro e wD ⟨N, q9, c9, y9, rfl, hstD, e1, e2, e3, e4, e5, hTD, hID⟩
            have STD := Lib.hid hstD
            have ROWD := Lib.hid (hID.row ROWC.out)
            have TDD := Lib.hid (TCC.out.trans' hTD (fun _ _ h => by omega))
            clear hstD hTD hID STC ROWC TCC p0 p1
            go_wp2
            go_loopw [18] (fun i wr => ∃ (k : Nat) (B' : Bk) (v' : Nat → Value) (xs' : List Value), (k : Int) ≤ x ∧ i = .int .i64 k ∧ Stt wr w.heap.size fc F B' (B :: R) q9 (j + 1 + 1) c9 (ys ++ [y9]) (1 + (cntT loops (j + 1) : Int)) (m + k) v' xs' ∧ B'.b = N.b ∧ B'.lab = lab ∧ B'.off = q + r ∧ B'.ss.length = k ∧ wr.ownsRow w.heap.size 3 1 (.slice (some ⟨gL, 0, none⟩) loops.length loops.length) loops.length (((labs loops).take (j + 1)).map (Value.int .i64) ++ List.replicate (loops.length - (j + 1)) (Value.int .i64 0)) ∧ Turn w wr (fun _ => False)) (fun i _ => x.toNat - (intOf i).toNat)
            case atStart => exact ⟨0, N, v, xs, hx.1, rfl, STD.out, rfl, e1, by rw [e4, HTOP.out]; omega, by rw [e3]; rfl, ROWD.out, TDD.out⟩
            case round =>
              clear STD ROWD TDD d1
              obtain ⟨k, B', v', xs', hk, rfl, hst, f1, f2, f3, f4, hrw, hT⟩ := hrel
              have hsz := hT.size
              have dx := hT.cell C2.out id
              have dr := hT.cell C3.out id
              have KST := Lib.hid hst
              have KT := Lib.hid hT
              have KR := Lib.hid hrw
              have K1 := Lib.hid f1
              have K2 := Lib.hid f2
              have K3 := Lib.hid f3
              have K4 := Lib.hid f4
              clear hst hT hrw f1 f2 f3 f4
              by_cases hlt3 : (k : Int) < x
              · go_wp2_with fail
                refine (ZZreg_any _ _ KST.out hsz (by have := K3.out; have := K4.out; unfold Bk.top; omega) (by have := K3.out; have := K4.out; unfold Bk.top; omega) (by have := K4.out; omega) (by have := HCNT.out; omega)).mono ?_
                rintro e w2 ⟨pv2, v2, xs2, rr, rfl, hst2, hT2, hI2⟩
                have Y := Lib.hid hst2
                have T2 := Lib.hid (KT.out.trans' hT2 (fun j hj h => by omega))
                have R2 := Lib.hid (hI2.row KR.out)
                clear hst2 hT2 hI2
                go_wp2
                go_roundw
                case rel => exact ⟨k + 1, _, v2, xs2, by omega, by go_num, Y.out, K1.out, K2.out, K3.out, by have := K4.out; simp; omega, R2.out, T2.out⟩
                case measure => simp [intOf]; omega
              · have hkx : (k : Int) = x := by omega
                go_wp2_with fail
                refine (ZZsetRef_any xr _ KST.out (by rw [K1.out]; exact e5)).mono ?_
                rintro e w2 ⟨rfl, hst2, hT2, hI2⟩
                have hT2' := KT.out.trans' hT2 (fun j hj h => by omega)
                have hfin : Built r ns loops refs w fc F gL (j + 1) { B' with ref := xr } (B :: R) q9 c9 (ys ++ [y9]) (m + k) v' xs' w2 := by
                  have h3 := K3.out
                  have h4 := K4.out
                  have hp := HPS.out
                  have hc := HCNT.out
                  have hq := HQQ.out
                  refine ⟨hst2, by simp [HLEN.out], ⟨⟨?_, ?_, ?_, ?_⟩, HFIT.out⟩, ?_, hI2.row KR.out, HNE.out, hT2'⟩
                  · rw [HLEN.out, ← HLAB.out]; exact K2.out
                  · rw [HLEN.out, HXR.out]
                  · rw [HLEN.out, hq]; show B'.off = _; omega
                  · rw [HLEN.out, hp]; show B'.off + (B'.ss.length : Int) = _; omega
                  · rw [hp]; simp; omega
                have FIN := Lib.hid hfin
                clear hfin hst2 hT2 hI2 hT2'
                go_wp2
                go_roundw
                case rel => exact ⟨j + 1, _, _, _, _, _, _, _, _, by omega, by go_num, FIN.out⟩
                case measure => simp [intOf]; omega
          | false =>
            have hstA := HST.out
            have hrowA := HROW.out
            have hTAA := HT.out
            have hlab : (0 : Int) = labAt loops j := by rw [HLG.out]; rfl
            have hei : 1 + (cntT loops j : Int) = 1 + (cntT loops (j + 1) : Int) := by rw [HCN.out]; simp
            rw [hei] at hstA
            generalize wr = wA at *
            clear HST HROW
            have hlb := labAt_bd loops j
            rw [← hlab] at hlb
            have HLAB := Lib.hid hlab
            have hsA := hTAA.size
            have hf := hrowA.frozenAt j
            have hd : ∃ u, wA.cell? ⟨gL, j, none⟩ = some u := by
              rw [hrowA.cellAt j (by have := HL1.out; omega)]
              exact ⟨_, List.getElem?_eq_getElem (by have := HL1.out; simp [labs_len]; omega)⟩
            obtain ⟨u, hu⟩ := hd
            have hrowB := (hrowA.stored j (.int .i64 (labAt loops j))).1
            rw [HLST.out, ← hlab] at hrowB
            obtain ⟨cgL, hgLb⟩ := owned_elem hrowA
            have hgLge : w.heap.size ≤ gL := (hrowA.lt _ rfl).1
            have hsz0 : (wA.setCell ⟨gL, j, none⟩ (.int .i64 (0 : Int))).heap.size = wA.heap.size := by simp
            have hab := alloc_blk (wA.setCell ⟨gL, j, none⟩ (.int .i64 (0 : Int))) (.cells #[.int .i64 0, .int .i64 0] 38)
            rw [hsz0] at hab
            have HAB := Lib.hid hab
            have HSZ := Lib.hid hsz0
            clear hab hsz0
            have hTB := (Turn.refl wA (fun k => k = gL)).setCell (p := ⟨gL, j, none⟩) (fun _ => rfl) (.int .i64 (0 : Int))
            have hstB := hstA.kept hTB (fun k X t hk ht e => by subst e; rw [hgLb] at hk; simp at hk; exact ht hk.2.symm) (fun e => HNE.out e.symm)
            have hTBB := hTAA.trans' hTB (fun k hk e => by omega)
            have ROWB := Lib.hid hrowB
            have STB := Lib.hid hstB
            have TBB := Lib.hid hTBB
            clear hlab hrowA hrowB hgLb hTB hstA hstB hTBB hTAA hei
            go_wp2_with fail
            refine (setLine_any _ _ line (.int .i64 0) _ ?cA ?fA).mono ?_
            case cA => exact cell_of_blk HAB.out 0 (.int .i64 0) rfl
            case fA => exact free_of_blk HAB.out 0
            rintro e wC ⟨rfl, hwC⟩
            generalize wA.setCell ⟨gL, j, none⟩ (.int .i64 (0 : Int)) = wB at *
            have hTC : Turn wB wC (fun _ => False) := by
              rw [← hwC]
              exact ((Turn.refl wB (fun _ => False)).alloc _).setCell (fun h => absurd h (by have := HSZ.out; show ¬ wA.heap.size < wB.heap.size; omega)) _
            have hpb := blk_setCell HAB.out 0 (.int .i64 line)
            rw [hwC] at hpb
            have p0 := cell_of_blk hpb 0 (.int .i64 line) rfl
            have p1 := cell_of_blk hpb 1 (.int .i64 0) rfl
            have hstC := STB.out.kept hTC (fun _ _ _ _ _ => id) id
            have hrowC := hTC.ownsRow ROWB.out (fun _ _ => id)
            have hTCC := TBB.out.trans hTC
            have hsC := hTCC.size
            have STC := Lib.hid hstC
            have ROWC := Lib.hid hrowC
            have TCC := Lib.hid hTCC
            clear hwC hTC hpb hstC hrowC hTCC STB ROWB TBB
            go_wp2_with fail
            refine (ZZenter_any (0 : Int) line 0 wA.heap.size _ STC.out hsC (by omega) p0 p1).mono ?_
            rintro e wD ⟨N, q9, c9, y9, rfl, hstD, e1, e2, e3, e4, e5, hTD, hID⟩
            have STD := Lib.hid hstD
            have ROWD := Lib.hid (hID.row ROWC.out)
            have TDD := Lib.hid (TCC.out.trans' hTD (fun _ _ h => by omega))
            clear hstD hTD hID STC ROWC TCC p0 p1
            go_wp2
            go_loopw [18] (fun i wr => ∃ (k : Nat) (B' : Bk) (v' : Nat → Value) (xs' : List Value), (k : Int) ≤ x ∧ i = .int .i64 k ∧ Stt wr w.heap.size fc F B' (B :: R) q9 (j + 1 + 1) c9 (ys ++ [y9]) (1 + (cntT loops (j + 1) : Int)) (m + k) v' xs' ∧ B'.b = N.b ∧ B'.lab = (0 : Int) ∧ B'.off = q + r ∧ B'.ss.length = k ∧ wr.ownsRow w.heap.size 3 1 (.slice (some ⟨gL, 0, none⟩) loops.length loops.length) loops.length (((labs loops).take (j + 1)).map (Value.int .i64) ++ List.replicate (loops.length - (j + 1)) (Value.int .i64 0)) ∧ Turn w wr (fun _ => False)) (fun i _ => x.toNat - (intOf i).toNat)
            case atStart => exact ⟨0, N, v, xs, hx.1, rfl, STD.out, rfl, e1, by rw [e4, HTOP.out]; omega, by rw [e3]; rfl, ROWD.out, TDD.out⟩
            case round =>
              clear STD ROWD TDD d1
              obtain ⟨k, B', v', xs', hk, rfl, hst, f1, f2, f3, f4, hrw, hT⟩ := hrel
              have hsz := hT.size
              have dx := hT.cell C2.out id
              have dr := hT.cell C3.out id
              have KST := Lib.hid hst
              have KT := Lib.hid hT
              have KR := Lib.hid hrw
              have K1 := Lib.hid f1
              have K2 := Lib.hid f2
              have K3 := Lib.hid f3
              have K4 := Lib.hid f4
              clear hst hT hrw f1 f2 f3 f4
              by_cases hlt3 : (k : Int) < x
              · go_wp2_with fail
                refine (ZZreg_any _ _ KST.out hsz (by have := K3.out; have := K4.out; unfold Bk.top; omega) (by have := K3.out; have := K4.out; unfold Bk.top; omega) (by have := K4.out; omega) (by have := HCNT.out; omega)).mono ?_
                rintro e w2 ⟨pv2, v2, xs2, rr, rfl, hst2, hT2, hI2⟩
                have Y := Lib.hid hst2
                have T2 := Lib.hid (KT.out.trans' hT2 (fun j hj h => by omega))
                have R2 := Lib.hid (hI2.row KR.out)
                clear hst2 hT2 hI2
                go_wp2
                go_roundw
                case rel => exact ⟨k + 1, _, v2, xs2, by omega, by go_num, Y.out, K1.out, K2.out, K3.out, by have := K4.out; simp; omega, R2.out, T2.out⟩
                case measure => simp [intOf]; omega
              · have hkx : (k : Int) = x := by omega
                go_wp2_with fail
                refine (ZZsetRef_any xr _ KST.out (by rw [K1.out]; exact e5)).mono ?_
                rintro e w2 ⟨rfl, hst2, hT2, hI2⟩
                have hT2' := KT.out.trans' hT2 (fun j hj h => by omega)
                have hfin : Built r ns loops refs w fc F gL (j + 1) { B' with ref := xr } (B :: R) q9 c9 (ys ++ [y9]) (m + k) v' xs' w2 := by
                  have h3 := K3.out
                  have h4 := K4.out
                  have hp := HPS.out
                  have hc := HCNT.out
                  have hq := HQQ.out
                  refine ⟨hst2, by simp [HLEN.out], ⟨⟨?_, ?_, ?_, ?_⟩, HFIT.out⟩, ?_, hI2.row KR.out, HNE.out, hT2'⟩
                  · rw [HLEN.out, ← HLAB.out]; exact K2.out
                  · rw [HLEN.out, HXR.out]
                  · rw [HLEN.out, hq]; show B'.off = _; omega
                  · rw [HLEN.out, hp]; show B'.off + (B'.ss.length : Int) = _; omega
                  · rw [hp]; simp; omega
                have FIN := Lib.hid hfin
                clear hfin hst2 hT2 hI2 hT2'
                go_wp2
                go_roundw
                case rel => exact ⟨j + 1, _, _, _, _, _, _, _, _, by omega, by go_num, FIN.out⟩
                case measure => simp [intOf]; omega
        · have he : j = n := by omega
          subst he
          have hL := HL1.out
          have HB := Lib.hid hb
          clear hb S1 S2 S3
          go_wp2
          go_ret2
          refine ⟨fc, F, gL, B, R, g, cap, ys, m, v, xs, ?_, by rw [hL]; exact HB.out⟩
          rw [hL]
          rfl
end Go.Proofs.YtabienikffakiaaFmt
