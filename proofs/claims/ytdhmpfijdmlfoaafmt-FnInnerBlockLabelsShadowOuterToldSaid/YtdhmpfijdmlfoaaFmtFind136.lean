/- FindLabel's contract. -/
import Derived.Test.YtdhmpfijdmlfoaaFmtDist136
import Derived.BigQuiet
namespace Go.Proofs.YtdhmpfijdmlfoaaFmt
open Go.RowKit Go.Maps
set_option linter.unusedVariables false

set_option maxRecDepth 100000 in
theorem findLabel_none (β fc : Nat) (F : FcAt) (gb : Value × Option Addr) (gc cc gl cl : Nat) (is ls : List Int) (cnt : Int) (up : Bool) (DL D1 D2 : DataW Unit) (nL n1 n2 : Nat) (i : Int) (x : Nat) (s : ByteArray) (w : World) (h : Ctx w β fc F gb gc cc gl cl is ls cnt up DL D1 D2 nL n1 n2) (hs : s.size ≤ maxLen)
    (cx1 : w.cell? ⟨x, 1, none⟩ = some (.string s)) (hh : Maps.has DL (kS s) = false) :
    Calls Tryf.prog 19 #[.pointer (some ⟨fc, 0, none⟩), .pointer (some ⟨F.b + 1, 0, none⟩), .pointer (some ⟨x, 0, none⟩), .int .i64 i] w fun e w' => e = .returned (.bool false) ∧ Turn w w' (fun _ => False) := by
  have k6 := cell_of_blk h.bblk 6 (.map (some F.b)) rfl
  have hown := h.ownL
  have H := Lib.hid h
  have HH := Lib.hid hh
  clear h hh
  go_enter Tryf.func19, Tryf.ntmps19
  go_wp2_with fail
  refine (getLabel_any (F.b + 1) F.b nL s hs DL _ k6 hown).mono ?_
  rintro e w1 ⟨rfl, q, rfl⟩
  rw [show ptrOf (DL.atKey (kS s) .nil) = .pointer none from by rw [atKey_of_not_has HH.out]; rfl]
  go_wp2
  go_ret
  exact ⟨rfl, drewN_turn _ _ _⟩

def FindHit (β fc : Nat) (F : FcAt) (gb : Value × Option Addr) (gc cc gl cl : Nat) (is ls : List Int) (cnt : Int) (up : Bool) (DL D1 D2 : DataW Unit) (nL n1 n2 : Nat) (i : Int) (pc : Nat) (tid fN tN : Int) (w : World) (e : Ending) (w' : World) : Prop :=
  e = .returned (.bool true) ∧ (∃ is', (if tN < fN ∧ up = true then is.set (pc - 1) (setA (is.getD (pc - 1) 0) tN) else is) = is' ∧ Ctx w' β fc F gb gc cc gl cl (is'.set pc (setBx (is.getD pc 0) (tid + 131071))) ls cnt up DL D1 (D2.del (kI i)) nL n1 n2) ∧ Turn w w' (fun k => k = gc ∨ k = F.M2)

set_option maxRecDepth 100000 in
set_option maxHeartbeats 1000000 in
theorem findLabel_hit (β fc : Nat) (F : FcAt) (gb : Value × Option Addr) (gc cc gl cl : Nat) (is ls : List Int) (cnt : Int) (up : Bool) (DL D1 D2 : DataW Unit) (nL n1 n2 : Nat) (i : Int) (x y pc : Nat) (s : ByteArray) (tid fN tN : Int) (w : World) (h : Ctx w β fc F gb gc cc gl cl is ls cnt up DL D1 D2 nL n1 n2) (hs : s.size ≤ maxLen) (hi : (Lit.int .i64 i).wf = true)
    (X Y : Array Value) (bx : w.heap[x]? = some (.cells X 29 (0, 0))) (by' : w.heap[y]? = some (.cells Y 29 (0, 0))) (x1 : X[1]? = some (.string s)) (x2 : X[2]? = some (.int .i64 pc)) (x4 : X[4]? = some (.int .i64 fN)) (y0 : Y[0]? = some (.int .i64 tid)) (y4 : Y[4]? = some (.int .i64 tN))
    (hat : DL.atKey (kS s) .nil = .lit (.int .i64 y)) (hN : ¬ fN < tN) (hpc : pc < is.length) (hset : (tN < fN ∧ up = true) → 1 ≤ pc)
    (hn : is.length ≤ 1048576) (hw : ∀ k, k < is.length → 0 ≤ is.getD k 0 ∧ is.getD k 0 < 4294967296) :
    Calls Tryf.prog 19 #[.pointer (some ⟨fc, 0, none⟩), .pointer (some ⟨F.b + 1, 0, none⟩), .pointer (some ⟨x, 0, none⟩), .int .i64 i] w (FindHit β fc F gb gc cc gl cl is ls cnt up DL D1 D2 nL n1 n2 i pc tid fN tN w) := by
  have k6 := cell_of_blk h.bblk 6 (.map (some F.b)) rfl
  have k3 := cell_of_blk h.bblk 3 (.bool up) rfl
  have hown := h.ownL
  have cx1 := cell_of_blk bx 1 _ x1
  have cx2 := cell_of_blk bx 2 _ x2
  have cx4 := cell_of_blk bx 4 _ x4
  have cy0 := cell_of_blk by' 0 _ y0
  have cy4 := cell_of_blk by' 4 _ y4
  have e : ptrOf (DL.atKey (kS s) .nil) = .pointer (some ⟨y, 0, none⟩) := by rw [hat]; simp [ptrOf]
  have E := Lib.hid e
  have H := Lib.hid h
  clear h hat e
  go_enter Tryf.func19, Tryf.ntmps19
  go_wp2_with fail
  refine (getLabel_any (F.b + 1) F.b nL s hs DL _ k6 hown).mono ?_
  rintro e w1 ⟨rfl, q, rfl⟩
  rw [E.out]
  have k3' : (w.drewN q).cell? ⟨F.b + 1, 3, none⟩ = some (.bool up) := k3
  have d2 : (w.drewN q).cell? ⟨x, 2, none⟩ = some (.int .i64 pc) := cx2
  have d4 : (w.drewN q).cell? ⟨x, 4, none⟩ = some (.int .i64 fN) := cx4
  have e0 : (w.drewN q).cell? ⟨y, 0, none⟩ = some (.int .i64 tid) := cy0
  have e4 : (w.drewN q).cell? ⟨y, 4, none⟩ = some (.int .i64 tN) := cy4
  have bx' : (w.drewN q).heap[x]? = some (.cells X 29 (0, 0)) := bx
  have byy' : (w.drewN q).heap[y]? = some (.cells Y 29 (0, 0)) := by'
  have h1 := H.out.same (drewN_turn w q _)
  have T1 := drewN_turn w q (fun k => k = gc ∨ k = F.M2)
  have c1 := cell_of_blk h1.blk 1 (.pointer (some ⟨F.c, 0, none⟩)) rfl
  clear k6 hown cx1 cx2 cx4 cy0 cy4 E k3 bx by' x1
  generalize w.drewN q = wq at *
  have H1 := Lib.hid h1
  clear H h1
  by_cases hlt : tN < fN
  · cases up with
    | true =>
      have hp1 := hset ⟨hlt, rfl⟩
      obtain ⟨pm, hpm⟩ : ∃ pm, pc = pm + 1 := ⟨pc - 1, by omega⟩
      subst hpm
      clear hset hp1
      go_wp2_with fail
      go_quiet (fail)
      have T2 := drewN_turn wq nq (fun _ => False)
      have h2 := H1.out.same T2
      have bx2 := T2.heap bx' id
      have by2 := T2.heap byy' id
      have T3 := T1.trans (T2.mono (fun _ _ h => h.elim))
      clear T1 T2 H1 bx' byy' c1 d2 d4 e0 e4 k3'
      generalize wq.drewN nq = wz at *
      have c1 := cell_of_blk h2.blk 1 (.pointer (some ⟨F.c, 0, none⟩)) rfl
      have d2 := cell_of_blk bx2 2 _ x2
      have d4 := cell_of_blk bx2 4 _ x4
      have e0 := cell_of_blk by2 0 _ y0
      have e4 := cell_of_blk by2 4 _ y4
      have H2 := Lib.hid h2
      clear h2
      go_wp2_with fail
      go_still_tail 13, (by kernel_rfl)
      have T4 := T3.drew
      have h4 := H2.out.same ((Turn.refl wz (fun _ => False)).drew)
      have bx4 : wz.drew.heap[x]? = some (.cells X 29 (0, 0)) := bx2
      have by4 : wz.drew.heap[y]? = some (.cells Y 29 (0, 0)) := by2
      clear H2 c1 d2 d4 e0 e4 T3
      go_wp2_with fail
      refine (setA_any β F.c gc cc gl cl is ls pm tN _ h4.code (by omega) hn (hw pm (by omega)).1 (hw pm (by omega)).2).mono ?_
      rintro e w5 ⟨rfl, rfl⟩
      obtain ⟨v, hv⟩ : ∃ v, v = setA (is.getD pm 0) tN := ⟨_, rfl⟩
      rw [← hv]
      have h5 := h4.coded ((Turn.refl wz.drew (fun b => b = F.c ∨ b = gc ∨ b = gl)).setCell (p := ⟨gc, pm, none⟩) (fun _ => .inr (.inl rfl)) (.int .u32 v)) (h4.code.put pm v)
      have T5 := T4.setCell (p := ⟨gc, pm, none⟩) (fun _ => .inl rfl) (.int .u32 v)
      have t5 := (Turn.refl wz.drew (fun b => b = gc)).setCell (p := ⟨gc, pm, none⟩) (fun _ => rfl) (.int .u32 v)
      obtain ⟨cu, hcu⟩ := owned_elem h4.code.codes
      have bx5 := t5.heap bx4 (blocks_ne bx4 hcu (by simp))
      have by5 := t5.heap by4 (blocks_ne by4 hcu (by simp))
      generalize wz.drew.setCell ⟨gc, pm, none⟩ (.int .u32 v) = w5 at *
      have d2 := cell_of_blk bx5 2 _ x2
      have d4 := cell_of_blk bx5 4 _ x4
      have e0 := cell_of_blk by5 0 _ y0
      have e4 := cell_of_blk by5 4 _ y4
      have hg : (is.set pm v).getD (pm + 1) 0 = is.getD (pm + 1) 0 := by simp [List.getD, List.getElem?_set_ne (show pm ≠ pm + 1 from by omega)]
      have H5 := Lib.hid h5
      have HV := Lib.hid hv
      clear h4 h5 T4 t5 hcu bx5 by5 bx4 by4 hv
      go_wp2_with fail
      refine (resolve_any β fc F gb gc cc gl cl (is.set pm v) ls cnt true DL D1 D2 nL n1 n2 i x y (pm + 1) tid fN tN _ H5.out hi d2 d4 e0 e4 (by omega) (by simpa using hpc) (by simpa using hn) (by rw [hg]; exact (hw _ hpc).1) (by rw [hg]; exact (hw _ hpc).2)).mono ?_
      rintro e w6 ⟨rfl, hC6, hT6⟩
      rw [hg] at hC6
      go_wp2
      go_ret
      exact ⟨rfl, ⟨is.set pm v, by rw [if_pos ⟨hlt, rfl⟩, Nat.add_sub_cancel, HV.out], hC6⟩, T5.trans hT6⟩
    | false =>
      go_wp2_with fail
      go_quiet (fail)
      have T2 := drewN_turn wq nq (fun _ => False)
      have h2 := H1.out.same T2
      have bx2 := T2.heap bx' id
      have by2 := T2.heap byy' id
      have T3 := T1.trans (T2.mono (fun _ _ h => h.elim))
      clear T1 T2 H1 bx' byy' c1 d2 d4 e0 e4 k3'
      generalize wq.drewN nq = wz at *
      have c1 := cell_of_blk h2.blk 1 (.pointer (some ⟨F.c, 0, none⟩)) rfl
      have d2 := cell_of_blk bx2 2 _ x2
      have d4 := cell_of_blk bx2 4 _ x4
      have e0 := cell_of_blk by2 0 _ y0
      have e4 := cell_of_blk by2 4 _ y4
      have H2 := Lib.hid h2
      clear h2
      have hn' := hn
      go_wp2_with fail
      refine (resolve_any β fc F gb gc cc gl cl is ls cnt false DL D1 D2 nL n1 n2 i x y pc tid fN tN _ H2.out hi d2 d4 e0 e4 (by omega) hpc hn (hw pc hpc).1 (hw pc hpc).2).mono ?_
      rintro e w5 ⟨rfl, hC5, hT5⟩
      go_wp2
      go_ret
      exact ⟨rfl, ⟨is, by rw [if_neg (by simp)], hC5⟩, T3.trans hT5⟩
  · have hle : fN ≤ tN := by omega
    have hd : decide (tN < fN) = false := by simp; omega
    go_wp2_with fail
    go_quiet (fail)
    have T2 := drewN_turn wq nq (fun _ => False)
    have h2 := H1.out.same T2
    have bx2 := T2.heap bx' id
    have by2 := T2.heap byy' id
    have T3 := T1.trans (T2.mono (fun _ _ h => h.elim))
    clear T1 T2 H1 bx' byy' c1 d2 d4 e0 e4 k3'
    generalize wq.drewN nq = wz at *
    have c1 := cell_of_blk h2.blk 1 (.pointer (some ⟨F.c, 0, none⟩)) rfl
    have d2 := cell_of_blk bx2 2 _ x2
    have d4 := cell_of_blk bx2 4 _ x4
    have e0 := cell_of_blk by2 0 _ y0
    have e4 := cell_of_blk by2 4 _ y4
    have H2 := Lib.hid h2
    clear h2
    have hn' := hn
    go_wp2_with fail
    refine (resolve_any β fc F gb gc cc gl cl is ls cnt up DL D1 D2 nL n1 n2 i x y pc tid fN tN _ H2.out hi d2 d4 e0 e4 (by omega) hpc hn (hw pc hpc).1 (hw pc hpc).2).mono ?_
    rintro e w5 ⟨rfl, hC5, hT5⟩
    go_wp2
    go_ret
    exact ⟨rfl, ⟨is, by rw [if_neg (fun h => by have := h.1; omega)], hC5⟩, T3.trans hT5⟩
end Go.Proofs.YtdhmpfijdmlfoaaFmt
