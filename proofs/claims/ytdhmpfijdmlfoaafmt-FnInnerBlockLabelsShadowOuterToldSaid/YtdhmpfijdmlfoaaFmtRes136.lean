/- The contracts of HasUnresolvedGoto and ResolveGoto, AddNamedLabel. -/
import Derived.Test.YtdhmpfijdmlfoaaFmtCtx
namespace Go.Proofs.YtdhmpfijdmlfoaaFmt
open Go.RowKit Go.Maps
set_option linter.unusedVariables false

set_option maxRecDepth 100000 in
theorem hasGoto_any (β fc : Nat) (F : FcAt) (gb : Value × Option Addr) (gc cc gl cl : Nat) (is ls : List Int) (cnt : Int) (up : Bool) (DL D1 D2 : DataW Unit) (nL n1 n2 : Nat) (i : Int) (w : World) (h : Ctx w β fc F gb gc cc gl cl is ls cnt up DL D1 D2 nL n1 n2) (hi : (Lit.int .i64 i).wf = true) :
    Calls Tryf.prog 14 #[.pointer (some ⟨fc, 0, none⟩), .int .i64 i] w fun e w' => e = .returned (.bool (Maps.has D2 (kI i))) ∧ w = w' := by
  have c10 := cell_of_blk h.blk 10 (.map (some F.M2)) rfl
  have hown := h.own2
  have hkey : keyOf Tryf.prog 3 (.int .i64 i) = some (kI i) := keyOf_int_mk Tryf.underlying3 hi
  go_enter Tryf.func14, Tryf.ntmps14
  go_wp2_with (at_lookup; refine wpList_lookup_own_ok _ rfl _ _ 38 rfl 3 27 intKey Tryf.underlying38 ptrElem (zeroPtr _) .nil [] ptrElem_nil F.M2 n2 D2 rfl hown _ _ rfl hkey ?_)
  intro v ps hv
  go_wp2
  go_ret
  exact ⟨rfl, rfl⟩
theorem drewN_turn (w : World) (q : Nat) (F : Nat → Prop) : Turn w (w.drewN q) F := ⟨rfl, rfl, rfl, Nat.le_refl _, fun _ _ _ => rfl⟩

set_option maxRecDepth 100000 in
/-- the jump at from's pc gets the target's id, the pending goto goes -/
theorem resolve_any (β fc : Nat) (F : FcAt) (gb : Value × Option Addr) (gc cc gl cl : Nat) (is ls : List Int) (cnt : Int) (up : Bool) (DL D1 D2 : DataW Unit) (nL n1 n2 : Nat) (i : Int) (x y pc : Nat) (tid fN tN : Int) (w : World) (h : Ctx w β fc F gb gc cc gl cl is ls cnt up DL D1 D2 nL n1 n2) (hi : (Lit.int .i64 i).wf = true)
    (cx2 : w.cell? ⟨x, 2, none⟩ = some (.int .i64 pc)) (cx4 : w.cell? ⟨x, 4, none⟩ = some (.int .i64 fN)) (cy0 : w.cell? ⟨y, 0, none⟩ = some (.int .i64 tid)) (cy4 : w.cell? ⟨y, 4, none⟩ = some (.int .i64 tN)) (hN : ¬ fN < tN) (hpc : pc < is.length)
    (hn : is.length ≤ 1048576) (x0 : 0 ≤ is.getD pc 0) (x1 : is.getD pc 0 < 4294967296) :
    Calls Tryf.prog 12 #[.pointer (some ⟨fc, 0, none⟩), .pointer (some ⟨x, 0, none⟩), .pointer (some ⟨y, 0, none⟩), .int .i64 i] w fun e w' => e = .returned (.tuple #[]) ∧
      Ctx w' β fc F gb gc cc gl cl (is.set pc (setBx (is.getD pc 0) (tid + 131071))) ls cnt up DL D1 (D2.del (kI i)) nL n1 n2 ∧ Turn w w' (fun k => k = gc ∨ k = F.M2) := by
  have c1 := cell_of_blk h.blk 1 (.pointer (some ⟨F.c, 0, none⟩)) rfl
  have hkey : keyOf Tryf.prog 3 (.int .i64 i) = some (kI i) := keyOf_int_mk Tryf.underlying3 hi
  have H := Lib.hid h
  clear h
  go_enter Tryf.func12, Tryf.ntmps12
  go_wp2_with fail
  go_quiet (fail)
  have c1' : (w.drewN nq).cell? ⟨fc, 1, none⟩ = some (.pointer (some ⟨F.c, 0, none⟩)) := c1
  have cx2' : (w.drewN nq).cell? ⟨x, 2, none⟩ = some (.int .i64 pc) := cx2
  have cy0' : (w.drewN nq).cell? ⟨y, 0, none⟩ = some (.int .i64 tid) := cy0
  have T0 := drewN_turn w nq (fun _ => False)
  clear c1 cx2 cx4 cy0 cy4
  generalize w.drewN nq = wq at *
  go_wp2_with fail
  go_still_tail 12, (by kernel_rfl)
  have T1 := T0.drew
  have h1 := H.out.same T1
  go_wp2_with fail
  refine (setSbx_any β F.c gc cc gl cl is ls pc tid _ h1.code hpc hn x0 x1).mono ?_
  rintro e w2 ⟨rfl, rfl⟩
  have h2 := h1.coded ((Turn.refl wq.drew (fun b => b = F.c ∨ b = gc ∨ b = gl)).setCell (p := ⟨gc, pc, none⟩) (fun _ => .inr (.inl rfl)) (.int .u32 (setBx (is.getD pc 0) (tid + 131071)))) (h1.code.put pc (setBx (is.getD pc 0) (tid + 131071)))
  have T2 := (T1.mono (G := fun k => k = gc ∨ k = F.M2) (fun _ _ h => h.elim)).setCell (p := ⟨gc, pc, none⟩) (fun _ => .inl rfl) (.int .u32 (setBx (is.getD pc 0) (tid + 131071)))
  generalize wq.drew.setCell ⟨gc, pc, none⟩ (.int .u32 (setBx (is.getD pc 0) (tid + 131071))) = w2 at *
  have c10 := cell_of_blk h2.blk 10 (.map (some F.M2)) rfl
  have hown := h2.own2
  clear c1' cx2' cy0'
  go_wp2_with (at_delete; refine wpList_delete_own _ rfl _ _ 38 3 rfl 27 intKey Tryf.underlying38 ptrElem F.M2 n2 D2 rfl hown _ _ rfl hkey ?_)
  intro w3 hown3 hturn3
  go_wp2
  go_end0
  have T3 : Turn w2 w3 (fun b => b = F.M2) := (Turn.refl w2 _).grown hturn3.grown (fun k hk _ => by cases hk; rfl)
  exact ⟨rfl, h2.two T3 hown3, T2.trans' T3 (fun _ _ h => .inr h)⟩

set_option maxRecDepth 100000 in
theorem setLabelPc_any (β fc : Nat) (F : FcAt) (gb : Value × Option Addr) (gc cc gl cl : Nat) (is ls : List Int) (cnt : Int) (up : Bool) (DL D1 D2 : DataW Unit) (nL n1 n2 : Nat) (id pc : Int) (w : World) (h : Ctx w β fc F gb gc cc gl cl is ls cnt up DL D1 D2 nL n1 n2) (hid : (Lit.int .i64 id).wf = true) (hpc : (Lit.int .i64 pc).wf = true) (m2 : n1 < maxLen) :
    Calls Tryf.prog 50 #[.pointer (some ⟨fc, 0, none⟩), .int .i64 id, .int .i64 pc] w fun e w' => e = .returned (.tuple #[]) ∧
      Ctx w' β fc F gb gc cc gl cl is ls cnt up DL (D1.put (kI id) (.lit (.int .i64 pc))) D2 nL (n1 + 1) n2 ∧ Turn w w' (fun k => k = F.M1) := by
  have c8 := cell_of_blk h.blk 8 (.map (some F.M1)) rfl
  have hown := h.own1
  have hkey : keyOf Tryf.prog 3 (.int .i64 id) = some (kI id) := keyOf_int_mk Tryf.underlying3 hid
  have hval : plainElem Tryf.prog 3 (.int .i64 pc) = some ((.lit (.int .i64 pc) : DataW Unit), []) := plainElem_int Tryf.underlying3 hpc
  have H := Lib.hid h
  clear h
  go_enter Tryf.func50, Tryf.ntmps50
  go_wp2_with (at_mapUpdate; refine wpList_mapUpdate_own _ rfl _ _ _ 37 rfl 3 3 intKey Tryf.underlying37 (plainElem Tryf.prog 3) F.M1 n1 D1 rfl hown m2 _ _ (kI id) rfl rfl hkey _ [] hval ?_)
  intro w1 hown1 hgrow
  have T1 : Turn w w1 (fun k => k = F.M1) := (Turn.refl w _).grown hgrow (fun k hk _ => by cases hk; rfl)
  go_wp2
  go_end0
  exact ⟨rfl, H.out.one T1 hown1, T1⟩

set_option maxRecDepth 100000 in
theorem getLabelPc_any (β fc : Nat) (F : FcAt) (gb : Value × Option Addr) (gc cc gl cl : Nat) (is ls : List Int) (cnt : Int) (up : Bool) (DL D1 D2 : DataW Unit) (nL n1 n2 : Nat) (id : Int) (w : World) (h : Ctx w β fc F gb gc cc gl cl is ls cnt up DL D1 D2 nL n1 n2) (hid : (Lit.int .i64 id).wf = true) :
    Calls Tryf.prog 29 #[.pointer (some ⟨fc, 0, none⟩), .int .i64 id] w fun e w' => (∃ c : Int, e = .returned (.int .i64 c) ∧ D1.atKey (kI id) (.lit (.int .i64 0)) = .lit (.int .i64 c)) ∧ w = w' := by
  have c8 := cell_of_blk h.blk 8 (.map (some F.M1)) rfl
  have hown := h.own1
  have hkey : keyOf Tryf.prog 3 (.int .i64 id) = some (kI id) := keyOf_int_mk Tryf.underlying3 hid
  have hz : (zeroValue 3).run Tryf.prog w = .ok (.int .i64 0) w := by kernel_rfl
  go_enter Tryf.func29, Tryf.ntmps29
  go_wp2_with (at_lookup; refine wpList_lookup_own_int _ rfl _ _ 37 rfl 3 3 .i64 intKey Tryf.underlying37 Tryf.underlying3 hz F.M1 n1 D1 rfl hown _ _ rfl hkey ?_)
  intro c hat hwc
  have HA := Lib.hid hat
  clear hat
  go_wp2
  go_ret
  exact ⟨⟨c, rfl, HA.out⟩, rfl⟩

set_option maxRecDepth 100000 in
theorem getNamed_any (β fc : Nat) (F : FcAt) (gb : Value × Option Addr) (gc cc gl cl : Nat) (is ls : List Int) (cnt : Int) (up : Bool) (DL D1 D2 : DataW Unit) (nL n1 n2 : Nat) (s : ByteArray) (w : World) (h : Ctx w β fc F gb gc cc gl cl is ls cnt up DL D1 D2 nL n1 n2) (hs : s.size ≤ maxLen) :
    Calls Tryf.prog 24 #[.pointer (some ⟨fc, 0, none⟩), .string s] w (Refused DL s w) := by
  have c4 := cell_of_blk h.blk 4 (.pointer (some ⟨F.b + 1, 0, none⟩)) rfl
  have k6 := cell_of_blk h.bblk 6 (.map (some F.b)) rfl
  have hown := h.ownL
  go_enter Tryf.func24, Tryf.ntmps24
  go_wp2_with fail
  refine (getLabel_any (F.b + 1) F.b nL s hs DL _ k6 hown).mono ?_
  rintro e w1 ⟨rfl, q, rfl⟩
  go_wp2
  go_ret
  exact ⟨rfl, q, rfl⟩

set_option maxRecDepth 100000 in
theorem ZZaddNamed_any (β fc : Nat) (F : FcAt) (gb : Value × Option Addr) (gc cc gl cl : Nat) (is ls : List Int) (cnt : Int) (up : Bool) (DL D1 D2 : DataW Unit) (nL n1 n2 : Nat) (l : Nat) (s : ByteArray) (id pc ln n : Int) (w : World) (h : Ctx w β fc F gb gc cc gl cl is ls cnt up DL D1 D2 nL n1 n2) (hs : s.size ≤ maxLen) (hid : (Lit.int .i64 id).wf = true) (hpc : (Lit.int .i64 pc).wf = true)
    (hl : w.heap[l]? = some (.cells #[.int .i64 id, .string s, .int .i64 pc, .int .i64 ln, .int .i64 n] 29 (0, 0))) (hh : Maps.has DL (kS s) = false) (m1 : nL < maxLen) (m2 : n1 < maxLen) :
    Calls Tryf.prog 41 #[.pointer (some ⟨fc, 0, none⟩), .pointer (some ⟨l, 0, none⟩)] w fun e w' => e = .returned (.tuple #[]) ∧
      Ctx w' β fc F gb gc cc gl cl is ls cnt up (DL.put (kS s) (.lit (.int .i64 l))) (D1.put (kI id) (.lit (.int .i64 pc))) D2 (nL + 1) (n1 + 1) n2 ∧ Turn w w' (fun k => k = F.b ∨ k = F.M1) := by
  have c4 := cell_of_blk h.blk 4 (.pointer (some ⟨F.b + 1, 0, none⟩)) rfl
  have k6 := cell_of_blk h.bblk 6 (.map (some F.b)) rfl
  have l1 := cell_of_blk hl 1 (.string s) rfl
  have hown := h.ownL
  have H := Lib.hid h
  have HL := Lib.hid hl
  clear h hl
  go_enter Tryf.func41, Tryf.ntmps41
  go_wp2_with fail
  refine (addLabel_new (F.b + 1) l F.b nL s hs DL _ k6 l1 hown m1 hh).mono ?_
  rintro e w1 ⟨rfl, hown1, hT1⟩
  have h1 := H.out.names hT1 hown1
  have hl1 := hT1.heap HL.out (blocks_ne HL.out hown.choose_spec.choose_spec.1 (by simp))
  have l0' := cell_of_blk hl1 0 (.int .i64 id) rfl
  have l2' := cell_of_blk hl1 2 (.int .i64 pc) rfl
  clear c4 k6 l1 hown hown1
  go_wp2_with fail
  go_still_tail 9, (by kernel_rfl)
  have h2 := h1.same (w' := w1.drew) ((Turn.refl w1 _).drew)
  clear l0' l2'
  go_wp2_with fail
  refine (setLabelPc_any β fc F gb gc cc gl cl is ls cnt up _ D1 D2 _ n1 n2 id pc _ h2 hid hpc m2).mono ?_
  rintro e w3 ⟨rfl, h3, hT3⟩
  go_wp2
  go_end0
  exact ⟨rfl, h3, ((hT1.mono (fun _ _ h => .inl h)).drew).trans' hT3 (fun _ _ h => .inr h)⟩
end Go.Proofs.YtdhmpfijdmlfoaaFmt
