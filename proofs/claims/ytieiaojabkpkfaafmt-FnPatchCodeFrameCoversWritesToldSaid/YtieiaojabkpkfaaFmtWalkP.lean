/- The contracts of the thin exports that the patchCode laws call, and of countOf. -/
import Derived.Test.YtieiaojabkpkfaaFmtPatchW
import Derived.Test.YtieiaojabkpkfaaFmtPatchLaw
import Derived.Test.YtieiaojabkpkfaaFmtWalk128A
namespace Go.Proofs.YtieiaojabkpkfaaFmt
open Go.RowKit
set_option linter.unusedVariables false

theorem cap_of_owned {w : World} {β g n cap s : Nat} {e : TypeId} {xs : List Value} (h : w.ownsRow β e s (.slice (some ⟨g, 0, none⟩) n cap) n xs) : n ≤ cap := by
  obtain ⟨_, ⟨h1, _⟩ | ⟨g', cap', cur, h1, _, _, hle, _⟩⟩ := h
  · cases h1
  · simp only [Value.slice.injEq, Option.some.injEq, Addr.mk.injEq, and_true, true_and] at h1
    omega

theorem PState.ne {w : World} {β fc : Nat} {F : FcAt} {sl : Value} {v : Nat → Value} {np nu : Int} {gc cc gl cl : Nat} {is ls : List Int} (h : PState w β fc F sl v np nu gc cc gl cl is ls) :
    (fc ≠ F.pr ∧ fc ≠ F.c ∧ fc ≠ gc ∧ fc ≠ gl) ∧ (F.pr ≠ F.c ∧ F.pr ≠ gc ∧ F.pr ≠ gl) := by
  obtain ⟨c1, h1⟩ := owned_elem h.code.codes
  obtain ⟨c2, h2⟩ := owned_elem h.code.lines
  have h3 := h.fblk
  have h4 := h.pblk
  have h5 := h.code.blk
  refine ⟨⟨?_, ?_, ?_, ?_⟩, ?_, ?_, ?_⟩
  · intro e; rw [e, h4] at h3; simp at h3
  · intro e; rw [e, h5] at h3; simp at h3
  · intro e; rw [e, h1] at h3; simp at h3
  · intro e; rw [e, h2] at h3; simp at h3
  · intro e; rw [e, h5] at h4; simp at h4
  · intro e; rw [e, h1] at h4; simp at h4
  · intro e; rw [e, h2] at h4; simp at h4

set_option maxRecDepth 100000 in
theorem ZZsetNp_any (β fc : Nat) (F : FcAt) (sl : Value) (v : Nat → Value) (np nu : Int) (gc cc gl cl : Nat) (is ls : List Int) (n : Int) (w : World) (h : PState w β fc F sl v np nu gc cc gl cl is ls) :
    Calls Tryf.prog 13 #[.pointer (some ⟨fc, 0, none⟩), .int .u8 n] w fun e w' => e = .returned (.tuple #[]) ∧ PState w' β fc F sl v n nu gc cc gl cl is ls ∧ Turn w w' (fun b => b = F.pr) := by
  have f0 := cell_of_blk h.fblk 0 (.pointer (some ⟨F.pr, 0, none⟩)) rfl
  have p4 := cell_of_blk h.pblk 4 (.int .u8 np) rfl
  have p4' := free_of_blk h.pblk 4
  have T := (Turn.refl w (fun b => b = F.pr)).setCell (p := ⟨F.pr, 4, none⟩) (fun _ => rfl) (.int .u8 n)
  have hne := h.ne
  have P : PState (w.setCell ⟨F.pr, 4, none⟩ (.int .u8 n)) β fc F sl v n nu gc cc gl cl is ls :=
    ⟨T.heap h.fblk hne.1.1, blk_setCell h.pblk 4 _, h.code.kept T (fun e => hne.2.1 e.symm) (fun e => hne.2.2.1 e.symm) (fun e => hne.2.2.2 e.symm), h.fge, h.pge, h.cge⟩
  have HP := Lib.hid P
  have HT := Lib.hid T
  clear P T hne h
  go_enter Tryf.func13, Tryf.ntmps13
  go_wp2
  go_end0
  exact ⟨rfl, HP.out, HT.out⟩

def AddedP (β fc : Nat) (F : FcAt) (sl : Value) (v : Nat → Value) (np nu : Int) (is ls : List Int) (w : World) (e : Ending) (w' : World) : Prop :=
  e = .returned (.tuple #[]) ∧ (∃ gc cc gl cl, PState w' β fc F sl v np nu gc cc gl cl is ls) ∧ Turn w w' (fun b => β ≤ b)

set_option maxRecDepth 100000 in
theorem ZZadd_any (β fc : Nat) (F : FcAt) (sl : Value) (v : Nat → Value) (np nu : Int) (gc cc gl cl : Nat) (is ls : List Int) (x : Int) (w : World) (h : PState w β fc F sl v np nu gc cc gl cl is ls) (hβ : β ≤ w.heap.size) (hn : is.length ≤ 1048576) :
    Calls Tryf.prog 14 #[.pointer (some ⟨fc, 0, none⟩), .int .u32 x] w (AddedP β fc F sl v np nu (is ++ [x]) (ls ++ [0]) w) := by
  have f1 := cell_of_blk h.fblk 1 (.pointer (some ⟨F.c, 0, none⟩)) rfl
  go_enter Tryf.func14, Tryf.ntmps14
  go_wp2_with fail
  refine (add_any β F.c gc cc gl cl is ls x 0 _ h.code hβ hn).mono ?_
  rintro e w' ⟨gc', cc', gl', cl', rfl, hC, hT, h1, h2⟩
  have hne := h.ne
  have hg := h.code.gcge
  have P : PState w' β fc F sl v np nu gc' cc' gl' cl' (is ++ [x]) (ls ++ [0]) :=
    ⟨hT.heap h.fblk (fun h => h.elim hne.1.2.1 (fun h => h.elim hne.1.2.2.1 hne.1.2.2.2)), hT.heap h.pblk (fun h => h.elim hne.2.1 (fun h => h.elim hne.2.2.1 hne.2.2.2)), hC, h.fge, h.pge, h.cge⟩
  have T : Turn w w' (fun b => β ≤ b) := hT.mono (fun j _ e => e.elim (fun e => e ▸ h.cge) (fun e => e.elim (fun e => e ▸ hg.1) (fun e => e ▸ hg.2)))
  have HP := Lib.hid P
  have HT := Lib.hid T
  clear P T hT hC hne hg h1 h2 h
  go_wp2
  go_end0
  exact ⟨rfl, ⟨_, _, _, _, HP.out⟩, HT.out⟩

set_option maxRecDepth 100000 in
theorem ZZpatch_any (β fc : Nat) (F : FcAt) (sl : Value) (v : Nat → Value) (np nu : Int) (gc cc gl cl : Nat) (L ls : List Int) (w : World) (h : PState w β fc F sl v np nu gc cc gl cl L ls)
    (hn : L.length ≤ 1048576) (h32 : All32 L) (hj : NoJump L) (hs : Small L) (hp0 : 0 ≤ np) (hp1 : np ≤ 199) :
    Calls Tryf.prog 15 #[.pointer (some ⟨fc, 0, none⟩)] w (Patched β fc F sl v np gc cc gl cl L ls w) := by
  go_enter Tryf.func15, Tryf.ntmps15
  go_wp2_with fail
  refine (patch_any β fc F sl v np nu gc cc gl cl L ls _ h hn (cap_of_owned h.code.codes) h32 hj hs hp0 hp1).mono ?_
  intro e w' hm
  obtain ⟨rfl, hm⟩ := hm
  go_wp2
  go_end0
  exact ⟨rfl, hm⟩

set_option maxRecDepth 100000 in
theorem ZZlist_any (β fc : Nat) (F : FcAt) (sl : Value) (v : Nat → Value) (np nu : Int) (gc cc gl cl : Nat) (is ls : List Int) (w : World) (h : PState w β fc F sl v np nu gc cc gl cl is ls) (hn : is.length ≤ 1048576) :
    Calls Tryf.prog 16 #[.pointer (some ⟨fc, 0, none⟩)] w fun e w' => ∃ q : Nat, e = .returned (.slice (some ⟨gc, 0, none⟩) is.length cc) ∧ w.drewN q = w' := by
  have f1 := cell_of_blk h.fblk 1 (.pointer (some ⟨F.c, 0, none⟩)) rfl
  go_enter Tryf.func16, Tryf.ntmps16
  go_wp2_with fail
  refine (list_any β F.c gc cc gl cl is ls _ h.code hn (cap_of_owned h.code.codes)).mono ?_
  rintro e w' ⟨q, rfl, rfl⟩
  go_wp2
  go_ret
  exact ⟨q, rfl, rfl⟩

set_option maxRecDepth 100000 in
theorem ZZregs_any (β fc : Nat) (F : FcAt) (sl : Value) (v : Nat → Value) (np nu : Int) (gc cc gl cl : Nat) (is ls : List Int) (w : World) (h : PState w β fc F sl v np nu gc cc gl cl is ls) :
    Calls Tryf.prog 38 #[.pointer (some ⟨fc, 0, none⟩)] w fun e w' => e = .returned (.int .u8 nu) ∧ w = w' := by
  have f0 := cell_of_blk h.fblk 0 (.pointer (some ⟨F.pr, 0, none⟩)) rfl
  have p6 := cell_of_blk h.pblk 6 (.int .u8 nu) rfl
  go_enter Tryf.func38, Tryf.ntmps38
  go_wp2
  go_ret
  exact ⟨rfl, rfl⟩

/-- a fresh context as the patchCode laws use it -/
theorem FcMade.open {s : ByteArray} {par : Option Addr} {w w' : World} {e : Ending} (h : FcMade s par w e w') :
    ∃ fc F sl v, e = .returned (.pointer (some ⟨fc, 0, none⟩)) ∧ PState w' w.heap.size fc F sl v 0 2 F.gc 1024 F.gl 1024 [] [] ∧ Turn w w' (fun _ => False) := by
  obtain ⟨fc, F, g, rfl, hge, hb, hF, hT, _⟩ := h
  exact ⟨fc, F, _, v0 F.pg, rfl, ⟨hb, hF.proto.blk, hF.code, hge, hF.proto.ge, hF.cge⟩, hT⟩

def Counted (L : List Int) (np : Int) (w : World) (e : Ending) (w' : World) : Prop := e = .returned (.int .i64 (regs L np)) ∧ Below w.heap.size w w'

set_option maxRecDepth 100000 in
set_option maxHeartbeats 1000000 in
theorem countOf_any (a : Option Addr) (c : Nat) (L : List Int) (np : Int) (w : World) (S : Ints .u32 w a L) (hn : L.length ≤ 1048576) (h32 : All32 L) (hj : NoJump L) (hs : Small L) (hp0 : 0 ≤ np) (hp1 : np ≤ 199) :
    Calls Tryf.prog 26 #[.slice a L.length c, .int .u8 np] w (Counted L np w) := by
  go_enter Tryf.func26, Tryf.ntmps26
  go_wp2_with fail
  refine (ZZnewFc_any _ none _).mono ?_
  intro e w3 hm
  obtain ⟨fc, F, sl, v, rfl, hP, hT⟩ := hm.open
  clear hm
  go_wp2_with fail
  refine (ZZsetNp_any w.heap.size fc F sl v 0 2 F.gc 1024 F.gl 1024 [] [] np _ hP).mono ?_
  rintro e w4 ⟨rfl, hP4, hT4⟩
  have hT5 : Turn w w4 (fun _ => False) := hT.trans' hT4 (fun j hj h => by have := hP.pge; omega)
  have HP := Lib.hid hP4
  clear hP hT hT4 hP4
  go_wp2
  go_loopw [6] (fun i wr => ∃ (k gc cc gl cl : Nat) (ls : List Int), k ≤ L.length ∧ i = .int .i64 k ∧ PState wr w.heap.size fc F sl v np 2 gc cc gl cl (L.take k) ls ∧ Turn w wr (fun _ => False)) (fun i _ => L.length - (intOf i).toNat)
  case atStart => exact ⟨0, _, _, _, _, _, Nat.zero_le _, rfl, HP.out, hT5⟩
  case round =>
    clear HP hT5
    obtain ⟨k, gc, cc, gl, cl, ls, hk, rfl, hP, hT⟩ := hrel
    by_cases hlt : k < L.length
    · obtain ⟨b, o, rfl, hc⟩ := ints_later (hT.below (Nat.le_refl _) (fun _ h => h.elim)) S k hlt
      have htk : L.take (k + 1) = L.take k ++ [L.getD k 0] := by
        rw [List.take_succ_eq_append_getElem hlt]; simp [List.getD, hlt]
      generalize L.getD k 0 = x at hc htk
      have HK := Lib.hid htk
      have hlen : (L.take k).length ≤ 1048576 := by simp; omega
      clear htk S h32 hj hs
      go_wp2_with fail
      refine (ZZadd_any w.heap.size fc F sl v np 2 gc cc gl cl (L.take k) ls x _ hP hT.size hlen).mono ?_
      rintro e w6 ⟨rfl, ⟨gc', cc', gl', cl', hP6⟩, hT6⟩
      have hT7 := hT.trans' hT6 (fun j hj h => by omega)
      rw [← HK.out] at hP6
      clear hP hT hT6 hc hlen
      go_wp2
      go_roundw
      case rel => exact ⟨k + 1, gc', cc', gl', cl', _, by omega, by go_num, hP6, hT7⟩
      case measure => simp [intOf]; omega
    · have he : k = L.length := by omega
      subst he
      rw [List.take_length] at hP
      clear hlt hk
      have hbd := regs_bd L np hs hp1
      go_wp2_with fail
      refine (ZZpatch_any w.heap.size fc F sl v np 2 gc cc gl cl L ls _ hP hn h32 hj hs hp0 hp1).mono ?_
      intro e w6 hm
      obtain ⟨rfl, hP6, hT6⟩ := hm
      have hg := hP.code.gcge
      have hT7 : Turn w w6 (fun _ => False) := hT.trans' hT6 (fun j hj h => by have := hP.pge; omega)
      clear hP hT hT6 h32 hj hs
      generalize hr : regs L np = r at hP6 hbd ⊢
      have HR := Lib.hid hr
      clear hr
      have hB := hT7.below (Nat.le_refl _) (fun _ h => h.elim)
      go_wp2_with fail
      refine (ZZregs_any w.heap.size fc F sl v np r gc cc gl cl _ ls _ hP6).mono ?_
      rintro e w' ⟨rfl, rfl⟩
      clear hP6 hT7
      go_wp2
      go_ret
      exact ⟨by rw [HR.out]; rfl, hB⟩
end Go.Proofs.YtieiaojabkpkfaaFmt
