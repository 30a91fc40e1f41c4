/- The contracts of the exports of folder n005_135, on 'Stt'. -/
import Derived.Test.YtabienikffakiaaFmtBrk135
namespace Go.Proofs.YtabienikffakiaaFmt
open Go.RowKit
set_option linter.unusedVariables false

/-- a fresh context as the break laws use it -/
def FcNew (w : World) (e : Ending) (w' : World) : Prop :=
  ∃ fc F B g ys v xs, e = .returned (.pointer (some ⟨fc, 0, none⟩)) ∧ Stt w' w.heap.size fc F B [] g 1 1 ys 1 0 v xs ∧ B.lab = 0 ∧ B.ref = false ∧ B.ss = [] ∧ B.off = 0 ∧ Turn w w' (fun _ => False)

theorem FcMade.stt {s : ByteArray} {w w' : World} {e : Ending} (h : FcMade s none w e w') : FcNew w e w' := by
  obtain ⟨fc, F, g, rfl, hge, hb, hF, hT, hg, hrow, hpar, _⟩ := h
  obtain ⟨gr, n, cap, e1, e2, e3⟩ := hF.proto.row 11 (by decide) (by decide)
  have hn : n = 0 := by
    have h : n * 1 = 0 := e3
    omega
  subst hn
  rw [e1] at e2
  refine ⟨fc, F, ⟨F.b + 1, F.lv, F.b, 0, false, 0, 0, 0, .slice (some ⟨F.glv, 0, none⟩) 0 F.lvc, []⟩, g, [.pointer (some ⟨F.b + 1, 0, none⟩)], v0 F.pg, [], rfl, ⟨⟨hge, hb, hF.code, hF.cge, hF.blk, rfl, hF.lvp, hF.lvge, hF.proto.blk, hF.proto.ge, gr, cap, e1, e2⟩, ?_, trivial, ⟨(fun C hC => by cases hC), trivial⟩, ⟨rfl, trivial⟩, ?_⟩, rfl, rfl, rfl, rfl, hT⟩
  · have := hF.bge
    show w.heap.size ≤ F.b + 1
    omega
  · exact ⟨rfl, .inr ⟨g, 1, _, rfl, hg, hrow, Nat.le_refl _, by decide, rfl, rfl⟩⟩

theorem ZZnewFc_any (w : World) : Calls Tryf.prog 21 #[] w (FcNew w) := by
  go_enter Tryf.func21, Tryf.ntmps21
  go_wp2_with fail
  refine (newFc_any _ none _).mono ?_
  intro e w' hm
  obtain ⟨fc, F, B, g, ys, v, xs, rfl, h⟩ := FcMade.stt hm
  go_wp2
  go_ret
  exact ⟨fc, F, B, g, ys, v, xs, rfl, h⟩

/-- a name more in the current block -/
def OneMore (β fc : Nat) (F : FcAt) (B : Bk) (R : List Bk) (g m cap : Nat) (ys : List Value) (lid : Int) (n : Nat) (s : ByteArray) (w : World) (e : Ending) (w' : World) : Prop :=
  ∃ pv' v' xs' r, e = .returned (.int .i64 r) ∧ Stt w' β fc F { B with pv := pv', ss := B.ss ++ [s] } R g m cap ys lid (n + 1) v' xs' ∧ Turn w w' (fun k => β ≤ k) ∧ IntsKept w w'

theorem ZZreg_any {β fc : Nat} {F : FcAt} {B : Bk} {R : List Bk} {g m cap : Nat} {ys : List Value} {lid : Int} {n : Nat} {v : Nat → Value} {xs : List Value} (s : ByteArray) (w : World) (h : Stt w β fc F B R g m cap ys lid n v xs) (hβ : β ≤ w.heap.size) (h0 : 0 ≤ B.top) (h1 : B.top < 200) (hs : B.ss.length ≤ 1048576) (hn : n < 1048576) :
    Calls Tryf.prog 22 #[.pointer (some ⟨fc, 0, none⟩), .string s] w (OneMore β fc F B R g m cap ys lid n s w) := by
  go_enter Tryf.func22, Tryf.ntmps22
  go_wp2_with fail
  refine (regLocal_any _ _ _ _ _ _ _ _ _ _ _ _ _ _ _ s _ h.loc hβ hs hn h0 h1).mono ?_
  intro e w' hm
  obtain ⟨pv', v', xs', rfl, hS, hT, hI⟩ := h.reg hm
  go_wp2
  go_ret
  exact ⟨pv', v', xs', _, rfl, hS, hT, hI⟩

theorem Stt.label {w : World} {β fc : Nat} {F : FcAt} {B : Bk} {R : List Bk} {g m cap : Nat} {ys : List Value} {lid : Int} {n : Nat} {v : Nat → Value} {xs : List Value} (h : Stt w β fc F B R g m cap ys lid n v xs) (l' : Int) :
    Stt (w.setCell ⟨fc, 7, none⟩ (.int .i64 l')) β fc F B R g m cap ys l' n v xs ∧ Turn w (w.setCell ⟨fc, 7, none⟩ (.int .i64 l')) (fun k => β ≤ k) ∧ IntsKept w (w.setCell ⟨fc, 7, none⟩ (.int .i64 l')) := by
  have t := (Turn.refl w (fun k => k = fc)).setCell (p := ⟨fc, 7, none⟩) (fun _ => rfl) (.int .i64 l')
  have hb := h.loc.blk
  have ne : ∀ (k : Nat) (X : Array Value) (t : TypeId), w.heap[k]? = some (.cells X t (0, 0)) → t ≠ 62 → ¬ k = fc := by
    intro k X t hk h1 h2
    subst h2
    rw [hk] at hb; simp at hb; exact h1 hb.2
  obtain ⟨c1, u1⟩ := owned_elem h.loc.code.codes
  obtain ⟨c2, u2⟩ := owned_elem h.loc.code.lines
  obtain ⟨gd, capd, ed, rd⟩ := h.loc.row
  obtain ⟨c3, u3⟩ := owned_elem rd
  obtain ⟨c4, u4⟩ := owned_elem h.row
  have hpk : ∀ k, B.pv.ownBlock = some k → ¬ k = fc := fun k hk => by
    obtain ⟨X, hX, _⟩ := h.loc.pool.rowKind hk
    exact ne _ _ _ hX (by decide)
  have b2 := blk_setCell h.loc.blk 7 (.int .i64 l')
  refine ⟨⟨⟨h.loc.ge, b2, h.loc.code.kept t (ne _ _ _ h.loc.code.blk (by decide)) (ne _ _ _ u1 (by decide)) (ne _ _ _ u2 (by decide)), h.loc.cge, t.heap h.loc.bblk (ne _ _ _ h.loc.bblk (by decide)), h.loc.bc0, h.loc.pool.kept t (ne _ _ _ h.loc.pool.blk (by decide)) hpk, h.loc.lvge, t.heap h.loc.pblk (ne _ _ _ h.loc.pblk (by decide)), h.loc.prge, gd, capd, ed, t.ownsRow rd (fun k hk => by cases hk; exact ne _ _ _ u3 (by decide))⟩, h.bge, h.rest.kept t ?_, h.apart, h.offs, t.ownsRow h.row (fun k hk => by cases hk; exact ne _ _ _ u4 (by decide))⟩, t.mono ?_, t.intsKept (fun k X hX => ne _ _ _ hX (by decide))⟩
  · intro C hC
    obtain ⟨par, hA⟩ := h.rest.mem hC
    refine ⟨ne _ _ _ hA.blk (by decide), ne _ _ _ hA.pool.blk (by decide), fun k hk => ?_⟩
    obtain ⟨X, hX, _⟩ := hA.pool.rowKind hk
    exact ne _ _ _ hX (by decide)
  · rintro k _ rfl
    exact h.loc.ge

theorem newLabel_any {β fc : Nat} {F : FcAt} {B : Bk} {R : List Bk} {g m cap : Nat} {ys : List Value} {lid : Int} {n : Nat} {v : Nat → Value} {xs : List Value} (w : World) (h : Stt w β fc F B R g m cap ys lid n v xs) (l0 : 0 ≤ lid) (l1 : lid ≤ 1048576) :
    Calls Tryf.prog 34 #[.pointer (some ⟨fc, 0, none⟩)] w fun e w' => e = .returned (.int .i64 lid) ∧ w.setCell ⟨fc, 7, none⟩ (.int .i64 (lid + 1)) = w' := by
  have c7 := cell_of_blk h.loc.blk 7 (.int .i64 lid) rfl
  have f7 := free_of_blk h.loc.blk 7
  clear h
  go_enter Tryf.func34, Tryf.ntmps34
  go_wp2
  go_ret
  exact ⟨rfl, rfl⟩

def NewLab (β fc : Nat) (F : FcAt) (B : Bk) (R : List Bk) (g m cap : Nat) (ys : List Value) (lid : Int) (n : Nat) (v : Nat → Value) (xs : List Value) (w : World) (e : Ending) (w' : World) : Prop :=
  e = .returned (.int .i64 lid) ∧ Stt w' β fc F B R g m cap ys (lid + 1) n v xs ∧ Turn w w' (fun k => β ≤ k) ∧ IntsKept w w'

theorem ZZnewLabel_any {β fc : Nat} {F : FcAt} {B : Bk} {R : List Bk} {g m cap : Nat} {ys : List Value} {lid : Int} {n : Nat} {v : Nat → Value} {xs : List Value} (w : World) (h : Stt w β fc F B R g m cap ys lid n v xs) (l0 : 0 ≤ lid) (l1 : lid ≤ 1048576) :
    Calls Tryf.prog 23 #[.pointer (some ⟨fc, 0, none⟩)] w (NewLab β fc F B R g m cap ys lid n v xs w) := by
  go_enter Tryf.func23, Tryf.ntmps23
  go_wp2_with fail
  refine (newLabel_any _ h l0 l1).mono ?_
  rintro e w' ⟨rfl, rfl⟩
  have H := Lib.hid (h.label (lid + 1))
  clear h
  go_wp2
  go_ret
  exact ⟨rfl, H.out⟩

theorem Stt.mark {w : World} {β fc : Nat} {F : FcAt} {B : Bk} {R : List Bk} {g m cap : Nat} {ys : List Value} {lid : Int} {n : Nat} {v : Nat → Value} {xs : List Value} (h : Stt w β fc F B R g m cap ys lid n v xs) (hR : ∀ C ∈ R, C.b ≠ B.b) (x : Bool) :
    Stt (w.setCell ⟨B.b, 3, none⟩ (.bool x)) β fc F { B with ref := x } R g m cap ys lid n v xs ∧ Turn w (w.setCell ⟨B.b, 3, none⟩ (.bool x)) (fun k => β ≤ k) ∧ IntsKept w (w.setCell ⟨B.b, 3, none⟩ (.bool x)) := by
  have t := (Turn.refl w (fun k => k = B.b)).setCell (p := ⟨B.b, 3, none⟩) (fun _ => rfl) (.bool x)
  have hb := h.loc.bblk
  have ne : ∀ (k : Nat) (X : Array Value) (t : TypeId), w.heap[k]? = some (.cells X t (0, 0)) → t ≠ 71 → ¬ k = B.b := by
    intro k X t hk h1 h2
    subst h2
    rw [hk] at hb; simp at hb; exact h1 hb.2
  obtain ⟨c1, u1⟩ := owned_elem h.loc.code.codes
  obtain ⟨c2, u2⟩ := owned_elem h.loc.code.lines
  obtain ⟨gd, capd, ed, rd⟩ := h.loc.row
  obtain ⟨c3, u3⟩ := owned_elem rd
  obtain ⟨c4, u4⟩ := owned_elem h.row
  have hpk : ∀ k, B.pv.ownBlock = some k → ¬ k = B.b := fun k hk => by
    obtain ⟨X, hX, _⟩ := h.loc.pool.rowKind hk
    exact ne _ _ _ hX (by decide)
  have b2 := blk_setCell h.loc.bblk 3 (.bool x)
  refine ⟨⟨⟨h.loc.ge, t.heap h.loc.blk (ne _ _ _ h.loc.blk (by decide)), h.loc.code.kept t (ne _ _ _ h.loc.code.blk (by decide)) (ne _ _ _ u1 (by decide)) (ne _ _ _ u2 (by decide)), h.loc.cge, b2, rfl, h.loc.pool.kept t (ne _ _ _ h.loc.pool.blk (by decide)) hpk, h.loc.lvge, t.heap h.loc.pblk (ne _ _ _ h.loc.pblk (by decide)), h.loc.prge, gd, capd, ed, t.ownsRow rd (fun k hk => by cases hk; exact ne _ _ _ u3 (by decide))⟩, h.bge, h.rest.kept t ?_, h.apart, h.offs, t.ownsRow h.row (fun k hk => by cases hk; exact ne _ _ _ u4 (by decide))⟩, t.mono ?_, t.intsKept (fun k X hX => ne _ _ _ hX (by decide))⟩
  · intro C hC
    obtain ⟨par, hA⟩ := h.rest.mem hC
    refine ⟨hR C hC, ne _ _ _ hA.pool.blk (by decide), fun k hk => ?_⟩
    obtain ⟨X, hX, _⟩ := hA.pool.rowKind hk
    exact ne _ _ _ hX (by decide)
  · rintro k _ rfl
    exact h.bge

def Marked (β fc : Nat) (F : FcAt) (B : Bk) (R : List Bk) (g m cap : Nat) (ys : List Value) (lid : Int) (n : Nat) (v : Nat → Value) (xs : List Value) (x : Bool) (w : World) (e : Ending) (w' : World) : Prop :=
  e = .returned (.tuple #[]) ∧ Stt w' β fc F { B with ref := x } R g m cap ys lid n v xs ∧ Turn w w' (fun k => β ≤ k) ∧ IntsKept w w'

theorem ZZsetRef_any {β fc : Nat} {F : FcAt} {B : Bk} {R : List Bk} {g m cap : Nat} {ys : List Value} {lid : Int} {n : Nat} {v : Nat → Value} {xs : List Value} (x : Bool) (w : World) (h : Stt w β fc F B R g m cap ys lid n v xs) (hR : ∀ C ∈ R, C.b ≠ B.b) :
    Calls Tryf.prog 25 #[.pointer (some ⟨fc, 0, none⟩), .bool x] w (Marked β fc F B R g m cap ys lid n v xs x w) := by
  have c4 := cell_of_blk h.loc.blk 4 (.pointer (some ⟨B.b, 0, none⟩)) rfl
  have c3 := cell_of_blk h.loc.bblk 3 (.bool B.ref) rfl
  have f3 := free_of_blk h.loc.bblk 3
  have H := Lib.hid (h.mark hR x)
  clear h
  go_enter Tryf.func25, Tryf.ntmps25
  go_wp2
  go_end0
  exact ⟨rfl, H.out⟩

theorem setLine_any (b o : Nat) (l : Int) (x : Value) (w : World) (hc : w.cell? ⟨b, o, none⟩ = some x) (hf : w.frozen? ⟨b, o, none⟩ = false) :
    Calls Tryf.prog 14 #[.pointer (some ⟨b, o, none⟩), .int .i64 l] w fun e w' => e = .returned (.tuple #[]) ∧ w.setCell ⟨b, o, none⟩ (.int .i64 l) = w' := by
  go_enter Tryf.func14, Tryf.ntmps14
  go_wp2
  go_end0
  exact ⟨rfl, rfl⟩

/-- a block entered, its position made before -/
def InNew (β fc : Nat) (F : FcAt) (B : Bk) (R : List Bk) (m : Nat) (ys : List Value) (lid lab : Int) (n : Nat) (v : Nat → Value) (xs : List Value) (w : World) (e : Ending) (w' : World) : Prop :=
  ∃ N q c y, e = .returned (.tuple #[]) ∧ Stt w' β fc F N (B :: R) q (m + 1) c (ys ++ [y]) lid n v xs ∧ N.lab = lab ∧ N.ref = false ∧ N.ss = [] ∧ N.off = B.top ∧ (∀ C ∈ B :: R, C.b ≠ N.b) ∧ Turn w w' (fun k => β ≤ k) ∧ IntsKept w w'

theorem ZZenter_any {β fc : Nat} {F : FcAt} {B : Bk} {R : List Bk} {g m cap : Nat} {ys : List Value} {lid : Int} {n : Nat} {v : Nat → Value} {xs : List Value} (lab l1 l2 : Int) (p : Nat) (w : World) (h : Stt w β fc F B R g m cap ys lid n v xs) (hβ : β ≤ w.heap.size) (hm : m ≤ 1048576) (p0 : w.cell? ⟨p, 0, none⟩ = some (.int .i64 l1)) (p1 : w.cell? ⟨p, 1, none⟩ = some (.int .i64 l2)) :
    Calls Tryf.prog 24 #[.pointer (some ⟨fc, 0, none⟩), .int .i64 lab, .pointer (some ⟨p, 0, none⟩)] w (InNew β fc F B R m ys lid lab n v xs w) := by
  go_enter Tryf.func24, Tryf.ntmps24
  go_wp2_with fail
  refine (enterBlock_any β fc F g m cap B.b p B.top lid lab l1 l2 ys _ h.loc.blk h.row hβ hm p0 p1).mono ?_
  intro e w' hm
  obtain ⟨N, q, c, y, rfl, hS, k1, k2, k3, k4, hT, hI⟩ := h.enter hβ hm
  have hnew : ∀ C ∈ B :: R, C.b ≠ N.b := k4.2
  have hoff : N.off = B.top := k4.1
  have H := Lib.hid (⟨hS, k1, k2, k3, hoff, hnew, hT, hI⟩ : Stt w' β fc F N (B :: R) q (m + 1) c (ys ++ [y]) lid n v xs ∧ N.lab = lab ∧ N.ref = false ∧ N.ss = [] ∧ N.off = B.top ∧ (∀ C ∈ B :: R, C.b ≠ N.b) ∧ Turn w w' (fun k => β ≤ k) ∧ IntsKept w w')
  clear h hm hS k1 k2 k3 k4 hT hI hnew hoff
  go_wp2
  go_end0
  exact ⟨N, q, c, y, rfl, H.out⟩

/-- what the readers need of a context -/
structure Face (w : World) (fc c b : Nat) (cv lv : Value) (pc rt lid : Int) : Prop where
  c1 : w.cell? ⟨fc, 1, none⟩ = some (.pointer (some ⟨c, 0, none⟩))
  c4 : w.cell? ⟨fc, 4, none⟩ = some (.pointer (some ⟨b, 0, none⟩))
  c6 : w.cell? ⟨fc, 6, none⟩ = some (.int .i64 rt)
  c7 : w.cell? ⟨fc, 7, none⟩ = some (.int .i64 lid)
  d0 : w.cell? ⟨c, 0, none⟩ = some cv
  d1 : w.cell? ⟨c, 1, none⟩ = some lv
  d2 : w.cell? ⟨c, 2, none⟩ = some (.int .i64 pc)

theorem ZZcodes_any {w : World} {fc c b : Nat} {cv lv : Value} {pc rt lid : Int} (h : Face w fc c b cv lv pc rt lid) :
    Calls Tryf.prog 16 #[.pointer (some ⟨fc, 0, none⟩)] w fun e w' => e = .returned (cv) ∧ w = w' := by
  obtain ⟨c1, c4, c6, c7, d0, d1, d2⟩ := h
  go_enter Tryf.func16, Tryf.ntmps16
  go_wp2
  go_ret
  exact ⟨rfl, rfl⟩

theorem ZZlines_any {w : World} {fc c b : Nat} {cv lv : Value} {pc rt lid : Int} (h : Face w fc c b cv lv pc rt lid) :
    Calls Tryf.prog 17 #[.pointer (some ⟨fc, 0, none⟩)] w fun e w' => e = .returned (lv) ∧ w = w' := by
  obtain ⟨c1, c4, c6, c7, d0, d1, d2⟩ := h
  go_enter Tryf.func17, Tryf.ntmps17
  go_wp2
  go_ret
  exact ⟨rfl, rfl⟩

theorem ZZpc_any {w : World} {fc c b : Nat} {cv lv : Value} {pc rt lid : Int} (h : Face w fc c b cv lv pc rt lid) :
    Calls Tryf.prog 10 #[.pointer (some ⟨fc, 0, none⟩)] w fun e w' => e = .returned (.int .i64 pc) ∧ w = w' := by
  obtain ⟨c1, c4, c6, c7, d0, d1, d2⟩ := h
  go_enter Tryf.func10, Tryf.ntmps10
  go_wp2
  go_ret
  exact ⟨rfl, rfl⟩

theorem ZZlabelID_any {w : World} {fc c b : Nat} {cv lv : Value} {pc rt lid : Int} (h : Face w fc c b cv lv pc rt lid) :
    Calls Tryf.prog 11 #[.pointer (some ⟨fc, 0, none⟩)] w fun e w' => e = .returned (.int .i64 lid) ∧ w = w' := by
  obtain ⟨c1, c4, c6, c7, d0, d1, d2⟩ := h
  go_enter Tryf.func11, Tryf.ntmps11
  go_wp2
  go_ret
  exact ⟨rfl, rfl⟩

theorem ZZregTop_any {w : World} {fc c b : Nat} {cv lv : Value} {pc rt lid : Int} (h : Face w fc c b cv lv pc rt lid) :
    Calls Tryf.prog 12 #[.pointer (some ⟨fc, 0, none⟩)] w fun e w' => e = .returned (.int .i64 rt) ∧ w = w' := by
  obtain ⟨c1, c4, c6, c7, d0, d1, d2⟩ := h
  go_enter Tryf.func12, Tryf.ntmps12
  go_wp2
  go_ret
  exact ⟨rfl, rfl⟩

theorem ZZblock_any {w : World} {fc c b : Nat} {cv lv : Value} {pc rt lid : Int} (h : Face w fc c b cv lv pc rt lid) :
    Calls Tryf.prog 13 #[.pointer (some ⟨fc, 0, none⟩)] w fun e w' => e = .returned (.pointer (some ⟨b, 0, none⟩)) ∧ w = w' := by
  obtain ⟨c1, c4, c6, c7, d0, d1, d2⟩ := h
  go_enter Tryf.func13, Tryf.ntmps13
  go_wp2
  go_ret
  exact ⟨rfl, rfl⟩
end Go.Proofs.YtabienikffakiaaFmt
