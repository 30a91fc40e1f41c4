/- FindLocalVar's and getIdentRefType's contracts. -/
import Derived.Test.YtieiaojabkpkfaaFmtLoc128
import Derived.Test.YtieiaojabkpkfaaFmtPtr
namespace Go.Proofs.YtieiaojabkpkfaaFmt
open Go.RowKit
set_option linter.unusedVariables false

theorem run_eql_ptr_other {P : Program} (w : World) {tp te : TypeId} {j : TypeInfo} {a b : Addr} {ca cb : Array Value} {ta tb : TypeId} (hp : P.underlying tp = some (.pointer te)) (hte : P.info? te = some j) (hsz : j.size ≠ 0)
    (hne : a ≠ b) (ha : w.heap[a.block]? = some (.cells ca ta (0, 0))) (hb : w.heap[b.block]? = some (.cells cb tb (0, 0))) :
    (binOp .eql tp (.pointer (some a)) (.pointer (some b))).run P w = .ok (.bool false) w := by
  have h : ∀ d : Nat, (Op.equalIn (d + 1) tp (.pointer (some a)) (.pointer (some b))).run P w = .ok false w := fun d => by
    simp [Op.equalIn, run_underlying hp, sizeOf, typeInfo, hte, hsz, run_sameAddr_other w hne ha hb]
  simp only [binOp]
  simp [Op.equal, Op.maxDepth, h 9999]

def Has (ss : List ByteArray) (s : ByteArray) : Prop := ∃ t, t < ss.length ∧ ss.getD t ByteArray.empty = s

def FoundL (ss : List ByteArray) (s : ByteArray) (w : World) (e : Ending) (w' : World) : Prop :=
  Turn w w' (fun _ => False) ∧ ((Has ss s ∧ ∃ r : Nat, r < 1048576 ∧ e = .returned (.int .i64 r)) ∨ (¬ Has ss s ∧ e = .returned (.int .i64 (-1))))
def FoundLB (ss : List ByteArray) (s : ByteArray) (B : Nat) (w : World) (e : Ending) (w' : World) : Prop :=
  Turn w w' (fun _ => False) ∧ ((Has ss s ∧ ∃ r : Nat, r < 1048576 ∧ e = .returned (.tuple #[.int .i64 r, .pointer (some ⟨B, 0, none⟩)])) ∨ (¬ Has ss s ∧ e = .returned (.tuple #[.int .i64 (-1), .pointer none])))

theorem drewN_turn (w : World) (q : Nat) (F : Nat → Prop) : Turn w (w.drewN q) F := ⟨rfl, rfl, rfl, Nat.le_refl _, fun _ _ _ => rfl⟩

def nilV : Value → Nat
  | .pointer none => 0
  | _ => 1

set_option maxRecDepth 100000 in
theorem findLB_any (β fc : Nat) (F : FcAt) (gbv pv : Value) (v : Nat → Value) (xs : List Value) (ss : List ByteArray) (s : ByteArray) (w : World) (h : Loc w β fc F gbv pv v xs ss) (hn : ss.length ≤ 200) :
    Calls Tryf.prog 64 #[.pointer (some ⟨fc, 0, none⟩), .string s] w (FoundLB ss s (F.b + 1) w) := by
  have c4 := cell_of_blk h.blk 4 (.pointer (some ⟨F.b + 1, 0, none⟩)) rfl
  have b0 := cell_of_blk h.bblk 0 (.pointer (some ⟨F.lv, 0, none⟩)) rfl
  have b2 := cell_of_blk h.bblk 2 (.pointer none) rfl
  go_enter Tryf.func64, Tryf.ntmps64
  go_wp2
  go_loopw [6] (fun bl wr => (bl = .pointer (some ⟨F.b + 1, 0, none⟩) ∨ (bl = .pointer none ∧ ¬ Has ss s)) ∧ Turn w wr (fun _ => False)) (fun bl _ => nilV bl)
  case atStart => exact ⟨.inl rfl, Turn.refl _ _⟩
  case round =>
    obtain ⟨hbl, hT⟩ := hrel
    rcases hbl with rfl | ⟨rfl, hno⟩
    · have d0 := hT.cell b0 id
      have d2 := hT.cell b2 id
      have hp := h.pool.kept hT id (fun _ _ => id)
      go_wp2_with fail
      refine (find_any β F.lv pv ss 0 s _ hp (by omega)).mono ?_
      rintro e w2 ⟨⟨q, rfl⟩, ⟨r, hr, he, _, rfl⟩ | ⟨hne, rfl⟩⟩
      · have hw : wrap64 ((r : Int) + 0) = (r : Int) := by unfold wrap64; omega
        rw [hw]
        have hT2 := hT.trans (drewN_turn wr q _)
        have H1 : Has ss s := ⟨r, hr, he⟩
        have z : ((-1 : Int) < (r : Int)) := by omega
        clear hp hw
        go_wp2
        go_ret2
        exact ⟨hT2, .inl ⟨H1, r, by omega, rfl⟩⟩
      · have hT2 := hT.trans (drewN_turn wr q _)
        have H1 : ¬ Has ss s := fun ⟨t, h1, h2⟩ => hne t h1 h2
        have e2 : (wr.drewN q).cell? ⟨F.b + 1, 2, none⟩ = some (.pointer none) := d2
        have HN := Lib.hid H1
        clear hp hne H1 d0 d2
        generalize wr.drewN q = wz at *
        go_wp2
        go_roundw
        case rel => exact ⟨.inr ⟨rfl, HN.out⟩, hT2⟩
        case measure => simp [nilV]
    · have HN := Lib.hid hno
      clear hno
      go_wp2
      go_ret2
      exact ⟨hT, .inr ⟨HN.out, rfl⟩⟩

set_option maxRecDepth 100000 in
theorem findL_any (β fc : Nat) (F : FcAt) (gbv pv : Value) (v : Nat → Value) (xs : List Value) (ss : List ByteArray) (s : ByteArray) (w : World) (h : Loc w β fc F gbv pv v xs ss) (hn : ss.length ≤ 200) :
    Calls Tryf.prog 59 #[.pointer (some ⟨fc, 0, none⟩), .string s] w (FoundL ss s w) := by
  go_enter Tryf.func59, Tryf.ntmps59
  go_wp2_with fail
  refine (findLB_any β fc F gbv pv v xs ss s _ h hn).mono ?_
  rintro e w1 ⟨hT, ⟨hh, r, hr, rfl⟩ | ⟨hh, rfl⟩⟩
  · go_wp2
    go_ret
    exact ⟨hT, .inl ⟨hh, r, hr, rfl⟩⟩
  · go_wp2
    go_ret
    exact ⟨hT, .inr ⟨hh, rfl⟩⟩

set_option maxRecDepth 100000 in
theorem identRef_none (ctx : Option Addr) (x : Nat) (w : World) :
    Calls Tryf.prog 37 #[.pointer ctx, .pointer none, .pointer (some ⟨x, 0, none⟩)] w fun e w' => e = .returned (.int .i64 0) ∧ Turn w w' (fun _ => False) := by
  go_enter Tryf.func37, Tryf.ntmps37
  go_wp2
  go_ret
  exact ⟨rfl, Turn.refl _ _⟩

@[go_sem] theorem eqlCtx (a : Addr) (w : World) : (binOp .eql 26 (.pointer (some a)) (.pointer (some a))).run Tryf.prog w = .ok (.bool true) w := by
  have h : (Tryf.prog.info? 61).isSome = true := by kernel_rfl
  obtain ⟨j, hj⟩ := Option.isSome_iff_exists.1 h
  exact run_eql_ptr_same w a Tryf.underlying26 hj

theorem eqlOther (a b : Nat) (w : World) {X Y : Array Value} (h : a ≠ b) (ha : w.heap[a]? = some (.cells X 61 (0, 0))) (hb : w.heap[b]? = some (.cells Y 61 (0, 0))) : (binOp .eql 26 (.pointer (some ⟨a, 0, none⟩)) (.pointer (some ⟨b, 0, none⟩))).run Tryf.prog w = .ok (.bool false) w := by
  have h1 : (Tryf.prog.info? 61).map (fun i => (i.size != 0)) = some true := by kernel_rfl
  obtain ⟨j, hj, hs⟩ := Option.map_eq_some_iff.1 h1
  exact run_eql_ptr_other w Tryf.underlying26 hj (by simpa using hs) (fun e => h (by simp at e)) ha hb

set_option maxRecDepth 100000 in
/-- the asked context declares the name -/
theorem identRef_own (β fc x : Nat) (F : FcAt) (gbv pv : Value) (v : Nat → Value) (xs : List Value) (ss : List ByteArray) (s : ByteArray) (w : World) (h : Loc w β fc F gbv pv v xs ss) (hn : ss.length ≤ 200) (hx : w.cell? ⟨x, 2, none⟩ = some (.string s)) (hs : Has ss s) :
    Calls Tryf.prog 37 #[.pointer (some ⟨fc, 0, none⟩), .pointer (some ⟨fc, 0, none⟩), .pointer (some ⟨x, 0, none⟩)] w fun e w' => e = .returned (.int .i64 2) ∧ Turn w w' (fun _ => False) := by
  go_enter Tryf.func37, Tryf.ntmps37
  go_wp2_with fail
  refine (findL_any β fc F gbv pv v xs ss s _ h hn).mono ?_
  rintro e w1 ⟨hT, ⟨hh, r, hr, rfl⟩ | ⟨hh, rfl⟩⟩
  · have z : ((-1 : Int) < (r : Int)) := by omega
    go_wp2
    go_ret
    exact ⟨rfl, hT⟩
  · exact absurd hs hh

set_option maxRecDepth 100000 in
theorem identRef_other (β fc ctx x : Nat) (F : FcAt) (gbv pv : Value) (v : Nat → Value) (xs : List Value) (ss : List ByteArray) (s : ByteArray) (w : World) (h : Loc w β fc F gbv pv v xs ss) (hn : ss.length ≤ 200) (hx : w.cell? ⟨x, 2, none⟩ = some (.string s)) (hs : Has ss s) (X : Array Value) (hc : w.heap[ctx]? = some (.cells X 61 (0, 0))) (hne : fc ≠ ctx) :
    Calls Tryf.prog 37 #[.pointer (some ⟨ctx, 0, none⟩), .pointer (some ⟨fc, 0, none⟩), .pointer (some ⟨x, 0, none⟩)] w fun e w' => e = .returned (.int .i64 1) ∧ Turn w w' (fun _ => False) := by
  go_enter Tryf.func37, Tryf.ntmps37
  go_wp2_with fail
  refine (findL_any β fc F gbv pv v xs ss s _ h hn).mono ?_
  rintro e w1 ⟨hT, ⟨hh, r, hr, rfl⟩ | ⟨hh, rfl⟩⟩
  · have z : ((-1 : Int) < (r : Int)) := by omega
    have he := eqlOther fc ctx w1 hne (hT.heap h.blk id) (hT.heap hc id)
    go_wp2
    go_ret
    exact ⟨rfl, hT⟩
  · exact absurd hs hh

set_option maxRecDepth 100000 in
/-- the asked context does not declare it: its parent is asked -/
theorem identRef_up (β fc x : Nat) (ctx : Option Addr) (F : FcAt) (gbv pv : Value) (v : Nat → Value) (xs : List Value) (ss : List ByteArray) (s : ByteArray) (w : World) (r : Int) (h : Loc w β fc F gbv pv v xs ss) (hn : ss.length ≤ 200) (hx : w.cell? ⟨x, 2, none⟩ = some (.string s)) (hs : ¬ Has ss s)
    (hup : ∀ w1, Turn w w1 (fun _ => False) → Calls Tryf.prog 37 #[.pointer ctx, .pointer F.par, .pointer (some ⟨x, 0, none⟩)] w1 fun e w' => e = .returned (.int .i64 r) ∧ Turn w1 w' (fun _ => False)) :
    Calls Tryf.prog 37 #[.pointer ctx, .pointer (some ⟨fc, 0, none⟩), .pointer (some ⟨x, 0, none⟩)] w fun e w' => e = .returned (.int .i64 r) ∧ Turn w w' (fun _ => False) := by
  go_enter Tryf.func37, Tryf.ntmps37
  go_wp2_with fail
  refine (findL_any β fc F gbv pv v xs ss s _ h hn).mono ?_
  rintro e w1 ⟨hT, ⟨hh, _, _, rfl⟩ | ⟨hh, rfl⟩⟩
  · exact absurd hh hs
  · have c2 := hT.cell (cell_of_blk h.blk 2 (.pointer F.par) rfl) id
    go_wp2_with fail
    refine (hup w1 hT).mono ?_
    rintro e w2 ⟨rfl, hT2⟩
    go_wp2
    go_ret
    exact ⟨rfl, hT.trans hT2⟩
end Go.Proofs.YtieiaojabkpkfaaFmt
