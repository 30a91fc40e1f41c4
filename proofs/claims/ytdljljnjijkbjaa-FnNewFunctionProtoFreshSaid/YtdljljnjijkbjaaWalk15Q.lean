/- The walk of FnNewFunctionProtoFresh: it returns true. (Printed by gen15.py.) -/
import Derived.Test.YtdljljnjijkbjaaNewP15
import Derived.Test.YtdljljnjijkbjaaPtr
namespace Go.Proofs.Ytdljljnjijkbjaa
open Go.RowKit
set_option linter.unusedVariables false

theorem run_eql_ptr_other {P : Program} (w : World) {tp te : TypeId} {j : TypeInfo} {a b : Addr} {ca cb : Array Value} {ta tb : TypeId} (hp : P.underlying tp = some (.pointer te)) (hte : P.info? te = some j) (hsz : j.size ≠ 0)
    (hne : a ≠ b) (ha : w.heap[a.block]? = some (.cells ca ta (0, 0))) (hb : w.heap[b.block]? = some (.cells cb tb (0, 0))) :
    (binOp .eql tp (.pointer (some a)) (.pointer (some b))).run P w = .ok (.bool false) w := by
  have h : ∀ d : Nat, (Op.equalIn (d + 1) tp (.pointer (some a)) (.pointer (some b))).run P w = .ok false w := fun d => by
    simp [Op.equalIn, run_underlying hp, sizeOf, typeInfo, hte, hsz, run_sameAddr_other w hne ha hb]
  simp only [binOp]
  simp [Op.equal, Op.maxDepth, h 9999]

@[go_sem] theorem neqProto (a : Addr) (w : World) : (binOp .neq 25 (.pointer (some a)) (.pointer (some a))).run Try.prog w = .ok (.bool false) w := by
  have h : (Try.prog.info? 35).isSome = true := by kernel_rfl
  obtain ⟨j, hj⟩ := Option.isSome_iff_exists.1 h
  exact run_neq_ptr_same w a Try.underlying25 hj
@[go_sem] theorem neqLocal (a : Addr) (w : World) : (binOp .neq 39 (.pointer (some a)) (.pointer (some a))).run Try.prog w = .ok (.bool false) w := by
  have h : (Try.prog.info? 41).isSome = true := by kernel_rfl
  obtain ⟨j, hj⟩ := Option.isSome_iff_exists.1 h
  exact run_neq_ptr_same w a Try.underlying39 hj

/-- two prototypes, all their blocks apart -/
structure PQ (w0 w : World) (p q : Nat) (s t : ByteArray) (v u : Nat → Value) (xs ys : Nat → List Value) : Prop where
  P : PS w w0.heap.size p s v xs
  Q : PS w w0.heap.size q t u ys
  ne : p ≠ q
  sep : ∀ f f', 7 ≤ f → f ≤ 14 → 7 ≤ f' → f' ≤ 14 → (v f).ownBlock ≠ (u f').ownBlock
  turn : Turn w0 w (fun _ => False)

theorem PQ.symm {w0 w : World} {p q : Nat} {s t : ByteArray} {v u : Nat → Value} {xs ys : Nat → List Value} (h : PQ w0 w p q s t v u xs ys) : PQ w0 w q p t s u v ys xs :=
  ⟨h.Q, h.P, h.ne.symm, fun f f' a b a' b' e => h.sep f' f a' b' a b e.symm, h.turn⟩

theorem PS.lt {w : World} {β p : Nat} {s : ByteArray} {v : Nat → Value} {xs : Nat → List Value} (h : PS w β p s v xs) (f k : Nat) (h7 : 7 ≤ f) (h14 : f ≤ 14) (hk : (v f).ownBlock = some k) : β ≤ k ∧ k < w.heap.size := by
  obtain ⟨g, n, cap, hv, ho, _⟩ := h.row f h7 h14
  exact ho.lt k hk

theorem PQ.grown {w0 w w1 : World} {p q f n : Nat} {s t : ByteArray} {v u : Nat → Value} {xs ys : Nat → List Value} (h : PQ w0 w p q s t v u xs ys) (h7 : 7 ≤ f) (h14 : f ≤ 14) (tmp : Obj) {v' : Value} {news : List Value}
    (own : w1.ownsRow w0.heap.size (el f) (sz f) v' n (xs f ++ news)) (hn : n * sz f = (xs f ++ news).length) (hv' : ∃ g cap, v' = .slice (some ⟨g, 0, none⟩) n cap) (gr : (w.alloc tmp).grownBy w1 (v f).ownBlock) (loc : v'.ownBlock = (v f).ownBlock ∨ v'.ownBlock = some (w.alloc tmp).heap.size) :
    PQ w0 (w1.setCell ⟨p, f, none⟩ v') p q s t (upd v f v') u (upd xs f (xs f ++ news)) ys := by
  obtain ⟨hP, hT, hl⟩ := h.P.grown h7 h14 tmp own hn hv' gr loc
  have hq : ¬ (q = p ∨ (v f).ownBlock = some q) := fun e => e.elim (fun e => h.ne e.symm) (h.P.row_ne f h7 h14 h.Q.blk)
  refine ⟨hP, h.Q.kept hT hq ?_, h.ne, ?_, h.turn.trans' hT ?_⟩
  · intro f' k a b hk e
    rcases e with e | e
    · exact h.Q.row_ne f' a b h.P.blk (by rw [hk, e])
    · exact h.sep f f' h7 h14 a b (by rw [e, hk])
  · intro a b a7 a14 b7 b14
    by_cases e : a = f
    · subst e
      rcases hl with e' | ⟨k, e', hk⟩
      · rw [e']; exact h.sep a b a7 a14 b7 b14
      · rw [e']
        intro e2
        have := (h.Q.lt b k b7 b14 e2.symm).2
        omega
    · rw [upd_ne _ _ _ _ e]
      exact h.sep a b a7 a14 b7 b14
  · intro j hj e
    rcases e with e | e
    · have := h.P.ge; omega
    · have := (h.P.lt f j h7 h14 e).1; omega

theorem ZZnew_any (s : ByteArray) (w : World) : Calls Try.prog 8 #[.string s] w (Fresh s w) := by
  go_enter Try.func8, Try.ntmps8
  go_wp2_with fail
  refine (newProto_any s _).mono ?_
  rintro e w' ⟨p, g, rfl, h⟩
  go_wp2
  go_ret
  exact ⟨p, g, rfl, h⟩

theorem PS.weaken {w : World} {β β' p : Nat} {s : ByteArray} {v : Nat → Value} {xs : Nat → List Value} (h : PS w β p s v xs) (hb : β' ≤ β) : PS w β' p s v xs :=
  ⟨by have := h.ge; omega, h.blk, fun f a b => by
    obtain ⟨g, n, cap, e1, ⟨l1, e2⟩, e3⟩ := h.row f a b
    refine ⟨g, n, cap, e1, ⟨l1, ?_⟩, e3⟩
    rcases e2 with e2 | ⟨g', c', cur, q1, q2, q3⟩
    · exact .inl e2
    · exact .inr ⟨g', c', cur, q1, by omega, q3⟩, h.apart⟩

theorem PQ.start {w0 w1 w2 : World} {p q : Nat} {s t : ByteArray} {v u : Nat → Value} (h1 : PS w1 w0.heap.size p s v (fun _ => [])) (t1 : Turn w0 w1 (fun _ => False)) (h2 : PS w2 w1.heap.size q t u (fun _ => [])) (t2 : Turn w1 w2 (fun _ => False)) : PQ w0 w2 p q s t v u (fun _ => []) (fun _ => []) := by
  have hs := t1.size
  refine ⟨h1.kept t2 id (fun _ _ _ _ _ => id), h2.weaken hs, ?_, ?_, t1.trans t2⟩
  · have h1' := lt_of_block h1.blk
    have := h2.ge
    omega
  · intro f f' a b a' b' e
    obtain ⟨g, n, cap, hv, ho, _⟩ := h1.row f a b
    have hk : (v f).ownBlock = some g := by rw [hv]; rfl
    have q1 := (h1.lt f g a b hk).2
    have q2 := (h2.lt f' g a' b' (by rw [← e, hk])).1
    omega

theorem PS.mid {w w1 : World} {β p f : Nat} {s : ByteArray} {v : Nat → Value} {xs : Nat → List Value} (h : PS w β p s v xs) (h7 : 7 ≤ f) (h14 : f ≤ 14) {tmp : Obj} (gr : (w.alloc tmp).grownBy w1 (v f).ownBlock) : w1.heap[p]? = some (.cells (pCells s v) 35 (0, 0)) :=
  (((Turn.refl w (fun k => (v f).ownBlock = some k)).alloc tmp).grown gr (fun k hk _ => hk)).heap h.blk (h.row_ne f h7 h14 h.blk)

theorem PQ.alloc {w0 w : World} {p q : Nat} {s t : ByteArray} {v u : Nat → Value} {xs ys : Nat → List Value} (h : PQ w0 w p q s t v u xs ys) (o : Obj) : PQ w0 (w.alloc o) p q s t v u xs ys := by
  have T := (Turn.refl w (fun _ => False)).alloc o
  exact ⟨h.P.kept T id (fun _ _ _ _ _ => id), h.Q.kept T id (fun _ _ _ _ _ => id), h.ne, h.sep, h.turn.trans T⟩

theorem cell_two_new (w : World) (x y : Value) (t : TypeId) : ∀ j u, [x, y][j]? = some u → (w.alloc (.cells #[x, y] t)).cell? ((⟨w.heap.size, 0, none⟩ : Addr).add j) = some u := by
  intro j u hj
  match j, hj with
  | 0, hj =>
    simp at hj
    subst hj
    simp [Addr.add]
  | 1, hj =>
    simp at hj
    subst hj
    simp [Addr.add]

theorem PS.read {w : World} {β p : Nat} {s : ByteArray} {v : Nat → Value} {xs : Nat → List Value} (h : PS w β p s v xs) (f g c : Nat) (x : Value) (h7 : 7 ≤ f) (h14 : f ≤ 14) (hv : v f = .slice (some ⟨g, 0, none⟩) 1 c) (hx : (xs f)[0]? = some x) (hs : 0 < sz f) : w.cell? ⟨g, 0, none⟩ = some x := by
  obtain ⟨g', n, c', e, r, _⟩ := h.row f h7 h14
  rw [hv] at e r
  obtain ⟨rfl, rfl, rfl⟩ : g = g' ∧ 1 = n ∧ c = c' := by simpa using e
  rw [r.cellAt 0 (by omega)]
  exact hx

def SomeB (P : Prop) (w : World) (e : Ending) (w' : World) : Prop := ∃ b : Bool, e = .returned (.bool b) ∧ (b = true → P) ∧ w = w'
set_option maxRecDepth 100000 in
theorem zzB_Fresh (a b : ByteArray) (w : World) (ha : a.size ≤ maxLen) (hb : b.size ≤ maxLen) :
    Calls Try.prog 7 #[.string a, .string b] w (SomeB (a.size + b.size ≤ 1048576) w) := by
  unfold maxLen at ha hb
  have b9 : True := trivial
  go_enter Try.func7, Try.ntmps7
  go_wp2
  all_goals first
    | (go_ret; exact ⟨true, rfl, (fun _ => by omega), rfl⟩)
    | (go_ret; exact ⟨false, rfl, (fun h => absurd h (by simp)), rfl⟩)

theorem ZZget_any (p : Nat) (v : Value) (w : World) (h : w.cell? ⟨p, 14, none⟩ = some v) :
    Calls Try.prog 9 #[.pointer (some ⟨p, 0, none⟩)] w fun e w' => e = .returned v ∧ w = w' := by
  go_enter Try.func9, Try.ntmps9
  go_wp2
  go_ret
  exact ⟨rfl, rfl⟩
theorem ZZset_any (p : Nat) (x : Value) (g n c : Nat) (w : World) (h : w.cell? ⟨p, 14, none⟩ = some x) (hf : w.frozen? ⟨p, 14, none⟩ = false) :
    Calls Try.prog 10 #[.pointer (some ⟨p, 0, none⟩), .slice (some ⟨g, 0, none⟩) n c] w fun e w' => e = .returned (.tuple #[]) ∧ w.setCell ⟨p, 14, none⟩ (.slice (some ⟨g, 0, none⟩) n c) = w' := by
  go_enter Try.func10, Try.ntmps10
  go_wp2
  go_end0
  exact ⟨rfl, rfl⟩

set_option maxRecDepth 100000 in
set_option maxHeartbeats 4000000 in
theorem walk_FnNewFunctionProtoFresh (a b : ByteArray) (ha : a.size ≤ maxLen) (hb : b.size ≤ maxLen) (w : World) :
    Calls Try.prog 5 #[.string a, .string b] w fun e w' => e = .returned (.bool true) ∧ Below w.heap.size w w' := by
  go_enter Try.func5, Try.ntmps5
  go_wp2_with fail
  refine (zzB_Fresh a b _ ha hb).mono ?_
  rintro e w' ⟨bb, rfl, hbb, rfl⟩
  cases bb with
  | false =>
    go_wp2
    go_ret
    exact ⟨rfl, Below.refl _ _⟩
  | true =>
    have hb1 := hbb rfl
    clear hbb
    by_cases q1 : 1048576 < a.size
    · omega
    by_cases q2 : 1048576 < b.size
    · omega
    have q3 : ¬ (1048576 : Int) < (a.size : Int) := by omega
    have q4 : ¬ (1048576 : Int) < (b.size : Int) := by omega
    go_wp2_with fail
    refine (ZZnew_any a _).mono ?_
    rintro e w1 ⟨p, g, rfl, hP, hT1⟩
    go_wp2_with fail
    refine (ZZnew_any b _).mono ?_
    rintro e w2 ⟨q, k, rfl, hQ, hT2⟩
    have hPQ := PQ.start hP hT1 hQ hT2
    clear hP hT1 hQ hT2
    have heq : (binOp .eql 25 (.pointer (some ⟨p, 0, none⟩)) (.pointer (some ⟨q, 0, none⟩))).run Try.prog w2 = .ok (.bool false) w2 := by
      have h : (Try.prog.info? 35).map (fun i => (i.size != 0)) = some true := by kernel_rfl
      obtain ⟨j, hj, hs⟩ := Option.map_eq_some_iff.1 h
      exact run_eql_ptr_other w2 Try.underlying25 hj (by simpa using hs) (fun e => hPQ.ne (by simpa using e)) hPQ.P.blk hPQ.Q.blk
    obtain ⟨iU, hU, hU0, hU1, hU2⟩ := info_parts infoU32
    obtain ⟨iI, hI, hI0, hI1, hI2⟩ := info_parts infoInt
    obtain ⟨iS, hS, hS0, hS1, hS2⟩ := info_parts infoString
    obtain ⟨iD, hD, hD0, hD1, hD2⟩ := info_parts infoDC
    obtain ⟨iL, hL, hL0, hL1, hL2⟩ := info_parts infoPDL
    obtain ⟨iF, hF, hF0, hF1, hF2⟩ := info_parts infoPFP
    obtain ⟨g1, n1, c1, e1, r1, l1⟩ := hPQ.P.row 7 (by decide) (by decide)
    have d1 := cell_of_blk hPQ.P.blk 7 ((v0 g) 7) rfl
    rw [e1] at d1 r1
    have z1 : n1 = 0 := by
      have h : n1 * 1 = 0 := l1
      omega
    subst z1
    have hsz1 := hPQ.turn.size
    go_wp2_with (at_builtin; refine wpList_append_own_at _ rfl _ _ 27 rfl w.heap.size 36 iU (.int .u32 0) 1 4 Try.underlying27 hU hU0 hU1 hU2 rfl (by decide) (.slice (some ⟨g1, 0, none⟩) 0 c1) 0 [] rfl (World.ownsRow.alloc r1 _) ⟨w2.heap.size, 0, none⟩ 1 1 [.int .u32 7] rfl rfl (cell_one_new _ _ _) ?o1 ?b1 ?b2 ?b3 ?_)
    case o1 => intro x hx; simp at hx; subst hx; rfl
    case b1 => unfold maxLen; omega
    case b2 => omega
    case b3 => simp; omega
    intro v1 u1 own1 grow1 _ loc1
    obtain ⟨gg1, cc1, rfl, _⟩ := shape_of_owned own1 (by omega)
    have m1 := hPQ.P.mid (f := 7) (by decide) (by decide) (tmp := .cells #[.int .u32 7] 36) (by rw [e1]; exact grow1)
    have a1 := cell_of_blk m1 7 ((v0 g) 7) rfl
    rw [e1] at a1
    have b1 := free_of_blk m1 7
    have PQ1 := (hPQ.grown (f := 7) (by decide) (by decide) (.cells #[.int .u32 7] 36) (v' := .slice (some ⟨gg1, 0, none⟩) 1 cc1) (news := [.int .u32 7]) own1 rfl ⟨_, _, rfl⟩ (by rw [e1]; exact grow1) (by rw [e1]; simpa using loc1))
    clear hPQ d1 r1 l1 e1 own1 grow1 loc1 m1
    have hPQ := PQ1
    clear PQ1
    generalize hw1 : u1.setCell ⟨p, 7, none⟩ (.slice (some ⟨gg1, 0, none⟩) 1 cc1) = W1 at hPQ
    obtain ⟨g2, n2, c2, e2, r2, l2⟩ := hPQ.Q.row 7 (by decide) (by decide)
    have d2 := cell_of_blk hPQ.Q.blk 7 ((v0 k) 7) rfl
    rw [e2] at d2 r2
    have z2 : n2 = 0 := by
      have h : n2 * 1 = 0 := l2
      omega
    subst z2
    have hsz2 := hPQ.turn.size
    go_wp2_with (at_builtin; refine wpList_append_own_at _ rfl _ _ 27 rfl w.heap.size 36 iU (.int .u32 0) 1 4 Try.underlying27 hU hU0 hU1 hU2 rfl (by decide) (.slice (some ⟨g2, 0, none⟩) 0 c2) 0 [] rfl (World.ownsRow.alloc r2 _) ⟨W1.heap.size, 0, none⟩ 1 1 [.int .u32 9] rfl rfl (cell_one_new _ _ _) ?o1 ?b1 ?b2 ?b3 ?_)
    case o1 => intro x hx; simp at hx; subst hx; rfl
    case b1 => unfold maxLen; omega
    case b2 => omega
    case b3 => simp; omega
    intro v2 u2 own2 grow2 _ loc2
    obtain ⟨gg2, cc2, rfl, _⟩ := shape_of_owned own2 (by omega)
    have m2 := hPQ.Q.mid (f := 7) (by decide) (by decide) (tmp := .cells #[.int .u32 9] 36) (by rw [e2]; exact grow2)
    have a2 := cell_of_blk m2 7 ((v0 k) 7) rfl
    rw [e2] at a2
    have b2 := free_of_blk m2 7
    have PQ2 := (hPQ.symm.grown (f := 7) (by decide) (by decide) (.cells #[.int .u32 9] 36) (v' := .slice (some ⟨gg2, 0, none⟩) 1 cc2) (news := [.int .u32 9]) own2 rfl ⟨_, _, rfl⟩ (by rw [e2]; exact grow2) (by rw [e2]; simpa using loc2)).symm
    clear hPQ d2 r2 l2 e2 own2 grow2 loc2 m2
    have hPQ := PQ2
    clear PQ2
    generalize hw2 : u2.setCell ⟨q, 7, none⟩ (.slice (some ⟨gg2, 0, none⟩) 1 cc2) = W2 at hPQ
    obtain ⟨g3, n3, c3, e3, r3, l3⟩ := hPQ.P.row 10 (by decide) (by decide)
    have d3 := cell_of_blk hPQ.P.blk 10 ((upd (v0 g) 7 (.slice (some ⟨gg1, 0, none⟩) 1 cc1)) 10) rfl
    rw [e3] at d3 r3
    have z3 : n3 = 0 := by
      have h : n3 * 1 = 0 := l3
      omega
    subst z3
    have hsz3 := hPQ.turn.size
    go_wp2_with (at_builtin; refine wpList_append_own_at _ rfl _ _ 30 rfl w.heap.size 3 iI (.int .i64 0) 1 8 Try.underlying30 hI hI0 hI1 hI2 rfl (by decide) (.slice (some ⟨g3, 0, none⟩) 0 c3) 0 [] rfl (World.ownsRow.alloc r3 _) ⟨W2.heap.size, 0, none⟩ 1 1 [.int .i64 1] rfl rfl (cell_one_new _ _ _) ?o1 ?b1 ?b2 ?b3 ?_)
    case o1 => intro x hx; simp at hx; subst hx; rfl
    case b1 => unfold maxLen; omega
    case b2 => omega
    case b3 => simp; omega
    intro v3 u3 own3 grow3 _ loc3
    obtain ⟨gg3, cc3, rfl, _⟩ := shape_of_owned own3 (by omega)
    have m3 := hPQ.P.mid (f := 10) (by decide) (by decide) (tmp := .cells #[.int .i64 1] 3) (by rw [e3]; exact grow3)
    have a3 := cell_of_blk m3 10 ((upd (v0 g) 7 (.slice (some ⟨gg1, 0, none⟩) 1 cc1)) 10) rfl
    rw [e3] at a3
    have b3 := free_of_blk m3 10
    have PQ3 := (hPQ.grown (f := 10) (by decide) (by decide) (.cells #[.int .i64 1] 3) (v' := .slice (some ⟨gg3, 0, none⟩) 1 cc3) (news := [.int .i64 1]) own3 rfl ⟨_, _, rfl⟩ (by rw [e3]; exact grow3) (by rw [e3]; simpa using loc3))
    clear hPQ d3 r3 l3 e3 own3 grow3 loc3 m3
    have hPQ := PQ3
    clear PQ3
    generalize hw3 : u3.setCell ⟨p, 10, none⟩ (.slice (some ⟨gg3, 0, none⟩) 1 cc3) = W3 at hPQ
    obtain ⟨g4, n4, c4, e4, r4, l4⟩ := hPQ.Q.row 10 (by decide) (by decide)
    have d4 := cell_of_blk hPQ.Q.blk 10 ((upd (v0 k) 7 (.slice (some ⟨gg2, 0, none⟩) 1 cc2)) 10) rfl
    rw [e4] at d4 r4
    have z4 : n4 = 0 := by
      have h : n4 * 1 = 0 := l4
      omega
    subst z4
    have hsz4 := hPQ.turn.size
    go_wp2_with (at_builtin; refine wpList_append_own_at _ rfl _ _ 30 rfl w.heap.size 3 iI (.int .i64 0) 1 8 Try.underlying30 hI hI0 hI1 hI2 rfl (by decide) (.slice (some ⟨g4, 0, none⟩) 0 c4) 0 [] rfl (World.ownsRow.alloc r4 _) ⟨W3.heap.size, 0, none⟩ 1 1 [.int .i64 2] rfl rfl (cell_one_new _ _ _) ?o1 ?b1 ?b2 ?b3 ?_)
    case o1 => intro x hx; simp at hx; subst hx; rfl
    case b1 => unfold maxLen; omega
    case b2 => omega
    case b3 => simp; omega
    intro v4 u4 own4 grow4 _ loc4
    obtain ⟨gg4, cc4, rfl, _⟩ := shape_of_owned own4 (by omega)
    have m4 := hPQ.Q.mid (f := 10) (by decide) (by decide) (tmp := .cells #[.int .i64 2] 3) (by rw [e4]; exact grow4)
    have a4 := cell_of_blk m4 10 ((upd (v0 k) 7 (.slice (some ⟨gg2, 0, none⟩) 1 cc2)) 10) rfl
    rw [e4] at a4
    have b4 := free_of_blk m4 10
    have PQ4 := (hPQ.symm.grown (f := 10) (by decide) (by decide) (.cells #[.int .i64 2] 3) (v' := .slice (some ⟨gg4, 0, none⟩) 1 cc4) (news := [.int .i64 2]) own4 rfl ⟨_, _, rfl⟩ (by rw [e4]; exact grow4) (by rw [e4]; simpa using loc4)).symm
    clear hPQ d4 r4 l4 e4 own4 grow4 loc4 m4
    have hPQ := PQ4
    clear PQ4
    generalize hw4 : u4.setCell ⟨q, 10, none⟩ (.slice (some ⟨gg4, 0, none⟩) 1 cc4) = W4 at hPQ
    obtain ⟨g5, n5, c5, e5, r5, l5⟩ := hPQ.P.row 13 (by decide) (by decide)
    have d5 := cell_of_blk hPQ.P.blk 13 ((upd (upd (v0 g) 7 (.slice (some ⟨gg1, 0, none⟩) 1 cc1)) 10 (.slice (some ⟨gg3, 0, none⟩) 1 cc3)) 13) rfl
    rw [e5] at d5 r5
    have z5 : n5 = 0 := by
      have h : n5 * 1 = 0 := l5
      omega
    subst z5
    have hsz5 := hPQ.turn.size
    go_wp2_with (at_builtin; refine wpList_append_own_at _ rfl _ _ 33 rfl w.heap.size 9 iS (.string ByteArray.empty) 1 16 Try.underlying33 hS hS0 hS1 hS2 rfl (by decide) (.slice (some ⟨g5, 0, none⟩) 0 c5) 0 [] rfl (World.ownsRow.alloc r5 _) ⟨W4.heap.size, 0, none⟩ 1 1 [.string ⟨#[112]⟩] rfl rfl (cell_one_new _ _ _) ?o1 ?b1 ?b2 ?b3 ?_)
    case o1 => intro x hx; simp at hx; subst hx; rfl
    case b1 => unfold maxLen; omega
    case b2 => omega
    case b3 => simp; omega
    intro v5 u5 own5 grow5 _ loc5
    obtain ⟨gg5, cc5, rfl, _⟩ := shape_of_owned own5 (by omega)
    have m5 := hPQ.P.mid (f := 13) (by decide) (by decide) (tmp := .cells #[.string ⟨#[112]⟩] 9) (by rw [e5]; exact grow5)
    have a5 := cell_of_blk m5 13 ((upd (upd (v0 g) 7 (.slice (some ⟨gg1, 0, none⟩) 1 cc1)) 10 (.slice (some ⟨gg3, 0, none⟩) 1 cc3)) 13) rfl
    rw [e5] at a5
    have b5 := free_of_blk m5 13
    have PQ5 := (hPQ.grown (f := 13) (by decide) (by decide) (.cells #[.string ⟨#[112]⟩] 9) (v' := .slice (some ⟨gg5, 0, none⟩) 1 cc5) (news := [.string ⟨#[112]⟩]) own5 rfl ⟨_, _, rfl⟩ (by rw [e5]; exact grow5) (by rw [e5]; simpa using loc5))
    clear hPQ d5 r5 l5 e5 own5 grow5 loc5 m5
    have hPQ := PQ5
    clear PQ5
    generalize hw5 : u5.setCell ⟨p, 13, none⟩ (.slice (some ⟨gg5, 0, none⟩) 1 cc5) = W5 at hPQ
    obtain ⟨g6, n6, c6, e6, r6, l6⟩ := hPQ.Q.row 13 (by decide) (by decide)
    have d6 := cell_of_blk hPQ.Q.blk 13 ((upd (upd (v0 k) 7 (.slice (some ⟨gg2, 0, none⟩) 1 cc2)) 10 (.slice (some ⟨gg4, 0, none⟩) 1 cc4)) 13) rfl
    rw [e6] at d6 r6
    have z6 : n6 = 0 := by
      have h : n6 * 1 = 0 := l6
      omega
    subst z6
    have hsz6 := hPQ.turn.size
    go_wp2_with (at_builtin; refine wpList_append_own_at _ rfl _ _ 33 rfl w.heap.size 9 iS (.string ByteArray.empty) 1 16 Try.underlying33 hS hS0 hS1 hS2 rfl (by decide) (.slice (some ⟨g6, 0, none⟩) 0 c6) 0 [] rfl (World.ownsRow.alloc r6 _) ⟨W5.heap.size, 0, none⟩ 1 1 [.string ⟨#[113]⟩] rfl rfl (cell_one_new _ _ _) ?o1 ?b1 ?b2 ?b3 ?_)
    case o1 => intro x hx; simp at hx; subst hx; rfl
    case b1 => unfold maxLen; omega
    case b2 => omega
    case b3 => simp; omega
    intro v6 u6 own6 grow6 _ loc6
    obtain ⟨gg6, cc6, rfl, _⟩ := shape_of_owned own6 (by omega)
    have m6 := hPQ.Q.mid (f := 13) (by decide) (by decide) (tmp := .cells #[.string ⟨#[113]⟩] 9) (by rw [e6]; exact grow6)
    have a6 := cell_of_blk m6 13 ((upd (upd (v0 k) 7 (.slice (some ⟨gg2, 0, none⟩) 1 cc2)) 10 (.slice (some ⟨gg4, 0, none⟩) 1 cc4)) 13) rfl
    rw [e6] at a6
    have b6 := free_of_blk m6 13
    have PQ6 := (hPQ.symm.grown (f := 13) (by decide) (by decide) (.cells #[.string ⟨#[113]⟩] 9) (v' := .slice (some ⟨gg6, 0, none⟩) 1 cc6) (news := [.string ⟨#[113]⟩]) own6 rfl ⟨_, _, rfl⟩ (by rw [e6]; exact grow6) (by rw [e6]; simpa using loc6)).symm
    clear hPQ d6 r6 l6 e6 own6 grow6 loc6 m6
    have hPQ := PQ6
    clear PQ6
    generalize hw6 : u6.setCell ⟨q, 13, none⟩ (.slice (some ⟨gg6, 0, none⟩) 1 cc6) = W6 at hPQ
    obtain ⟨g7, n7, c7, e7, r7, l7⟩ := hPQ.P.row 12 (by decide) (by decide)
    have d7 := cell_of_blk hPQ.P.blk 12 ((upd (upd (upd (v0 g) 7 (.slice (some ⟨gg1, 0, none⟩) 1 cc1)) 10 (.slice (some ⟨gg3, 0, none⟩) 1 cc3)) 13 (.slice (some ⟨gg5, 0, none⟩) 1 cc5)) 12) rfl
    rw [e7] at d7 r7
    have z7 : n7 = 0 := by
      have h : n7 * 2 = 0 := l7
      omega
    subst z7
    have hsz7 := hPQ.turn.size
    go_wp2_with (at_builtin; refine wpList_append_own_at _ rfl _ _ 32 rfl w.heap.size 38 iD (.agg #[.string ByteArray.empty, .int .i64 0]) 2 24 Try.underlying32 hD hD0 hD1 hD2 rfl (by decide) (.slice (some ⟨g7, 0, none⟩) 0 c7) 0 [] rfl (World.ownsRow.alloc r7 _) ⟨W6.heap.size, 0, none⟩ 1 1 [.string ⟨#[112]⟩, .int .i64 1] rfl rfl (cell_two_new _ _ _ _) ?o1 ?b1 ?b2 ?b3 ?_)
    case o1 => intro x hx; simp at hx; rcases hx with rfl | rfl <;> rfl
    case b1 => unfold maxLen; omega
    case b2 => omega
    case b3 => simp; omega
    intro v7 u7 own7 grow7 _ loc7
    obtain ⟨gg7, cc7, rfl, _⟩ := shape_of_owned own7 (by omega)
    have m7 := hPQ.P.mid (f := 12) (by decide) (by decide) (tmp := .cells #[.string ⟨#[112]⟩, .int .i64 1] 38) (by rw [e7]; exact grow7)
    have a7 := cell_of_blk m7 12 ((upd (upd (upd (v0 g) 7 (.slice (some ⟨gg1, 0, none⟩) 1 cc1)) 10 (.slice (some ⟨gg3, 0, none⟩) 1 cc3)) 13 (.slice (some ⟨gg5, 0, none⟩) 1 cc5)) 12) rfl
    rw [e7] at a7
    have b7 := free_of_blk m7 12
    have PQ7 := (hPQ.grown (f := 12) (by decide) (by decide) (.cells #[.string ⟨#[112]⟩, .int .i64 1] 38) (v' := .slice (some ⟨gg7, 0, none⟩) 1 cc7) (news := [.string ⟨#[112]⟩, .int .i64 1]) own7 rfl ⟨_, _, rfl⟩ (by rw [e7]; exact grow7) (by rw [e7]; simpa using loc7))
    clear hPQ d7 r7 l7 e7 own7 grow7 loc7 m7
    have hPQ := PQ7
    clear PQ7
    generalize hw7 : u7.setCell ⟨p, 12, none⟩ (.slice (some ⟨gg7, 0, none⟩) 1 cc7) = W7 at hPQ
    obtain ⟨g8, n8, c8, e8, r8, l8⟩ := hPQ.Q.row 12 (by decide) (by decide)
    have d8 := cell_of_blk hPQ.Q.blk 12 ((upd (upd (upd (v0 k) 7 (.slice (some ⟨gg2, 0, none⟩) 1 cc2)) 10 (.slice (some ⟨gg4, 0, none⟩) 1 cc4)) 13 (.slice (some ⟨gg6, 0, none⟩) 1 cc6)) 12) rfl
    rw [e8] at d8 r8
    have z8 : n8 = 0 := by
      have h : n8 * 2 = 0 := l8
      omega
    subst z8
    have hsz8 := hPQ.turn.size
    go_wp2_with (at_builtin; refine wpList_append_own_at _ rfl _ _ 32 rfl w.heap.size 38 iD (.agg #[.string ByteArray.empty, .int .i64 0]) 2 24 Try.underlying32 hD hD0 hD1 hD2 rfl (by decide) (.slice (some ⟨g8, 0, none⟩) 0 c8) 0 [] rfl (World.ownsRow.alloc r8 _) ⟨W7.heap.size, 0, none⟩ 1 1 [.string ⟨#[113]⟩, .int .i64 2] rfl rfl (cell_two_new _ _ _ _) ?o1 ?b1 ?b2 ?b3 ?_)
    case o1 => intro x hx; simp at hx; rcases hx with rfl | rfl <;> rfl
    case b1 => unfold maxLen; omega
    case b2 => omega
    case b3 => simp; omega
    intro v8 u8 own8 grow8 _ loc8
    obtain ⟨gg8, cc8, rfl, _⟩ := shape_of_owned own8 (by omega)
    have m8 := hPQ.Q.mid (f := 12) (by decide) (by decide) (tmp := .cells #[.string ⟨#[113]⟩, .int .i64 2] 38) (by rw [e8]; exact grow8)
    have a8 := cell_of_blk m8 12 ((upd (upd (upd (v0 k) 7 (.slice (some ⟨gg2, 0, none⟩) 1 cc2)) 10 (.slice (some ⟨gg4, 0, none⟩) 1 cc4)) 13 (.slice (some ⟨gg6, 0, none⟩) 1 cc6)) 12) rfl
    rw [e8] at a8
    have b8 := free_of_blk m8 12
    have PQ8 := (hPQ.symm.grown (f := 12) (by decide) (by decide) (.cells #[.string ⟨#[113]⟩, .int .i64 2] 38) (v' := .slice (some ⟨gg8, 0, none⟩) 1 cc8) (news := [.string ⟨#[113]⟩, .int .i64 2]) own8 rfl ⟨_, _, rfl⟩ (by rw [e8]; exact grow8) (by rw [e8]; simpa using loc8)).symm
    clear hPQ d8 r8 l8 e8 own8 grow8 loc8 m8
    have hPQ := PQ8
    clear PQ8
    generalize hw8 : u8.setCell ⟨q, 12, none⟩ (.slice (some ⟨gg8, 0, none⟩) 1 cc8) = W8 at hPQ
    have hPQ' := (hPQ.alloc (.cells #[.string ⟨#[112]⟩, .int .i64 0, .int .i64 0] 41)).alloc (.cells #[.string ⟨#[113]⟩, .int .i64 0, .int .i64 0] 41)
    clear hPQ
    have hPQ := hPQ'
    clear hPQ'
    generalize hwL : (W8.alloc (.cells #[.string ⟨#[112]⟩, .int .i64 0, .int .i64 0] 41)).alloc (.cells #[.string ⟨#[113]⟩, .int .i64 0, .int .i64 0] 41) = WL at hPQ
    obtain ⟨g9, n9, c9, e9, r9, l9⟩ := hPQ.P.row 11 (by decide) (by decide)
    have d9 := cell_of_blk hPQ.P.blk 11 ((upd (upd (upd (upd (v0 g) 7 (.slice (some ⟨gg1, 0, none⟩) 1 cc1)) 10 (.slice (some ⟨gg3, 0, none⟩) 1 cc3)) 13 (.slice (some ⟨gg5, 0, none⟩) 1 cc5)) 12 (.slice (some ⟨gg7, 0, none⟩) 1 cc7)) 11) rfl
    rw [e9] at d9 r9
    have z9 : n9 = 0 := by
      have h : n9 * 1 = 0 := l9
      omega
    subst z9
    have hsz9 := hPQ.turn.size
    go_wp2_with (at_builtin; refine wpList_append_own_at _ rfl _ _ 31 rfl w.heap.size 39 iL (.pointer none) 1 8 Try.underlying31 hL hL0 hL1 hL2 rfl (by decide) (.slice (some ⟨g9, 0, none⟩) 0 c9) 0 [] rfl (World.ownsRow.alloc r9 _) ⟨WL.heap.size, 0, none⟩ 1 1 [.pointer (some ⟨W8.heap.size, 0, none⟩)] rfl rfl (cell_one_new _ _ _) ?o1 ?b1 ?b2 ?b3 ?_)
    case o1 => intro x hx; simp at hx; subst hx; rfl
    case b1 => unfold maxLen; omega
    case b2 => omega
    case b3 => simp; omega
    intro v9 u9 own9 grow9 _ loc9
    obtain ⟨gg9, cc9, rfl, _⟩ := shape_of_owned own9 (by omega)
    have m9 := hPQ.P.mid (f := 11) (by decide) (by decide) (tmp := .cells #[.pointer (some ⟨W8.heap.size, 0, none⟩)] 39) (by rw [e9]; exact grow9)
    have a9 := cell_of_blk m9 11 ((upd (upd (upd (upd (v0 g) 7 (.slice (some ⟨gg1, 0, none⟩) 1 cc1)) 10 (.slice (some ⟨gg3, 0, none⟩) 1 cc3)) 13 (.slice (some ⟨gg5, 0, none⟩) 1 cc5)) 12 (.slice (some ⟨gg7, 0, none⟩) 1 cc7)) 11) rfl
    rw [e9] at a9
    have b9 := free_of_blk m9 11
    have PQ9 := (hPQ.grown (f := 11) (by decide) (by decide) (.cells #[.pointer (some ⟨W8.heap.size, 0, none⟩)] 39) (v' := .slice (some ⟨gg9, 0, none⟩) 1 cc9) (news := [.pointer (some ⟨W8.heap.size, 0, none⟩)]) own9 rfl ⟨_, _, rfl⟩ (by rw [e9]; exact grow9) (by rw [e9]; simpa using loc9))
    clear hPQ d9 r9 l9 e9 own9 grow9 loc9 m9
    have hPQ := PQ9
    clear PQ9
    generalize hw9 : u9.setCell ⟨p, 11, none⟩ (.slice (some ⟨gg9, 0, none⟩) 1 cc9) = W9 at hPQ
    obtain ⟨g10, n10, c10, e10, r10, l10⟩ := hPQ.Q.row 11 (by decide) (by decide)
    have d10 := cell_of_blk hPQ.Q.blk 11 ((upd (upd (upd (upd (v0 k) 7 (.slice (some ⟨gg2, 0, none⟩) 1 cc2)) 10 (.slice (some ⟨gg4, 0, none⟩) 1 cc4)) 13 (.slice (some ⟨gg6, 0, none⟩) 1 cc6)) 12 (.slice (some ⟨gg8, 0, none⟩) 1 cc8)) 11) rfl
    rw [e10] at d10 r10
    have z10 : n10 = 0 := by
      have h : n10 * 1 = 0 := l10
      omega
    subst z10
    have hsz10 := hPQ.turn.size
    go_wp2_with (at_builtin; refine wpList_append_own_at _ rfl _ _ 31 rfl w.heap.size 39 iL (.pointer none) 1 8 Try.underlying31 hL hL0 hL1 hL2 rfl (by decide) (.slice (some ⟨g10, 0, none⟩) 0 c10) 0 [] rfl (World.ownsRow.alloc r10 _) ⟨W9.heap.size, 0, none⟩ 1 1 [.pointer (some ⟨W8.heap.size + 1, 0, none⟩)] rfl rfl (cell_one_new _ _ _) ?o1 ?b1 ?b2 ?b3 ?_)
    case o1 => intro x hx; simp at hx; subst hx; rfl
    case b1 => unfold maxLen; omega
    case b2 => omega
    case b3 => simp; omega
    intro v10 u10 own10 grow10 _ loc10
    obtain ⟨gg10, cc10, rfl, _⟩ := shape_of_owned own10 (by omega)
    have m10 := hPQ.Q.mid (f := 11) (by decide) (by decide) (tmp := .cells #[.pointer (some ⟨W8.heap.size + 1, 0, none⟩)] 39) (by rw [e10]; exact grow10)
    have a10 := cell_of_blk m10 11 ((upd (upd (upd (upd (v0 k) 7 (.slice (some ⟨gg2, 0, none⟩) 1 cc2)) 10 (.slice (some ⟨gg4, 0, none⟩) 1 cc4)) 13 (.slice (some ⟨gg6, 0, none⟩) 1 cc6)) 12 (.slice (some ⟨gg8, 0, none⟩) 1 cc8)) 11) rfl
    rw [e10] at a10
    have b10 := free_of_blk m10 11
    have PQ10 := (hPQ.symm.grown (f := 11) (by decide) (by decide) (.cells #[.pointer (some ⟨W8.heap.size + 1, 0, none⟩)] 39) (v' := .slice (some ⟨gg10, 0, none⟩) 1 cc10) (news := [.pointer (some ⟨W8.heap.size + 1, 0, none⟩)]) own10 rfl ⟨_, _, rfl⟩ (by rw [e10]; exact grow10) (by rw [e10]; simpa using loc10)).symm
    clear hPQ d10 r10 l10 e10 own10 grow10 loc10 m10
    have hPQ := PQ10
    clear PQ10
    generalize hw10 : u10.setCell ⟨q, 11, none⟩ (.slice (some ⟨gg10, 0, none⟩) 1 cc10) = W10 at hPQ
    obtain ⟨g11, n11, c11, e11, r11, l11⟩ := hPQ.P.row 9 (by decide) (by decide)
    have d11 := cell_of_blk hPQ.P.blk 9 ((upd (upd (upd (upd (upd (v0 g) 7 (.slice (some ⟨gg1, 0, none⟩) 1 cc1)) 10 (.slice (some ⟨gg3, 0, none⟩) 1 cc3)) 13 (.slice (some ⟨gg5, 0, none⟩) 1 cc5)) 12 (.slice (some ⟨gg7, 0, none⟩) 1 cc7)) 11 (.slice (some ⟨gg9, 0, none⟩) 1 cc9)) 9) rfl
    rw [e11] at d11 r11
    have z11 : n11 = 0 := by
      have h : n11 * 1 = 0 := l11
      omega
    subst z11
    have hsz11 := hPQ.turn.size
    go_wp2_with (at_builtin; refine wpList_append_own_at _ rfl _ _ 29 rfl w.heap.size 25 iF (.pointer none) 1 8 Try.underlying29 hF hF0 hF1 hF2 rfl (by decide) (.slice (some ⟨g11, 0, none⟩) 0 c11) 0 [] rfl (World.ownsRow.alloc r11 _) ⟨W10.heap.size, 0, none⟩ 1 1 [.pointer (some ⟨p, 0, none⟩)] rfl rfl (cell_one_new _ _ _) ?o1 ?b1 ?b2 ?b3 ?_)
    case o1 => intro x hx; simp at hx; subst hx; rfl
    case b1 => unfold maxLen; omega
    case b2 => omega
    case b3 => simp; omega
    intro v11 u11 own11 grow11 _ loc11
    obtain ⟨gg11, cc11, rfl, _⟩ := shape_of_owned own11 (by omega)
    have m11 := hPQ.P.mid (f := 9) (by decide) (by decide) (tmp := .cells #[.pointer (some ⟨p, 0, none⟩)] 25) (by rw [e11]; exact grow11)
    have a11 := cell_of_blk m11 9 ((upd (upd (upd (upd (upd (v0 g) 7 (.slice (some ⟨gg1, 0, none⟩) 1 cc1)) 10 (.slice (some ⟨gg3, 0, none⟩) 1 cc3)) 13 (.slice (some ⟨gg5, 0, none⟩) 1 cc5)) 12 (.slice (some ⟨gg7, 0, none⟩) 1 cc7)) 11 (.slice (some ⟨gg9, 0, none⟩) 1 cc9)) 9) rfl
    rw [e11] at a11
    have b11 := free_of_blk m11 9
    have PQ11 := (hPQ.grown (f := 9) (by decide) (by decide) (.cells #[.pointer (some ⟨p, 0, none⟩)] 25) (v' := .slice (some ⟨gg11, 0, none⟩) 1 cc11) (news := [.pointer (some ⟨p, 0, none⟩)]) own11 rfl ⟨_, _, rfl⟩ (by rw [e11]; exact grow11) (by rw [e11]; simpa using loc11))
    clear hPQ d11 r11 l11 e11 own11 grow11 loc11 m11
    have hPQ := PQ11
    clear PQ11
    generalize hw11 : u11.setCell ⟨p, 9, none⟩ (.slice (some ⟨gg11, 0, none⟩) 1 cc11) = W11 at hPQ
    obtain ⟨g12, n12, c12, e12, r12, l12⟩ := hPQ.Q.row 9 (by decide) (by decide)
    have d12 := cell_of_blk hPQ.Q.blk 9 ((upd (upd (upd (upd (upd (v0 k) 7 (.slice (some ⟨gg2, 0, none⟩) 1 cc2)) 10 (.slice (some ⟨gg4, 0, none⟩) 1 cc4)) 13 (.slice (some ⟨gg6, 0, none⟩) 1 cc6)) 12 (.slice (some ⟨gg8, 0, none⟩) 1 cc8)) 11 (.slice (some ⟨gg10, 0, none⟩) 1 cc10)) 9) rfl
    rw [e12] at d12 r12
    have z12 : n12 = 0 := by
      have h : n12 * 1 = 0 := l12
      omega
    subst z12
    have hsz12 := hPQ.turn.size
    go_wp2_with (at_builtin; refine wpList_append_own_at _ rfl _ _ 29 rfl w.heap.size 25 iF (.pointer none) 1 8 Try.underlying29 hF hF0 hF1 hF2 rfl (by decide) (.slice (some ⟨g12, 0, none⟩) 0 c12) 0 [] rfl (World.ownsRow.alloc r12 _) ⟨W11.heap.size, 0, none⟩ 1 1 [.pointer (some ⟨q, 0, none⟩)] rfl rfl (cell_one_new _ _ _) ?o1 ?b1 ?b2 ?b3 ?_)
    case o1 => intro x hx; simp at hx; subst hx; rfl
    case b1 => unfold maxLen; omega
    case b2 => omega
    case b3 => simp; omega
    intro v12 u12 own12 grow12 _ loc12
    obtain ⟨gg12, cc12, rfl, _⟩ := shape_of_owned own12 (by omega)
    have m12 := hPQ.Q.mid (f := 9) (by decide) (by decide) (tmp := .cells #[.pointer (some ⟨q, 0, none⟩)] 25) (by rw [e12]; exact grow12)
    have a12 := cell_of_blk m12 9 ((upd (upd (upd (upd (upd (v0 k) 7 (.slice (some ⟨gg2, 0, none⟩) 1 cc2)) 10 (.slice (some ⟨gg4, 0, none⟩) 1 cc4)) 13 (.slice (some ⟨gg6, 0, none⟩) 1 cc6)) 12 (.slice (some ⟨gg8, 0, none⟩) 1 cc8)) 11 (.slice (some ⟨gg10, 0, none⟩) 1 cc10)) 9) rfl
    rw [e12] at a12
    have b12 := free_of_blk m12 9
    have PQ12 := (hPQ.symm.grown (f := 9) (by decide) (by decide) (.cells #[.pointer (some ⟨q, 0, none⟩)] 25) (v' := .slice (some ⟨gg12, 0, none⟩) 1 cc12) (news := [.pointer (some ⟨q, 0, none⟩)]) own12 rfl ⟨_, _, rfl⟩ (by rw [e12]; exact grow12) (by rw [e12]; simpa using loc12)).symm
    clear hPQ d12 r12 l12 e12 own12 grow12 loc12 m12
    have hPQ := PQ12
    clear PQ12
    generalize hw12 : u12.setCell ⟨q, 9, none⟩ (.slice (some ⟨gg12, 0, none⟩) 1 cc12) = W12 at hPQ
    obtain ⟨g13, n13, c13, e13, r13, l13⟩ := hPQ.P.row 14 (by decide) (by decide)
    have d13 := cell_of_blk hPQ.P.blk 14 ((upd (upd (upd (upd (upd (upd (v0 g) 7 (.slice (some ⟨gg1, 0, none⟩) 1 cc1)) 10 (.slice (some ⟨gg3, 0, none⟩) 1 cc3)) 13 (.slice (some ⟨gg5, 0, none⟩) 1 cc5)) 12 (.slice (some ⟨gg7, 0, none⟩) 1 cc7)) 11 (.slice (some ⟨gg9, 0, none⟩) 1 cc9)) 9 (.slice (some ⟨gg11, 0, none⟩) 1 cc11)) 14) rfl
    rw [e13] at d13 r13
    have z13 : n13 = 0 := by
      have h : n13 * 1 = 0 := l13
      omega
    subst z13
    have hsz13 := hPQ.turn.size
    go_wp2_with fail
    refine (ZZget_any p _ _ d13).mono ?_
    rintro e w' ⟨rfl, rfl⟩
    go_wp2_with (at_builtin; refine wpList_append_own_at _ rfl _ _ 33 rfl w.heap.size 9 iS (.string ByteArray.empty) 1 16 Try.underlying33 hS hS0 hS1 hS2 rfl (by decide) (.slice (some ⟨g13, 0, none⟩) 0 c13) 0 [] rfl (World.ownsRow.alloc r13 _) ⟨W12.heap.size, 0, none⟩ 1 1 [.string ⟨#[112]⟩] rfl rfl (cell_one_new _ _ _) ?o1 ?b1 ?b2 ?b3 ?_)
    case o1 => intro x hx; simp at hx; subst hx; rfl
    case b1 => unfold maxLen; omega
    case b2 => omega
    case b3 => simp; omega
    intro v13 u13 own13 grow13 _ loc13
    obtain ⟨gg13, cc13, rfl, _⟩ := shape_of_owned own13 (by omega)
    have m13 := hPQ.P.mid (f := 14) (by decide) (by decide) (tmp := .cells #[.string ⟨#[112]⟩] 9) (by rw [e13]; exact grow13)
    have a13 := cell_of_blk m13 14 ((upd (upd (upd (upd (upd (upd (v0 g) 7 (.slice (some ⟨gg1, 0, none⟩) 1 cc1)) 10 (.slice (some ⟨gg3, 0, none⟩) 1 cc3)) 13 (.slice (some ⟨gg5, 0, none⟩) 1 cc5)) 12 (.slice (some ⟨gg7, 0, none⟩) 1 cc7)) 11 (.slice (some ⟨gg9, 0, none⟩) 1 cc9)) 9 (.slice (some ⟨gg11, 0, none⟩) 1 cc11)) 14) rfl
    rw [e13] at a13
    have b13 := free_of_blk m13 14
    have PQ13 := (hPQ.grown (f := 14) (by decide) (by decide) (.cells #[.string ⟨#[112]⟩] 9) (v' := .slice (some ⟨gg13, 0, none⟩) 1 cc13) (news := [.string ⟨#[112]⟩]) own13 rfl ⟨_, _, rfl⟩ (by rw [e13]; exact grow13) (by rw [e13]; simpa using loc13))
    clear hPQ d13 r13 l13 e13 own13 grow13 loc13 m13
    have hPQ := PQ13
    clear PQ13
    go_wp2_with fail
    refine (ZZset_any p _ gg13 1 cc13 _ a13 b13).mono ?_
    rintro e W13 ⟨rfl, hw13⟩
    rw [hw13] at hPQ
    clear hw13 a13 b13
    obtain ⟨g14, n14, c14, e14, r14, l14⟩ := hPQ.Q.row 14 (by decide) (by decide)
    have d14 := cell_of_blk hPQ.Q.blk 14 ((upd (upd (upd (upd (upd (upd (v0 k) 7 (.slice (some ⟨gg2, 0, none⟩) 1 cc2)) 10 (.slice (some ⟨gg4, 0, none⟩) 1 cc4)) 13 (.slice (some ⟨gg6, 0, none⟩) 1 cc6)) 12 (.slice (some ⟨gg8, 0, none⟩) 1 cc8)) 11 (.slice (some ⟨gg10, 0, none⟩) 1 cc10)) 9 (.slice (some ⟨gg12, 0, none⟩) 1 cc12)) 14) rfl
    rw [e14] at d14 r14
    have z14 : n14 = 0 := by
      have h : n14 * 1 = 0 := l14
      omega
    subst z14
    have hsz14 := hPQ.turn.size
    go_wp2_with fail
    refine (ZZget_any q _ _ d14).mono ?_
    rintro e w' ⟨rfl, rfl⟩
    go_wp2_with (at_builtin; refine wpList_append_own_at _ rfl _ _ 33 rfl w.heap.size 9 iS (.string ByteArray.empty) 1 16 Try.underlying33 hS hS0 hS1 hS2 rfl (by decide) (.slice (some ⟨g14, 0, none⟩) 0 c14) 0 [] rfl (World.ownsRow.alloc r14 _) ⟨W13.heap.size, 0, none⟩ 1 1 [.string ⟨#[113]⟩] rfl rfl (cell_one_new _ _ _) ?o1 ?b1 ?b2 ?b3 ?_)
    case o1 => intro x hx; simp at hx; subst hx; rfl
    case b1 => unfold maxLen; omega
    case b2 => omega
    case b3 => simp; omega
    intro v14 u14 own14 grow14 _ loc14
    obtain ⟨gg14, cc14, rfl, _⟩ := shape_of_owned own14 (by omega)
    have m14 := hPQ.Q.mid (f := 14) (by decide) (by decide) (tmp := .cells #[.string ⟨#[113]⟩] 9) (by rw [e14]; exact grow14)
    have a14 := cell_of_blk m14 14 ((upd (upd (upd (upd (upd (upd (v0 k) 7 (.slice (some ⟨gg2, 0, none⟩) 1 cc2)) 10 (.slice (some ⟨gg4, 0, none⟩) 1 cc4)) 13 (.slice (some ⟨gg6, 0, none⟩) 1 cc6)) 12 (.slice (some ⟨gg8, 0, none⟩) 1 cc8)) 11 (.slice (some ⟨gg10, 0, none⟩) 1 cc10)) 9 (.slice (some ⟨gg12, 0, none⟩) 1 cc12)) 14) rfl
    rw [e14] at a14
    have b14 := free_of_blk m14 14
    have PQ14 := (hPQ.symm.grown (f := 14) (by decide) (by decide) (.cells #[.string ⟨#[113]⟩] 9) (v' := .slice (some ⟨gg14, 0, none⟩) 1 cc14) (news := [.string ⟨#[113]⟩]) own14 rfl ⟨_, _, rfl⟩ (by rw [e14]; exact grow14) (by rw [e14]; simpa using loc14)).symm
    clear hPQ d14 r14 l14 e14 own14 grow14 loc14 m14
    have hPQ := PQ14
    clear PQ14
    go_wp2_with fail
    refine (ZZset_any q _ gg14 1 cc14 _ a14 b14).mono ?_
    rintro e W14 ⟨rfl, hw14⟩
    rw [hw14] at hPQ
    clear hw14 a14 b14
    have rcP7 := cell_of_blk hPQ.P.blk 7 (.slice (some ⟨gg1, 0, none⟩) 1 cc1) rfl
    have rxP7 := hPQ.P.read 7 gg1 cc1 (.int .u32 7) (by decide) (by decide) rfl rfl (by decide)
    have rcQ7 := cell_of_blk hPQ.Q.blk 7 (.slice (some ⟨gg2, 0, none⟩) 1 cc2) rfl
    have rxQ7 := hPQ.Q.read 7 gg2 cc2 (.int .u32 9) (by decide) (by decide) rfl rfl (by decide)
    have rcP10 := cell_of_blk hPQ.P.blk 10 (.slice (some ⟨gg3, 0, none⟩) 1 cc3) rfl
    have rxP10 := hPQ.P.read 10 gg3 cc3 (.int .i64 1) (by decide) (by decide) rfl rfl (by decide)
    have rcQ10 := cell_of_blk hPQ.Q.blk 10 (.slice (some ⟨gg4, 0, none⟩) 1 cc4) rfl
    have rxQ10 := hPQ.Q.read 10 gg4 cc4 (.int .i64 2) (by decide) (by decide) rfl rfl (by decide)
    have rcP13 := cell_of_blk hPQ.P.blk 13 (.slice (some ⟨gg5, 0, none⟩) 1 cc5) rfl
    have rxP13 := hPQ.P.read 13 gg5 cc5 (.string ⟨#[112]⟩) (by decide) (by decide) rfl rfl (by decide)
    have rcQ13 := cell_of_blk hPQ.Q.blk 13 (.slice (some ⟨gg6, 0, none⟩) 1 cc6) rfl
    have rxQ13 := hPQ.Q.read 13 gg6 cc6 (.string ⟨#[113]⟩) (by decide) (by decide) rfl rfl (by decide)
    have rcP12 := cell_of_blk hPQ.P.blk 12 (.slice (some ⟨gg7, 0, none⟩) 1 cc7) rfl
    have rxP12 := hPQ.P.read 12 gg7 cc7 (.string ⟨#[112]⟩) (by decide) (by decide) rfl rfl (by decide)
    have rcQ12 := cell_of_blk hPQ.Q.blk 12 (.slice (some ⟨gg8, 0, none⟩) 1 cc8) rfl
    have rxQ12 := hPQ.Q.read 12 gg8 cc8 (.string ⟨#[113]⟩) (by decide) (by decide) rfl rfl (by decide)
    have rcP11 := cell_of_blk hPQ.P.blk 11 (.slice (some ⟨gg9, 0, none⟩) 1 cc9) rfl
    have rxP11 := hPQ.P.read 11 gg9 cc9 (.pointer (some ⟨W8.heap.size, 0, none⟩)) (by decide) (by decide) rfl rfl (by decide)
    have rcQ11 := cell_of_blk hPQ.Q.blk 11 (.slice (some ⟨gg10, 0, none⟩) 1 cc10) rfl
    have rxQ11 := hPQ.Q.read 11 gg10 cc10 (.pointer (some ⟨W8.heap.size + 1, 0, none⟩)) (by decide) (by decide) rfl rfl (by decide)
    have rcP9 := cell_of_blk hPQ.P.blk 9 (.slice (some ⟨gg11, 0, none⟩) 1 cc11) rfl
    have rxP9 := hPQ.P.read 9 gg11 cc11 (.pointer (some ⟨p, 0, none⟩)) (by decide) (by decide) rfl rfl (by decide)
    have rcQ9 := cell_of_blk hPQ.Q.blk 9 (.slice (some ⟨gg12, 0, none⟩) 1 cc12) rfl
    have rxQ9 := hPQ.Q.read 9 gg12 cc12 (.pointer (some ⟨q, 0, none⟩)) (by decide) (by decide) rfl rfl (by decide)
    have rcP14 := cell_of_blk hPQ.P.blk 14 (.slice (some ⟨gg13, 0, none⟩) 1 cc13) rfl
    have rxP14 := hPQ.P.read 14 gg13 cc13 (.string ⟨#[112]⟩) (by decide) (by decide) rfl rfl (by decide)
    have rcQ14 := cell_of_blk hPQ.Q.blk 14 (.slice (some ⟨gg14, 0, none⟩) 1 cc14) rfl
    have rxQ14 := hPQ.Q.read 14 gg14 cc14 (.string ⟨#[113]⟩) (by decide) (by decide) rfl rfl (by decide)
    have rcP0 := cell_of_blk hPQ.P.blk 0 (.string a) rfl
    have rcQ0 := cell_of_blk hPQ.Q.blk 0 (.string b) rfl
    have hbel := hPQ.turn.below (Nat.le_refl _) (fun _ h => h.elim)
    clear hPQ heq
    go_wp2_with fail
    refine (ZZget_any p _ _ rcP14).mono ?_
    rintro e w' ⟨rfl, rfl⟩
    go_wp2_with fail
    refine (ZZget_any q _ _ rcQ14).mono ?_
    rintro e w' ⟨rfl, rfl⟩
    go_wp2
    go_ret
    exact ⟨rfl, hbel⟩
end Go.Proofs.Ytdljljnjijkbjaa
