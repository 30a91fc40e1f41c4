/- zzAddDistinct's contract: which labels a block then holds. -/
import Derived.Test.YtdhmpfijdmlfoaaFmtKept136
namespace Go.Proofs.YtdhmpfijdmlfoaaFmt
open Go.RowKit Go.Maps
set_option linter.unusedVariables false

theorem infoPtr : (Tryf.prog.info? 27).map (fun i => (i.zero, i.size, i.bytes)) = some (some (.pointer none), 1, 8) := by kernel_rfl

/-- where each kept label comes from -/
structure From (names : List ByteArray) (ids pcs ns : List Int) (k : Nat) (K : List Lab) : Prop where
  src : ∀ j, j < K.length → ∃ i, i < k ∧ (∀ t, t < i → names.getD t ByteArray.empty ≠ names.getD i ByteArray.empty) ∧ (K.getD j Lab.zero).name = names.getD i ByteArray.empty ∧ (K.getD j Lab.zero).id = ids.getD i 0 ∧ (K.getD j Lab.zero).pc = pcs.getD i 0 ∧ (K.getD j Lab.zero).n = ns.getD i 0
  all : ∀ i, i < k → ∃ j, j < K.length ∧ (K.getD j Lab.zero).name = names.getD i ByteArray.empty
  len : K.length ≤ k

theorem From.skip {names : List ByteArray} {ids pcs ns : List Int} {k : Nat} {K : List Lab} (h : From names ids pcs ns k K) {j : Nat} (hj : j < K.length) (he : (K.getD j Lab.zero).name = names.getD k ByteArray.empty) : From names ids pcs ns (k + 1) K := by
  refine ⟨?_, ?_, by have := h.len; omega⟩
  · intro j hj
    obtain ⟨i, h1, h2⟩ := h.src j hj
    exact ⟨i, by omega, h2⟩
  · intro i hi
    by_cases e : i < k
    · exact h.all i e
    · have : i = k := by omega
      subst this
      exact ⟨j, hj, he⟩

theorem From.push {names : List ByteArray} {ids pcs ns : List Int} {k : Nat} {K : List Lab} (h : From names ids pcs ns k K) (hn : ∀ j, j < K.length → (K.getD j Lab.zero).name ≠ names.getD k ByteArray.empty) (b : Nat) (ln : Int) :
    From names ids pcs ns (k + 1) (K ++ [⟨b, names.getD k ByteArray.empty, ids.getD k 0, pcs.getD k 0, ln, ns.getD k 0⟩]) := by
  refine ⟨?_, ?_, by have := h.len; simp; omega⟩
  · intro j hj
    by_cases e : j < K.length
    · obtain ⟨i, h1, h2⟩ := h.src j e
      rw [getD_push_old e]
      exact ⟨i, by omega, h2⟩
    · have e' : j = K.length := by simp at hj; omega
      subst e'
      rw [getD_push_new]
      refine ⟨k, by omega, ?_, rfl, rfl, rfl, rfl⟩
      intro t ht he
      obtain ⟨j, hj, hje⟩ := h.all t ht
      exact hn j hj (by rw [hje, he])
  · intro i hi
    by_cases e : i < k
    · obtain ⟨j, hj, he⟩ := h.all i e
      exact ⟨j, by simp; omega, by rw [getD_push_old hj]; exact he⟩
    · have : i = k := by omega
      subst this
      exact ⟨K.length, by simp, by rw [getD_push_new]⟩

/-- the labels K of a slice g, in a context -/
structure Dist (w0 wr : World) (β fc : Nat) (F : FcAt) (gb : Value × Option Addr) (gc cc gl cl : Nat) (is ls : List Int) (cnt : Int) (up : Bool) (D2 : DataW Unit) (n2 : Nat) (g cap : Nat) (K : List Lab) (DL D1 : DataW Unit) (nL n1 : Nat) : Prop where
  ctx : Ctx wr β fc F gb gc cc gl cl is ls cnt up DL D1 D2 nL n1 n2
  row : wr.ownsRow w0.heap.size 27 1 (.slice (some ⟨g, 0, none⟩) K.length cap) K.length (K.map Lab.ptr)
  labs : LabsAt wr K
  look : Look DL K
  pcs : Pcs D1 K
  dist : Distinct K
  turn : Turn w0 wr (fun x => x = F.b ∨ x = F.M1)

def Dists (names : List ByteArray) (ids pcs ns : List Int) (m : Nat) (w0 : World) (β fc : Nat) (F : FcAt) (gb : Value × Option Addr) (gc cc gl cl : Nat) (is ls : List Int) (cnt : Int) (up : Bool) (D2 : DataW Unit) (nL0 n10 n2 : Nat) (e : Ending) (wr : World) : Prop :=
  ∃ g cap K DL D1 nL n1, e = .returned (.slice (some ⟨g, 0, none⟩) K.length cap) ∧ Dist w0 wr β fc F gb gc cc gl cl is ls cnt up D2 n2 g cap K DL D1 nL n1 ∧ From names ids pcs ns m K ∧ nL ≤ nL0 + m ∧ n1 ≤ n10 + m

theorem getD_wf {L : List Int} (h : ∀ n ∈ L, (Lit.int .i64 n).wf = true) (k : Nat) : (Lit.int .i64 (L.getD k 0)).wf = true := by
  by_cases e : k < L.length
  · exact h _ (by simp [List.getD, e])
  · rw [show L.getD k 0 = 0 from by simp [List.getD, Nat.le_of_not_lt e]]
    decide

theorem still_of {f : FuncId} {args : Array Value} {w : World} {v : Value} (h : Calls Tryf.prog f args w fun e w' => e = .returned v ∧ w = w') : Calls Tryf.prog f args w fun e w'' => e = .returned v ∧ w'' = w :=
  h.mono fun _ _ ⟨he, hm⟩ => ⟨he, hm.symm⟩

/-- a cell lies in no map -/
theorem cell_no_map {w : World} {p : Addr} {v : Value} {b : Nat} {es : Array MapEntry} {cl : Nat} (h : w.cell? p = some v) (hb : w.heap[b]? = some (.map es cl)) : ¬ p.block = b := by
  rintro rfl
  simp [World.cell?, hb] at h
theorem Ctx.maps {w : World} {β fc : Nat} {F : FcAt} {gb : Value × Option Addr} {gc cc gl cl : Nat} {is ls : List Int} {cnt : Int} {up : Bool} {DL D1 D2 : DataW Unit} {nL n1 n2 : Nat} (h : Ctx w β fc F gb gc cc gl cl is ls cnt up DL D1 D2 nL n1 n2) (p : Addr) (v : Value) (hc : w.cell? p = some v) : ¬ (p.block = F.b ∨ p.block = F.M1) := by
  obtain ⟨_, _, q1, _⟩ := h.ownL
  obtain ⟨_, _, q2, _⟩ := h.own1
  exact fun e => e.elim (cell_no_map hc q1) (cell_no_map hc q2)

set_option maxRecDepth 100000 in
set_option maxHeartbeats 4000000 in
theorem addDistinct_any (β fc : Nat) (F : FcAt) (gb : Value × Option Addr) (gc cc gl cl : Nat) (is ls : List Int) (cnt : Int) (up : Bool) (DL D1 D2 : DataW Unit) (nL n1 n2 : Nat) (na : Option Addr) (nc : Nat) (names : List ByteArray) (ia : Option Addr) (ic : Nat) (ids : List Int) (pa : Option Addr) (pc : Nat) (pcs : List Int) (sa : Option Addr) (sc : Nat) (ns : List Int) (m : Nat)
    (w : World) (hC : Ctx w β fc F gb gc cc gl cl is ls cnt up DL D1 D2 nL n1 n2) (hD : ∀ s, Maps.has DL (kS s) = false) (hβ : β ≤ w.heap.size) (Sn : Strs w na names) (Si : Ints .i64 w ia ids) (Sp : Ints .i64 w pa pcs) (Ss : Ints .i64 w sa ns) (hm : m ≤ names.length) (h1 : names.length ≤ 4096) (h2 : ids.length ≤ 4096) (h3 : pcs.length ≤ 4096) (h4 : ns.length ≤ 4096) (hnL : nL ≤ 65536) (hn1 : n1 ≤ 65536)
    (hz : ∀ s ∈ names, s.size ≤ maxLen) (hzi : ∀ n ∈ ids, (Lit.int .i64 n).wf = true) (hzp : ∀ n ∈ pcs, (Lit.int .i64 n).wf = true) :
    Calls Tryf.prog 23 #[.pointer (some ⟨fc, 0, none⟩), .slice na names.length nc, .slice ia ids.length ic, .slice pa pcs.length pc, .slice sa ns.length sc, .int .i64 m] w
      (Dists names ids pcs ns m w β fc F gb gc cc gl cl is ls cnt up D2 nL n1 n2) := by
  obtain ⟨i0, hi, hz0, hz1, hz2⟩ := info_parts infoPtr
  have hCl := hC.lt
  have hMap := hC.maps
  go_enter Tryf.func23, Tryf.ntmps23
  go_wp2_with (at_make; refine wpList_make_own _ rfl _ _ 52 rfl w.heap.size 27 i0 (.pointer none) 1 Tryf.underlying52 hi hz0 hz1 .i64 .i64 _ m rfl rfl rfl ?c2 ?c3 (Nat.le_refl _) ?_)
  case c2 => rw [hz2]; omega
  case c3 => unfold maxLen; omega
  intro w1 hown hgrow
  have hT1 : Turn w w1 (fun x => x = F.b ∨ x = F.M1) := (Turn.refl w _).grown hgrow (fun k hk _ => by cases hk)
  have hC1 := hC.same ((Turn.refl w (fun _ => False)).grown hgrow (fun k hk _ => by cases hk))
  have hDist : Dist w w1 β fc F gb gc cc gl cl is ls cnt up D2 n2 w.heap.size m [] DL D1 nL n1 :=
    ⟨hC1, hown, fun j hj => absurd hj (by simp), ⟨fun s _ => hD s, fun j hj => absurd hj (by simp)⟩, fun j hj => absurd hj (by simp), fun i j hi => absurd hi (by simp), hT1⟩
  have hFrom : From names ids pcs ns 0 [] := ⟨fun j hj => absurd hj (by simp), fun i hi => absurd hi (by omega), Nat.le_refl _⟩
  clear hown hgrow hT1 hC1 hD hC
  go_wp2
  go_loopw [13, 14] (fun v i wr => ∃ (k g cap : Nat) (K : List Lab) (DL D1 : DataW Unit) (nL' n1' : Nat), k ≤ m ∧ i = .int .i64 k ∧ v = .slice (some ⟨g, 0, none⟩) K.length cap ∧ Dist w wr β fc F gb gc cc gl cl is ls cnt up D2 n2 g cap K DL D1 nL' n1' ∧ From names ids pcs ns k K ∧ nL' ≤ nL + k ∧ n1' ≤ n1 + k) (fun _ i _ => m - (intOf i).toNat)
  case atStart => exact ⟨0, w.heap.size, m, [], DL, D1, nL, n1, Nat.zero_le _, rfl, rfl, hDist, hFrom, Nat.le_refl _, Nat.le_refl _⟩
  case round =>
    clear hDist hFrom
    obtain ⟨k, g, cap, K, DL, D1, nL', n1', hk, rfl, rfl, hDist, hFrom, hnL', hn1'⟩ := hrel
    by_cases hlt : k < m
    · have strs : ∀ (X : Option Addr) (L : List ByteArray), Strs w X L → Strs wr X L := by
        intro X L S t ht
        obtain ⟨b, of, rfl, hc⟩ := S t ht
        exact ⟨b, of, rfl, hDist.turn.cell hc (hMap _ _ hc)⟩
      have ints : ∀ (X : Option Addr) (L : List Int), Ints .i64 w X L → Ints .i64 wr X L := by
        intro X L S t ht
        obtain ⟨b, of, rfl, hc⟩ := S t ht
        exact ⟨b, of, rfl, hDist.turn.cell hc (hMap _ _ hc)⟩
      have Sn1 := strs na names Sn
      have Si1 := ints ia ids Si
      have Sp1 := ints pa pcs Sp
      have Ss1 := ints sa ns Ss
      clear strs ints hMap Sn Si Sp Ss
      obtain ⟨bn, of, rfl, hc⟩ := Sn1 k (by omega)
      generalize hs : names.getD k ByteArray.empty = s at hc
      have hsz : s.size ≤ maxLen := hz s (by rw [← hs]; simp [List.getD, show k < names.length from by omega])
      have HS := Lib.hid hs
      have HF := Lib.hid hFrom
      have hKl := hFrom.len
      have hkn : k < names.length := by omega
      clear hs hFrom Sn1
      go_wp2_with fail
      refine (findByName_any w.heap.size g cap K s _ hDist.row hDist.labs (by omega)).mono ?_
      rintro e w' ⟨v, rfl, hv, rfl⟩
      rcases hv with ⟨hn, rfl⟩ | ⟨j, hj, hjn, _, rfl⟩
      · have HN := Lib.hid hn
        have HD := Lib.hid hDist
        clear hn hDist
        go_wp2_with fail
        have A1 := still_of (zzAt_any ia ic ids k wr.drew Si1 (by omega))
        have A2 := still_of (zzAt_any pa pc pcs k wr.drew Sp1 (by omega))
        have A3 := still_of (zzAt_any sa sc ns k wr.drew Ss1 (by omega))
        have wi : (Lit.int .i64 (ids.getD k 0)).wf = true := getD_wf hzi k
        have wp : (Lit.int .i64 (pcs.getD k 0)).wf = true := getD_wf hzp k
        obtain ⟨x1, hx1⟩ : ∃ x, x = ids.getD k 0 := ⟨_, rfl⟩
        obtain ⟨x2, hx2⟩ : ∃ x, x = pcs.getD k 0 := ⟨_, rfl⟩
        obtain ⟨x3, hx3⟩ : ∃ x, x = ns.getD k 0 := ⟨_, rfl⟩
        rw [← hx1] at A1 wi
        rw [← hx2] at A2 wp
        rw [← hx3] at A3
        have X1 := Lib.hid hx1
        have X2 := Lib.hid hx2
        have X3 := Lib.hid hx3
        clear hx1 hx2 hx3 Si1 Sp1 Ss1
        go_still_tail 15, (by kernel_rfl)
        still_call A1
        repeat still_step
        still_call A2
        repeat still_step
        still_call A3
        repeat still_step
        refine wpStill_nil ?_
        clear A1 A2 A3
        have hD0 := HD.out
        obtain ⟨O, hO⟩ : ∃ O, O = Obj.cells #[.int .i64 x1, .string s, .int .i64 x2, .int .i64 k, .int .i64 x3] 29 := ⟨_, rfl⟩
        have TA : Turn wr (wr.alloc O).drew (fun _ => False) := ((Turn.refl wr (fun _ => False)).alloc O).drew
        have hl : (wr.alloc O).drew.heap[wr.heap.size]? = some O := alloc_blk wr O
        rw [hO] at hl TA
        clear hO O
        have hCa := hD0.ctx.same TA
        go_wp2_with fail
        refine (ZZaddNamed_any β fc F gb gc cc gl cl is ls cnt up DL D1 D2 nL' n1' n2 wr.heap.size s x1 x2 k x3 _ hCa hsz wi wp hl (hD0.look.none s HN.out) (by unfold maxLen; omega) (by unfold maxLen; omega)).mono ?_
        rintro e w2 ⟨rfl, hC2, hT2⟩
        have hTn := (TA.mono (G := fun x => x = F.b ∨ x = F.M1) (fun _ _ h => h.elim)).trans hT2
        have hTw := hD0.turn.trans' hTn (fun _ _ h => h)
        obtain ⟨q1, q2, q3, _⟩ := hD0.ctx.ownL
        obtain ⟨r1, r2, r3, _⟩ := hD0.ctx.own1
        have nlab : ∀ (b : Nat) (X : Array Value) (t : TypeId), wr.heap[b]? = some (.cells X t (0, 0)) → ¬ (b = F.b ∨ b = F.M1) := by
          intro b X t hb h
          rcases h with h | h
          · exact blocks_ne hb q3 (by simp) h
          · exact blocks_ne hb r3 (by simp) h
        obtain ⟨cu, hcu⟩ := owned_elem hD0.row
        have row2 := hTn.ownsRow hD0.row (fun x hx => by cases hx; exact nlab _ _ _ hcu)
        have labs2 := hD0.labs.kept hTn (fun j hj => nlab _ _ _ (hD0.labs j hj))
        have hl2 : w2.heap[wr.heap.size]? = some (.cells (Lab.cells ⟨wr.heap.size, s, x1, x2, k, x3⟩) 29 (0, 0)) := hT2.heap hl (by
          intro h
          have h1 := lt_of_block q3
          have h2 := lt_of_block r3
          omega)
        have labs3 := labs2.push (l := ⟨wr.heap.size, s, x1, x2, k, x3⟩) hl2
        have look3 : Look (DL.put (kS s) (.lit (.int .i64 wr.heap.size))) (K ++ [⟨wr.heap.size, s, x1, x2, k, x3⟩]) := hD0.look.push (l := ⟨wr.heap.size, s, x1, x2, k, x3⟩) hD0.ctx.ownL.isMap HN.out
        have pcs3 : Pcs (D1.put (kI x1) (.lit (.int .i64 x2))) (K ++ [⟨wr.heap.size, s, x1, x2, k, x3⟩]) := hD0.pcs.push (l := ⟨wr.heap.size, s, x1, x2, k, x3⟩) hD0.ctx.own1.isMap
        have dist3 : Distinct (K ++ [⟨wr.heap.size, s, x1, x2, k, x3⟩]) := hD0.dist.push (l := ⟨wr.heap.size, s, x1, x2, k, x3⟩) HN.out
        have from3 : From names ids pcs ns (k + 1) (K ++ [⟨wr.heap.size, s, x1, x2, k, x3⟩]) := by
          have := HF.out.push (by rw [HS.out]; exact HN.out) wr.heap.size k
          rw [HS.out, ← X1.out, ← X2.out, ← X3.out] at this
          exact this
        have hrow : (K.map Lab.ptr ++ [Value.pointer (some ⟨wr.heap.size, 0, none⟩)]) = (K ++ [(⟨wr.heap.size, s, x1, x2, k, x3⟩ : Lab)]).map Lab.ptr := by simp [Lab.ptr]
        have P1 := Lib.hid labs3
        have P2 := Lib.hid look3
        have P3 := Lib.hid pcs3
        have P4 := Lib.hid dist3
        have P5 := Lib.hid from3
        have P6 := Lib.hid hrow
        have P7 := Lib.hid hC2
        have P8 := Lib.hid hTw
        have hge2 : w.heap.size ≤ w2.heap.size := hTw.size
        clear HD hD0 labs2 labs3 look3 pcs3 dist3 from3 hrow nlab hcu q3 r3 hTn hl2 hl hC2 hTw TA hT2 hc HN HF HS X1 X2 X3 hCa
        go_wp2_with (at_builtin; refine wpList_append_own_at _ rfl _ _ 52 rfl w.heap.size 27 i0 (.pointer none) 1 8 Tryf.underlying52 hi hz0 hz1 hz2 rfl (by decide) (.slice (some ⟨g, 0, none⟩) K.length cap) K.length _ rfl (row2.alloc _) ⟨w2.heap.size, 0, none⟩ 1 1 [.pointer (some ⟨wr.heap.size, 0, none⟩)] rfl rfl ?c1 ?c2 ?c3 ?c4 ?c5 ?_)
        case c1 => exact cell_one_new _ _ _
        case c2 => intro u hu; simp at hu; subst hu; rfl
        case c3 => unfold maxLen; omega
        case c4 => omega
        case c5 => simp; omega
        intro v1 w3 hown hgrow _ hloc
        obtain ⟨g', cap', rfl, hg'⟩ := shape_of_owned hown (by omega)
        have T3 : Turn w2 w3 (fun b => b = g) := ((Turn.refl w2 _).alloc _).grown hgrow (fun k hk _ => by cases hk; rfl)
        obtain ⟨cu2, hcu2⟩ := owned_elem row2
        have hgw : w.heap.size ≤ g := (row2.lt _ rfl).1
        have Q1 := Lib.hid (P7.out.kept T3 (hCl.mono (fun x (hx : x < w.heap.size) (h : x = g) => by omega)))
        have Q2 := Lib.hid (P1.out.kept T3 (fun j hj => blocks_ne (P1.out j hj) hcu2 (by simp)))
        have Q3 := Lib.hid (P8.out.trans' T3 (fun j hj (h : j = g) => by omega))
        rw [P6.out] at hown
        have hlen : (K ++ [(⟨wr.heap.size, s, x1, x2, k, x3⟩ : Lab)]).length = K.length + 1 := by simp
        have hD3 : Dist w w3 β fc F gb gc cc gl cl is ls cnt up D2 n2 g' cap' (K ++ [⟨wr.heap.size, s, x1, x2, k, x3⟩]) _ _ _ _ :=
          ⟨Q1.out, by rw [hlen]; exact hown, Q2.out, P2.out, P3.out, P4.out, Q3.out⟩
        have HD3 := Lib.hid hD3
        have HL := Lib.hid hlen
        clear hD3 hlen hown hgrow hloc T3 hcu2 row2 Q1 Q2 Q3 P1 P2 P3 P4 P6 P7 P8
        go_wp2
        go_roundw
        case rel => exact ⟨k + 1, g', cap', _, _, _, _, _, by omega, by go_num, by rw [HL.out], HD3.out, P5.out, by omega, by omega⟩
        case measure => simp [intOf]; omega
      · go_wp2
        go_roundw
        case rel => exact ⟨k + 1, g, cap, K, DL, D1, nL', n1', by omega, by go_num, rfl, hDist, HF.out.skip hj (by rw [hjn, HS.out]), by omega, by omega⟩
        case measure => simp [intOf]; omega
    · have he : k = m := by omega
      subst he
      clear hlt
      go_wp2
      go_ret
      exact ⟨g, cap, K, DL, D1, nL', n1', rfl, hDist, hFrom, hnL', hn1'⟩
end Go.Proofs.YtdhmpfijdmlfoaaFmt
