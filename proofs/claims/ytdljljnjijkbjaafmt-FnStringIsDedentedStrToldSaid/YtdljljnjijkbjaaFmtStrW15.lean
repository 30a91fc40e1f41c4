/- FunctionProto.str's contract at a prototype without constants and code: the text that it gives. Printed by wip/genStr.py. -/
import Derived.Test.YtdljljnjijkbjaaFmtStrA15
import Derived.Test.YtdljljnjijkbjaaFmtDrawnEndC
namespace Go.Proofs.YtdljljnjijkbjaaFmt
open Go.RowKit Go.Kit Go.Extern.Stop Go.Stop Go.Extern
set_option linter.unusedVariables false

/-- what str reads of a prototype -/
structure Pr (w : World) (p : Nat) (nu np nr : Int) (la : Option Addr) (lc : Nat) (lb : List Nat) (ls : List ByteArray) (ua : Option Addr) (uc : Nat) (us : List ByteArray) (ca : Option Addr) (cc : Nat) (da : Option Addr) (dc : Nat) : Prop where
  c3 : w.cell? ⟨p, 3, none⟩ = some (.int .u8 nu)
  c4 : w.cell? ⟨p, 4, none⟩ = some (.int .u8 np)
  c6 : w.cell? ⟨p, 6, none⟩ = some (.int .u8 nr)
  c11 : w.cell? ⟨p, 11, none⟩ = some (.slice la ls.length lc)
  c13 : w.cell? ⟨p, 13, none⟩ = some (.slice ua us.length uc)
  c8 : w.cell? ⟨p, 8, none⟩ = some (.slice ca 0 cc)
  c7 : w.cell? ⟨p, 7, none⟩ = some (.slice da 0 dc)
  locs : ∀ k, k < ls.length → ∃ b o, la = some ⟨b, o, none⟩ ∧ w.cell? ⟨b, o + k, none⟩ = some (.pointer (some ⟨lb.getD k 0, 0, none⟩)) ∧ w.cell? ⟨lb.getD k 0, 0, none⟩ = some (.string (ls.getD k ByteArray.empty))
  ups : Strs w ua us
  bnu : 0 ≤ nu ∧ nu ≤ 255
  bnp : 0 ≤ np ∧ np ≤ 255
  bnr : 0 ≤ nr ∧ nr ≤ 255
  bls : ls.length ≤ 4096 ∧ ∀ s ∈ ls, s.size ≤ 1048576
  bus : us.length ≤ 4096 ∧ ∀ s ∈ us, s.size ≤ 1048576

set_option maxRecDepth 100000 in
set_option maxHeartbeats 2000000 in
theorem str_any (F : Interp) (p : Nat) (nu np nr : Int) (la : Option Addr) (lc : Nat) (lb : List Nat) (ls : List ByteArray) (ua : Option Addr) (uc : Nat) (us : List ByteArray) (ca : Option Addr) (cc : Nat) (da : Option Addr) (dc : Nat) (l : Nat) (c : Int) (w : World) (hF : F.told.answers w.tape) (h : Pr w p nu np nr la lc lb ls ua uc us ca cc da dc) (hl0 : 1 ≤ l) (hl1 : l ≤ 4096) (hc : -9223372036854775808 ≤ c ∧ c ≤ 9223372036854775807) :
    Calls Tryf.prog 21 #[.pointer (some ⟨p, 0, none⟩), .int .i64 l, .int .i64 c] w fun e w' => e = .returned (.string ⟨(listing (Lib.repeatL [32, 32] (l - 1)) c l nu np nr ls us).flatten.toArray⟩) ∧ Turn w w' (fun _ => False) := by
  obtain ⟨i0, hi, hz0, hz1, hz2⟩ := info_parts infoString
  go_enter Tryf.func21, Tryf.ntmps21
  go_wp2_with fail
  have e1 : ((l : Int) - 1) = ((l - 1 : Nat) : Int) := by omega
  rw [e1]
  refine (Tryf.strings_Repeat ⟨#[32, 32]⟩ (l - 1) w (by omega) (by show 2 * (l - 1) ≤ _; omega)).mono ?_
  rintro e w1 ⟨rfl, hb1⟩
  have T1 : Turn w w1 (fun _ => False) := ⟨hb1.os, hb1.tape, hb1.output, hb1.size, fun k hk _ => hb1.block k hk⟩
  have hdl : (Lib.repeatL [32, 32] (l - 1)).length ≤ 8192 := by rw [Lib.repeatL_length]; show (l - 1) * 2 ≤ 8192; omega
  obtain ⟨d, hd⟩ : ∃ d : List UInt8, d = Lib.repeatL [32, 32] (l - 1) := ⟨_, rfl⟩
  rw [← hd] at hdl
  have hd' : (Lib.repeatL (ByteArray.mk #[32, 32]).data.toList (l - 1)) = d := by rw [hd]
  rw [hd']
  have HD := Lib.hid hd
  clear hd hd'
  have hF1 : F.told.answers w1.tape := by rw [hb1.tape]; exact hF
  have hsz1 := hb1.size
  have hrow0 : (w1.alloc (.cells #[] 9)).ownsRow w.heap.size 9 1 (.slice (some ⟨w1.heap.size, 0, none⟩) 0 0) 0 [] :=
    ⟨rfl, .inr ⟨w1.heap.size, 0, #[], rfl, hsz1, alloc_blk _ _, Nat.le_refl _, Nat.zero_le _, rfl, rfl⟩⟩
  have hs1 := s_hd F ((w1.alloc (.cells #[] 9)).alloc (.cells #[.iface 9 (.string ⟨d.toArray⟩), .iface 3 (.int .i64 c), .iface 3 (.int .i64 l)] 20)) hF1 (w1.heap.size + 1) d hdl c hc l ⟨by omega, by omega⟩ (by go_simp) (by go_simp) (by go_simp)
  go_wp2_with (at_builtin; refine wpList_append_own_at _ rfl _ _ 31 rfl w.heap.size 9 i0 (.string ByteArray.empty) 1 16 Tryf.underlying31 hi hz0 hz1 hz2 rfl (by decide) (.slice (some ⟨w1.heap.size, 0, none⟩) 0 0) 0 [] rfl ?o1 ⟨w1.heap.size + 1 + 1, 0, none⟩ 1 1 [.string ⟨(hdL d c l).toArray⟩] rfl rfl ?c1 ?c2 ?c3 ?c4 ?c5 ?_)
  case o1 => exact ((hrow0.alloc _).alloc _).drew
  case c1 =>
    intro j u hj
    match j, hj with
    | 0, hj => simp at hj; subst hj; go_simp
  case c2 => intro u hu; simp at hu; subst hu; rfl
  case c3 => unfold maxLen; omega
  case c4 => omega
  case c5 => simp; omega
  intro v1 w2 hown hgrow hnil hloc
  have TG : Turn w1 w2 (fun k => k = w1.heap.size) := (((((Turn.refl w1 _).alloc _).alloc _).alloc _).drew).grown hgrow (fun k hk _ => by simpa [Value.ownBlock] using hk.symm)
  have T2 : Turn w w2 (fun _ => False) := T1.trans' TG (fun j hj e => by omega)
  clear hs1 hrow0 hgrow hnil hloc TG hb1 T1 hF1
  obtain ⟨g, cap, rfl, hg⟩ := shape_of_owned hown (by omega)
  have hgl := (hown.lt g rfl).2
  have hF2 : F.told.answers w2.tape := by rw [T2.tape]; exact hF
  have hB : Buf w2 w.heap.size (.slice (some ⟨g, 0, none⟩) 1 cap) [hdL d c l] := hown
  have c3 := T2.cell h.c3 id
  have c4 := T2.cell h.c4 id
  have c6 := T2.cell h.c6 id
  have hpg : ¬ p = g := by have := World.block_lt_of_cell? _ _ h.c3; simp at this; omega
  have HB := Lib.hid hB
  clear hown hB
  go_wp2_with fail
  refine wp_region_endC 22 21 (fun k => k = g) (by kernel_rfl) (UpSlot d p g cap [hdL d c l] nu np nr w.heap.size w2.heap.size) (by kernel_rfl) (by kernel_rfl) (by kernel_rfl) (fun j v w1 w2 h t t0 => h.later t t0) ?_ ?_
  · intro i o hi22 ho a w3 hTA hT3 hnd hV K hK'
    have hK : i ≠ 21 → ∀ v w', UpSlot d p g cap [hdL d c l] nu np nr w.heap.size w2.heap.size i v w' → Turn w3 w' (fun _ => False) → K (a.put o.dst v) w' := fun _ v w' h t => hK' v w' h (t.mono (fun _ _ h => h.elim)) (fun _ => t)
    have n0 := hnd 0 (nondstC 22 (by kernel_rfl))
    have n7 := hnd 7 (nondstC 22 (by kernel_rfl))
    have d3 := hT3.cell c3 hpg
    have d4 := hT3.cell c4 hpg
    have d6 := hT3.cell c6 hpg
    have n8 := hnd 8 (nondstC 22 (by kernel_rfl))
    have hF3 : F.told.answers w3.tape := by rw [hT3.tape]; exact hF2
    have hs23 := hT3.size
    clear hnd c3 c4 c6
    rcases (by omega : i = 0 ∨ i = 1 ∨ i = 2 ∨ i = 3 ∨ i = 4 ∨ i = 5 ∨ i = 6 ∨ i = 7 ∨ i = 8 ∨ i = 9 ∨ i = 10 ∨ i = 11 ∨ i = 12 ∨ i = 13 ∨ i = 14 ∨ i = 15 ∨ i = 16 ∨ i = 17 ∨ i = 18 ∨ i = 19 ∨ i = 20 ∨ i = 21) with rfl | rfl | rfl | rfl | rfl | rfl | rfl | rfl | rfl | rfl | rfl | rfl | rfl | rfl | rfl | rfl | rfl | rfl | rfl | rfl | rfl | rfl
    all_goals (simp at ho; subst ho; try replace hK := hK (by decide))
    · exact wp_value (by simp [execOp, Act.eval, n8]) (hK (.slice (some ⟨g, 0, none⟩) 1 cap) w3 rfl (Turn.refl _ _))
    · exact wp_value (by simp [execOp, Act.eval, n7]) (hK (.string ⟨d.toArray⟩) w3 rfl (Turn.refl _ _))
    · have k1 : a.tmps.getD 35 undef = .string ⟨d.toArray⟩ := hV ⟨1, .data⟩ (by simp) rfl _ 35 rfl rfl
      exact wp_value (v := .iface 9 (.string ⟨d.toArray⟩)) (by simp only [execOp, Act.eval, k1]; kernel_rfl) (hK (.iface 9 (.string ⟨d.toArray⟩)) w3 rfl (Turn.refl _ _))
    · exact wp_value (by simp [execOp, Act.eval, n0]) (hK (.pointer (some ⟨p, 0, none⟩)) w3 rfl (Turn.refl _ _))
    · have k3 : a.tmps.getD 37 undef = .pointer (some ⟨p, 0, none⟩) := hV ⟨3, .data⟩ (by simp) rfl _ 37 rfl rfl
      exact wp_value (v := .pointer (some ⟨p, 0, none⟩)) (by simp only [execOp, Act.eval, k3]; kernel_rfl) (hK (.pointer (some ⟨p, 0, none⟩)) w3 rfl (Turn.refl _ _))
    · have k4 : a.tmps.getD 38 undef = .pointer (some ⟨p, 0, none⟩) := hV ⟨4, .data⟩ (by simp) rfl _ 38 rfl rfl
      exact wp_value (v := .pointer (some ⟨p, 3, none⟩)) (by simp only [execOp, Act.eval, k4]; kernel_rfl) (hK (.pointer (some ⟨p, 3, none⟩)) w3 rfl (Turn.refl _ _))
    · have k5 : a.tmps.getD 39 undef = .pointer (some ⟨p, 3, none⟩) := hV ⟨5, .data⟩ (by simp) rfl _ 39 rfl rfl
      exact wp_value (v := .int .u8 nu) (by simp only [execOp, Act.eval, k5]; go_simp) (hK (.int .u8 nu) w3 rfl (Turn.refl _ _))
    · have k6 : a.tmps.getD 40 undef = .int .u8 nu := hV ⟨6, .data⟩ (by simp) rfl _ 40 rfl rfl
      exact wp_value (v := .iface 5 (.int .u8 nu)) (by simp only [execOp, Act.eval, k6]; kernel_rfl) (hK (.iface 5 (.int .u8 nu)) w3 rfl (Turn.refl _ _))
    · exact wp_value (by simp [execOp, Act.eval, n0]) (hK (.pointer (some ⟨p, 0, none⟩)) w3 rfl (Turn.refl _ _))
    · have k8 : a.tmps.getD 42 undef = .pointer (some ⟨p, 0, none⟩) := hV ⟨8, .data⟩ (by simp) rfl _ 42 rfl rfl
      exact wp_value (v := .pointer (some ⟨p, 0, none⟩)) (by simp only [execOp, Act.eval, k8]; kernel_rfl) (hK (.pointer (some ⟨p, 0, none⟩)) w3 rfl (Turn.refl _ _))
    · have k9 : a.tmps.getD 43 undef = .pointer (some ⟨p, 0, none⟩) := hV ⟨9, .data⟩ (by simp) rfl _ 43 rfl rfl
      exact wp_value (v := .pointer (some ⟨p, 4, none⟩)) (by simp only [execOp, Act.eval, k9]; kernel_rfl) (hK (.pointer (some ⟨p, 4, none⟩)) w3 rfl (Turn.refl _ _))
    · have k10 : a.tmps.getD 44 undef = .pointer (some ⟨p, 4, none⟩) := hV ⟨10, .data⟩ (by simp) rfl _ 44 rfl rfl
      exact wp_value (v := .int .u8 np) (by simp only [execOp, Act.eval, k10]; go_simp) (hK (.int .u8 np) w3 rfl (Turn.refl _ _))
    · have k11 : a.tmps.getD 45 undef = .int .u8 np := hV ⟨11, .data⟩ (by simp) rfl _ 45 rfl rfl
      exact wp_value (v := .iface 5 (.int .u8 np)) (by simp only [execOp, Act.eval, k11]; kernel_rfl) (hK (.iface 5 (.int .u8 np)) w3 rfl (Turn.refl _ _))
    · exact wp_value (by simp [execOp, Act.eval, n0]) (hK (.pointer (some ⟨p, 0, none⟩)) w3 rfl (Turn.refl _ _))
    · have k13 : a.tmps.getD 47 undef = .pointer (some ⟨p, 0, none⟩) := hV ⟨13, .data⟩ (by simp) rfl _ 47 rfl rfl
      exact wp_value (v := .pointer (some ⟨p, 0, none⟩)) (by simp only [execOp, Act.eval, k13]; kernel_rfl) (hK (.pointer (some ⟨p, 0, none⟩)) w3 rfl (Turn.refl _ _))
    · have k14 : a.tmps.getD 48 undef = .pointer (some ⟨p, 0, none⟩) := hV ⟨14, .data⟩ (by simp) rfl _ 48 rfl rfl
      exact wp_value (v := .pointer (some ⟨p, 6, none⟩)) (by simp only [execOp, Act.eval, k14]; kernel_rfl) (hK (.pointer (some ⟨p, 6, none⟩)) w3 rfl (Turn.refl _ _))
    · have k15 : a.tmps.getD 49 undef = .pointer (some ⟨p, 6, none⟩) := hV ⟨15, .data⟩ (by simp) rfl _ 49 rfl rfl
      exact wp_value (v := .int .u8 nr) (by simp only [execOp, Act.eval, k15]; go_simp) (hK (.int .u8 nr) w3 rfl (Turn.refl _ _))
    · have k16 : a.tmps.getD 50 undef = .int .u8 nr := hV ⟨16, .data⟩ (by simp) rfl _ 50 rfl rfl
      exact wp_value (v := .iface 5 (.int .u8 nr)) (by simp only [execOp, Act.eval, k16]; kernel_rfl) (hK (.iface 5 (.int .u8 nr)) w3 rfl (Turn.refl _ _))
    · have k2 : a.tmps.getD 36 undef = .iface 9 (.string ⟨d.toArray⟩) := hV ⟨2, .data⟩ (by simp) rfl _ 36 rfl rfl
      have k7 : a.tmps.getD 41 undef = .iface 5 (.int .u8 nu) := hV ⟨7, .data⟩ (by simp) rfl _ 41 rfl rfl
      have k12 : a.tmps.getD 46 undef = .iface 5 (.int .u8 np) := hV ⟨12, .data⟩ (by simp) rfl _ 46 rfl rfl
      have k17 : a.tmps.getD 51 undef = .iface 5 (.int .u8 nr) := hV ⟨17, .data⟩ (by simp) rfl _ 51 rfl rfl
      exact wp_value (v := .slice (some ⟨w3.heap.size, 0, none⟩) 4 4) (w' := w3.alloc (.cells #[.iface 9 (.string ⟨d.toArray⟩), .iface 5 (.int .u8 nu), .iface 5 (.int .u8 np), .iface 5 (.int .u8 nr)] 20)) (by simp only [execOp, Act.eval, List.map_toArray, List.map_cons, List.map_nil, k2, k7, k12, k17]; kernel_rfl)
        (hK _ _ ⟨w3.heap.size, rfl, by omega, alloc_blk _ _⟩ ((Turn.refl _ _).alloc _))
    · obtain ⟨t, k18, ht, hbt⟩ : ∃ t, a.tmps.getD 52 undef = .slice (some ⟨t, 0, none⟩) 4 4 ∧ t ≠ g ∧ w3.heap[t]? = some (.cells #[.iface 9 (.string ⟨d.toArray⟩), .iface 5 (.int .u8 nu), .iface 5 (.int .u8 np), .iface 5 (.int .u8 nr)] 20 (0, 0)) := hV ⟨18, .data⟩ (by simp) rfl _ 52 rfl rfl
      exact wp_value (v := (.string ⟨(upL d nu np nr).toArray⟩)) (w' := w3.drew) (run_call2 24 (.tmp 52) _ _ rfl _ k18 (s_up F w3 hF3 t d hdl nu h.bnu np h.bnp nr h.bnr (cell_of_blk hbt 0 _ rfl) (cell_of_blk hbt 1 _ rfl) (cell_of_blk hbt 2 _ rfl) (cell_of_blk hbt 3 _ rfl)))
        (hK _ _ rfl (Turn.refl _ _).drew)
    · have k19 : a.tmps.getD 53 undef = (.string ⟨(upL d nu np nr).toArray⟩) := hV ⟨19, .data⟩ (by simp) rfl _ 53 rfl rfl
      exact wp_value (v := .slice (some ⟨w3.heap.size, 0, none⟩) 1 1) (w' := w3.alloc (.cells #[(.string ⟨(upL d nu np nr).toArray⟩)] 9)) (by simp only [execOp, Act.eval, List.map_toArray, List.map_cons, List.map_nil, k19]; kernel_rfl)
        (hK _ _ ⟨w3.heap.size, rfl, by omega, alloc_blk _ _⟩ ((Turn.refl _ _).alloc _))
    · have k0 : a.tmps.getD 34 undef = .slice (some ⟨g, 0, none⟩) 1 cap := hV ⟨0, .data⟩ (by simp) rfl _ 34 rfl rfl
      obtain ⟨t, k20, ht, hbt⟩ : ∃ t, a.tmps.getD 54 undef = .slice (some ⟨t, 0, none⟩) 1 1 ∧ t ≠ g ∧ w3.heap[t]? = some (.cells #[(.string ⟨(upL d nu np nr).toArray⟩)] 9 (0, 0)) := hV ⟨20, .data⟩ (by simp) rfl _ 54 rfl rfl
      have hrow3 : w3.ownsRow w.heap.size 9 1 (.slice (some ⟨g, 0, none⟩) 1 cap) 1 (bs [hdL d c l]) := (hTA rfl).ownsRow HB.out (fun _ _ => id)
      have hT2s := T2.size
      obtain ⟨v', w', hr, h2, h3, _, h5⟩ := run_append_own_at (P := Tryf.prog) w3 w.heap.size 31 31 9 i0 (.string ByteArray.empty) 1 16 Tryf.underlying31 hi hz0 hz1 hz2 rfl (by decide) _ 1 _ hrow3 ⟨t, 0, none⟩ 1 1 [(.string ⟨(upL d nu np nr).toArray⟩)] rfl
        (fun j u hj => by
          match j, hj with
          | 0, hj =>
            simp at hj
            subst hj
            simpa [Addr.add] using cell_of_blk hbt 0 (.string ⟨(upL d nu np nr).toArray⟩) rfl) (by intro u hu; simp at hu; subst hu; rfl) (by unfold maxLen; omega) (by omega) (by omega)
      have T : Turn w3 w' (fun k => k = g) := (Turn.refl w3 _).grown h3 (fun k hk _ => by cases hk; rfl)
      obtain ⟨qq, cq, rfl, _⟩ := shape_of_owned h2 (by omega)
      refine wp_value (v := .slice (some ⟨qq, 0, none⟩) (1 + 1) cq) (w' := w') ?_ (hK' _ w' ⟨qq, cq, rfl, h2⟩ T (fun h => absurd rfl h))
      unfold execOp
      simp only [resolve, invoke, builtin, Sem.run_bind, Sem.run_pure, Result.andThen_ok, List.map_toArray, List.map_cons, List.map_nil, Act.eval, k0, k20, hr]
  · intro a w3 ol hol hsz hdf hnd hV hT
    simp at hol
    subst hol
    obtain ⟨q, cq, k21, hBq⟩ : ∃ q y, a.tmps.getD 55 undef = .slice (some ⟨q, 0, none⟩) 2 y ∧ Buf w3 w.heap.size (.slice (some ⟨q, 0, none⟩) 2 y) [hdL d c l, upL d nu np nr] := hV 21 _ 55 (by omega) rfl rfl
    obtain ⟨T, df⟩ := a
    obtain rfl : df = [] := hdf
    have hTm := tmps_of T [8, 34, 35, 36, 37, 38, 39, 40, 41, 42, 43, 44, 45, 46, 47, 48, 49, 50, 51, 52, 53, 54, 55] _ hsz (fun t ht => hnd t (fun j oj _ => nondst_of _ (by kernel_rfl) t ht j oj))
    clear hV hnd hsz
    simp only [List.foldl_cons, List.foldl_nil] at hTm
    have k21 : T.getD 55 undef = _ := k21
    rw [k21] at hTm
    clear k21
    generalize T.getD 8 undef = y8 at hTm
    generalize T.getD 34 undef = y34 at hTm
    generalize T.getD 35 undef = y35 at hTm
    generalize T.getD 36 undef = y36 at hTm
    generalize T.getD 37 undef = y37 at hTm
    generalize T.getD 38 undef = y38 at hTm
    generalize T.getD 39 undef = y39 at hTm
    generalize T.getD 40 undef = y40 at hTm
    generalize T.getD 41 undef = y41 at hTm
    generalize T.getD 42 undef = y42 at hTm
    generalize T.getD 43 undef = y43 at hTm
    generalize T.getD 44 undef = y44 at hTm
    generalize T.getD 45 undef = y45 at hTm
    generalize T.getD 46 undef = y46 at hTm
    generalize T.getD 47 undef = y47 at hTm
    generalize T.getD 48 undef = y48 at hTm
    generalize T.getD 49 undef = y49 at hTm
    generalize T.getD 50 undef = y50 at hTm
    generalize T.getD 51 undef = y51 at hTm
    generalize T.getD 52 undef = y52 at hTm
    generalize T.getD 53 undef = y53 at hTm
    generalize T.getD 54 undef = y54 at hTm
    have hlit : T = #[.pointer (some ⟨p, 0, none⟩), .int .i64 l, .int .i64 c, undef, undef, undef, .string ⟨#[]⟩, .string ⟨d.toArray⟩, y8, undef, undef, undef, undef, undef, undef, undef, undef, undef, undef, .int .i64 l, .int .i64 ((l - 1 : Nat) : Int), .string ⟨d.toArray⟩, .slice (some ⟨w1.heap.size, 0, none⟩) 0 0, .slice (some ⟨w1.heap.size, 0, none⟩) 0 0, .string ⟨d.toArray⟩, .iface 9 (.string ⟨d.toArray⟩), .int .i64 c, .iface 3 (.int .i64 c), .int .i64 l, .iface 3 (.int .i64 l), .slice (some ⟨w1.heap.size + 1, 0, none⟩) 3 3, .string ⟨(hdL d c l).toArray⟩, .slice (some ⟨w1.heap.size + 1 + 1, 0, none⟩) 1 1, .slice (some ⟨g, 0, none⟩) 1 cap, y34, y35, y36, y37, y38, y39, y40, y41, y42, y43, y44, y45, y46, y47, y48, y49, y50, y51, y52, y53, y54, .slice (some ⟨q, 0, none⟩) 2 cq, undef, undef, undef, undef, undef, undef, undef, undef, undef, undef, undef, undef, undef, undef, undef, undef, undef, undef, undef, undef, undef, undef, undef, undef, undef, undef, undef, undef, undef, undef, undef, undef, undef, undef, undef, undef, undef, undef, undef, undef, undef, undef, undef, undef, undef, undef, undef, undef, undef, undef, undef, undef, undef, undef, undef, undef, undef, undef, undef, undef, undef, undef, undef, undef, undef, undef, undef, undef, undef, undef, undef, undef, undef, undef, undef, undef, undef, undef, undef, undef, undef, undef, undef, undef, undef, undef, undef, undef, undef, undef, undef, undef, undef, undef, undef, undef, undef, undef, undef, undef, undef, undef, undef, undef, undef, undef, undef, undef, undef, undef, undef, undef, undef, undef, undef, undef, undef, undef, undef, undef, undef, undef, undef, undef, undef, undef, undef, undef, undef, undef, undef, undef, undef, undef, undef, undef, undef, undef, undef, undef] := by rw [hTm]; kernel_rfl
    clear hTm
    rw [hlit]
    clear hlit k21
    have T3 : Turn w w3 (fun _ => False) := T2.trans' hT (fun j hj e => by omega)
    clear c3 c4 c6 HB T2 hT hF2 hgl hsz1 hpg
    have c11 := T3.cell h.c11 id
    go_wp2
    have hlsl := h.bls.1
    go_loopw [8, 61] (fun v i wr => ∃ k : Nat, k ≤ ls.length ∧ i = .int .i64 k ∧ Buf wr w.heap.size v ([hdL d c l, upL d nu np nr] ++ loK d ls k) ∧ Turn w wr (fun _ => False)) (fun _ i _ => ls.length - (intOf i).toNat)
    case atStart => exact ⟨0, Nat.zero_le _, rfl, hBq, T3⟩
    case round =>
      obtain ⟨k, hk, rfl, hbuf, hT⟩ := hrel
      have hFr : F.told.answers wr.tape := by rw [hT.tape]; exact hF
      have hszr := hT.size
      by_cases hkl : k < ls.length
      · obtain ⟨b, o, rfl, q1, q2⟩ := h.locs k hkl
        have e1 := hT.cell q1 id
        have e2 := hT.cell q2 id
        clear q1 q2
        obtain ⟨s, hs⟩ : ∃ s, s = ls.getD k ByteArray.empty := ⟨_, rfl⟩
        have hsm : s.data.toList.length ≤ 1048576 := by
          have := h.bls.2 s (by rw [hs]; simp [List.getD, hkl])
          simpa using this
        rw [← hs] at e2
        have HS := Lib.hid hs
        clear hs
        generalize lb.getD k 0 = b2 at e1 e2
        obtain ⟨L, hL⟩ : ∃ L, L = [hdL d c l, upL d nu np nr] ++ loK d ls k := ⟨_, rfl⟩
        have hLl : L.length = k + 2 := by rw [hL]; simp [loK_length]
        rw [← hL] at hbuf
        have HL := Lib.hid hL
        clear hL hBq
        have hs2 := s_lo F (wr.alloc (.cells #[.iface 9 (.string ⟨d.toArray⟩), .iface 9 (.string s), .iface 3 (.int .i64 k)] 20)) hFr wr.heap.size d hdl s hsm k ⟨by omega, by omega⟩ (by go_simp) (by go_simp) (by go_simp)
        obtain ⟨gv, cv, rfl, hgv, hgl⟩ := hbuf.shape (by omega)
        have hown0 := ((hbuf.alloc (.cells #[.iface 9 (.string ⟨d.toArray⟩), .iface 9 (.string s), .iface 3 (.int .i64 k)] 20)).alloc (.cells #[.string ⟨(loL d s.data.toList k).toArray⟩] 9)).drew
        have HO := Lib.hid hown0
        have HU := Lib.hid hbuf
        clear hown0 hbuf
        go_wp2_with (at_builtin; refine wpList_append_own_at _ rfl _ _ 31 rfl w.heap.size 9 i0 (.string ByteArray.empty) 1 16 Tryf.underlying31 hi hz0 hz1 hz2 rfl (by decide) (.slice (some ⟨gv, 0, none⟩) L.length cv) L.length (bs L) rfl HO.out ⟨wr.heap.size + 1, 0, none⟩ 1 1 [.string ⟨(loL d s.data.toList k).toArray⟩] rfl rfl ?c1 ?c2 ?c3 ?c4 ?c5 ?_)
        case c1 =>
          intro j u hj
          match j, hj with
          | 0, hj => simp at hj; subst hj; go_simp
        case c2 => intro u hu; simp at hu; subst hu; rfl
        case c3 => unfold maxLen; omega
        case c4 => omega
        case c5 => simp; omega
        intro v' w5 hown hgrow _ _
        have hG := HU.out.grow (((Turn.refl wr (fun _ => False)).alloc (.cells #[.iface 9 (.string ⟨d.toArray⟩), .iface 9 (.string s), .iface 3 (.int .i64 k)] 20)).alloc (.cells #[.string ⟨(loL d s.data.toList k).toArray⟩] 9)).drew hgl (by rw [hLl]; exact hown) (by rw [hLl]; exact hgrow)
        have hnew : [hdL d c l, upL d nu np nr] ++ loK d ls (k + 1) = L ++ [loL d s.data.toList k] := by rw [loK_succ, ← HS.out, HL.out]; simp
        rw [← hnew] at hG
        have HG := Lib.hid hG
        have HT := Lib.hid (hT.trans' hG.2 (fun j hj e => by omega))
        clear hown hgrow hnew hG HO HU hs2 HL HS e1 e2 hT hFr
        go_wp2
        go_roundw
        case rel => exact ⟨k + 1, by omega, by go_num, HG.out.1, HT.out⟩
        case measure => simp [intOf]; omega
      · obtain rfl : k = ls.length := by omega
        obtain ⟨wA, rfl⟩ : ∃ wA, wA = wr := ⟨_, rfl⟩
        obtain ⟨L1, hL1⟩ : ∃ L1, L1 = [hdL d c l, upL d nu np nr] ++ loK d ls ls.length := ⟨_, rfl⟩
        have hL1l : L1.length = ls.length + 2 := by rw [hL1]; simp [loK_length]
        rw [← hL1] at hbuf
        have HL1 := Lib.hid hL1
        have HL1l := Lib.hid hL1l
        clear hFr hL1 hL1l hszr
        have c13 := hT.cell h.c13 id
        have hlsu := h.bus.1
        go_wp2
        go_loopw [8, 86] (fun v i wr => ∃ k : Nat, k ≤ us.length ∧ i = .int .i64 k ∧ Buf wr w.heap.size v (L1 ++ uvK d us k) ∧ Turn w wr (fun _ => False)) (fun _ i _ => us.length - (intOf i).toNat)
        case atStart => exact ⟨0, Nat.zero_le _, rfl, by simpa [uvK] using hbuf, hT⟩
        case round =>
          clear hbuf hT
          obtain ⟨k, hk, rfl, hbuf, hT⟩ := hrel
          have hFr : F.told.answers wr.tape := by rw [hT.tape]; exact hF
          have hszr := hT.size
          by_cases hkl : k < us.length
          · obtain ⟨b, o, rfl, q1⟩ := h.ups k hkl
            have e1 := hT.cell q1 id
            clear q1
            obtain ⟨s, hs⟩ : ∃ s, s = us.getD k ByteArray.empty := ⟨_, rfl⟩
            have hsm : s.data.toList.length ≤ 1048576 := by
              have := h.bus.2 s (by rw [hs]; simp [List.getD, hkl])
              simpa using this
            rw [← hs] at e1
            have HS := Lib.hid hs
            clear hs
            obtain ⟨L, hL⟩ : ∃ L, L = L1 ++ uvK d us k := ⟨_, rfl⟩
            obtain ⟨n, hn⟩ : ∃ n, n = L.length := ⟨_, rfl⟩
            have hLl : L.length = n := hn.symm
            have hnb : 0 < n ∧ n ≤ 8200 := by rw [hn, hL]; simp [uvK_length, HL1l.out]; omega
            rw [← hL] at hbuf
            have HL := Lib.hid hL
            clear hL hn
            have hs2 := s_uv F (wr.alloc (.cells #[.iface 9 (.string ⟨d.toArray⟩), .iface 9 (.string s), .iface 3 (.int .i64 k)] 20)) hFr wr.heap.size d hdl s hsm k ⟨by omega, by omega⟩ (by go_simp) (by go_simp) (by go_simp)
            obtain ⟨gv, cv, rfl, hgv, hgl⟩ := hbuf.shape (by omega)
            have hown0 := ((hbuf.alloc (.cells #[.iface 9 (.string ⟨d.toArray⟩), .iface 9 (.string s), .iface 3 (.int .i64 k)] 20)).alloc (.cells #[.string ⟨(uvL d s.data.toList k).toArray⟩] 9)).drew
            have HO := Lib.hid hown0
            have HU := Lib.hid hbuf
            clear hown0 hbuf
            go_wp2_with (at_builtin; refine wpList_append_own_at _ rfl _ _ 31 rfl w.heap.size 9 i0 (.string ByteArray.empty) 1 16 Tryf.underlying31 hi hz0 hz1 hz2 rfl (by decide) (.slice (some ⟨gv, 0, none⟩) L.length cv) L.length (bs L) rfl HO.out ⟨wr.heap.size + 1, 0, none⟩ 1 1 [.string ⟨(uvL d s.data.toList k).toArray⟩] rfl rfl ?c1 ?c2 ?c3 ?c4 ?c5 ?_)
            case c1 =>
              intro j u hj
              match j, hj with
              | 0, hj => simp at hj; subst hj; go_simp
            case c2 => intro u hu; simp at hu; subst hu; rfl
            case c3 => unfold maxLen; omega
            case c4 => omega
            case c5 => simp; omega
            intro v' w5 hown hgrow _ _
            have hG := HU.out.grow (((Turn.refl wr (fun _ => False)).alloc (.cells #[.iface 9 (.string ⟨d.toArray⟩), .iface 9 (.string s), .iface 3 (.int .i64 k)] 20)).alloc (.cells #[.string ⟨(uvL d s.data.toList k).toArray⟩] 9)).drew hgl (by rw [hLl]; exact hown) (by rw [hLl]; exact hgrow)
            have hnew : L1 ++ uvK d us (k + 1) = L ++ [uvL d s.data.toList k] := by rw [uvK_succ, ← HS.out, HL.out]; simp
            rw [← hnew] at hG
            have HG := Lib.hid hG
            have HT := Lib.hid (hT.trans' hG.2 (fun j hj e => by omega))
            clear hown hgrow hnew hG HO HU hs2 HL HS e1 hT hFr
            go_wp2
            go_roundw
            case rel => exact ⟨k + 1, by omega, by go_num, HG.out.1, HT.out⟩
            case measure => simp [intOf]; omega
          · obtain rfl : k = us.length := by omega
            obtain ⟨wB, rfl⟩ : ∃ wB, wB = wr := ⟨_, rfl⟩
            obtain ⟨L2, hL2⟩ : ∃ L2, L2 = L1 ++ uvK d us us.length := ⟨_, rfl⟩
            obtain ⟨n, hn⟩ : ∃ n, n = L2.length := ⟨_, rfl⟩
            have hLl : L2.length = n := hn.symm
            have hnb : 0 < n ∧ n ≤ 8200 := by rw [hn, hL2]; simp [uvK_length, HL1l.out]; omega
            rw [← hL2] at hbuf
            have HL2 := Lib.hid hL2
            clear hL2 hn c13
            have c8 := hT.cell h.c8 id
            obtain ⟨gv, cv, rfl, hgv, hgl⟩ := hbuf.shape (by omega)
            have hown0 := hbuf.alloc (.cells #[.string ⟨#[10]⟩] 9)
            have HO := Lib.hid hown0
            have HU := Lib.hid hbuf
            clear hown0 hbuf
            go_wp2
            refine wp_loop_rounds 1 ?_
            rw [rounds_succ]
            go_wp2_with (at_builtin; refine wpList_append_own_at _ rfl _ _ 31 rfl w.heap.size 9 i0 (.string ByteArray.empty) 1 16 Tryf.underlying31 hi hz0 hz1 hz2 rfl (by decide) (.slice (some ⟨gv, 0, none⟩) L2.length cv) L2.length (bs L2) rfl HO.out ⟨wB.heap.size, 0, none⟩ 1 1 [.string ⟨#[10]⟩] rfl rfl ?c1 ?c2 ?c3 ?c4 ?c5 ?_)
            case c1 =>
              intro j u hj
              match j, hj with
              | 0, hj => simp at hj; subst hj; go_simp
            case c2 => intro u hu; simp at hu; subst hu; rfl
            case c3 => unfold maxLen; omega
            case c4 => omega
            case c5 => simp; omega
            intro v' w5 hown hgrow _ _
            have hG := HU.out.grow ((Turn.refl wB (fun _ => False)).alloc (.cells #[.string ⟨#[10]⟩] 9)) hgl (x := [10]) (by rw [hLl]; exact hown) (by rw [hLl]; exact hgrow)
            have T5 := hT.trans' hG.2 (fun j hj e => by omega)
            have hbuf := hG.1
            clear hown hgrow hG HO HU hT c8 hgv hgl hFr
            have hF5 : F.told.answers w5.tape := by rw [T5.tape]; exact hF
            have hsz5 := T5.size
            have c7 := T5.cell h.c7 id
            obtain ⟨L3, hL3⟩ : ∃ L3, L3 = L2 ++ [[10]] := ⟨_, rfl⟩
            have hL3l : L3.length = n + 1 := by rw [hL3]; simp [hLl]
            rw [← hL3] at hbuf
            have HL3 := Lib.hid hL3
            clear hL3 hLl
            obtain ⟨gv, cv, rfl, hgv, hgl⟩ := hbuf.shape (by omega)
            have hs3 := s_en F (w5.alloc (.cells #[.iface 9 (.string ⟨d.toArray⟩)] 20)) hF5 w5.heap.size d hdl (by go_simp)
            have hown0 := ((hbuf.alloc (.cells #[.iface 9 (.string ⟨d.toArray⟩)] 20)).alloc (.cells #[.string ⟨(enL d).toArray⟩] 9)).drew
            have HO := Lib.hid hown0
            have HU := Lib.hid hbuf
            clear hown0 hbuf
            go_wp2
            refine wp_loop_rounds 1 ?_
            rw [rounds_succ]
            go_wp2_with (at_builtin; refine wpList_append_own_at _ rfl _ _ 31 rfl w.heap.size 9 i0 (.string ByteArray.empty) 1 16 Tryf.underlying31 hi hz0 hz1 hz2 rfl (by decide) (.slice (some ⟨gv, 0, none⟩) L3.length cv) L3.length (bs L3) rfl HO.out ⟨w5.heap.size + 1, 0, none⟩ 1 1 [.string ⟨(enL d).toArray⟩] rfl rfl ?c1 ?c2 ?c3 ?c4 ?c5 ?_)
            case c1 =>
              intro j u hj
              match j, hj with
              | 0, hj => simp at hj; subst hj; go_simp
            case c2 => intro u hu; simp at hu; subst hu; rfl
            case c3 => unfold maxLen; omega
            case c4 => omega
            case c5 => simp; omega
            intro v' w6 hown hgrow _ _
            have hG := HU.out.grow (((Turn.refl w5 (fun _ => False)).alloc (.cells #[.iface 9 (.string ⟨d.toArray⟩)] 20)).alloc (.cells #[.string ⟨(enL d).toArray⟩] 9)).drew hgl (x := enL d) (by rw [hL3l]; exact hown) (by rw [hL3l]; exact hgrow)
            have T6 := T5.trans' hG.2 (fun j hj e => by omega)
            have hbuf := hG.1
            have hLf : listing d c l nu np nr ls us = L3 ++ [enL d] := by rw [HL3.out, HL2.out, HL1.out]; rfl
            have hLfl : (listing d c l nu np nr ls us).length = n + 2 := by rw [hLf]; simp [hL3l]
            rw [← hLf] at hbuf
            have HLf := Lib.hid hLf
            clear hown hgrow hG HO HU hs3 c7 hgv hgl hF5 hLf hL3l T5 HL3
            obtain ⟨gv, cv, rfl, hgv, hgl⟩ := hbuf.shape (by omega)
            have hj := join_call w6 w.heap.size gv cv _ hbuf (listing_each d c l nu np nr ls us hdl hc ⟨by omega, by omega⟩ h.bnu h.bnp h.bnr h.bls h.bus) (by omega)
            have HU := Lib.hid hbuf
            clear hbuf
            have HLfl := Lib.hid hLfl
            clear hLfl
            go_wp2_with (go_at_call 27; refine hj.mono ?_; rintro e w7 ⟨rfl, hT7⟩)
            go_ret
            exact ⟨by rw [HD.out]; rfl, T6.trans hT7⟩
end Go.Proofs.YtdljljnjijkbjaaFmt
