/- FnResolveGotoPatchesOnlyItsJump: for every input the call returns true, and each argument reads behind the call as it read before. No condition. -/
import Derived.Test.YtdhmpfijdmlfoaaFmtRows
import Derived.Test.YtdhmpfijdmlfoaaFmtWalk136B
import Derived.Test.YtdhmpfijdmlfoaaFmtCards
import Derived.Carry
import Derived.Stop.JoinedAt
import Derived.Stop.Texts
import Derived.Stop.JoinedTold
import Derived.SizedLaws
import Derived.SevenToldRow
import Derived.JoinedOf
import Derived.WalkKit
import Derived.ProofKit
import Derived.OpenShut
import Derived.ShutString
import Derived.ChangeOld
import Derived.Below
namespace Go.Proofs.YtdhmpfijdmlfoaaFmt.fnResolveGotoPatchesOnlyItsJump
open Go.ChangeShapes Go.WideShapes Go.ChangeAt Go.RowKit
open Go.ChangeMaps (open_string shut_string)
set_option linter.unusedVariables false

theorem own : ownKnob Tryf.prog.godebug = none := by kernel_rfl
theorem laidOut : laidOutB Tryf.prog = true := by kernel_rfl

open Go.Extern.Stop Go.Stop Go.Extern

set_option maxRecDepth 100000 in
theorem lifted (os : Os) (started : os.Started) (H : Type) (enc : TypeId × Value → H) :
    ReturnsInTold none {} Tryf.checked os 5 .any Input.okWide ((OpenSpec.ofChange Rows.fnResolveGotoPatchesOnlyItsJumpSpec).preRow enc Tryf.prog Tryf.f5 [] false []) (fun F => ((OpenSpec.ofChange Rows.fnResolveGotoPatchesOnlyItsJumpSpec).at F).post enc Tryf.prog Tryf.f5 false true false false) (aloneAtReturn Tryf.prog) nothingAlways := by
  refine returnsInTold_of_row (C := Tryf.checked) (s := OpenSpec.ofChange Rows.fnResolveGotoPatchesOnlyItsJumpSpec) (by kernel_rfl) own started (by kernel_rfl) Tryf.func5
    (OpenSpec.witness_stopped (enc := enc) (C := Tryf.checked) false ⟨#[], #[.slice none 0 0, .int .i64 0, .int .i64 0, .int .i64 0, .int .i64 0, .int .i64 0, .int .i64 0], []⟩ 8 (by kernel_rfl) (by kernel_rfl) (by kernel_rfl) (by kernel_rfl)) ?_
  intro F W base args ds gs before _ hF hval0 hW _ _ hsz _ _
  have hval : ∀ (j : Nat) t v, Tryf.f5.params[j]? = some t → args[j]? = some v → Value.okWide Tryf.prog W .any base t v := hval0
  have hW' := hW
  obtain ⟨p, q, hA0, hV, rfl, hfz, hnd⟩ := hW
  have hA : DataW.TrodAll enc Tryf.prog W 0 (fun _ => true) true Tryf.f5.params.toList args.toList ds p := hA0
  rw [Tryf.params5] at hA hval
  obtain ⟨v0, vs0, d0, ds0, p0, q0, hargs, rfl, rfl, h0, r0⟩ := trodAll_cons hA
  obtain ⟨v1, vs1, d1, ds1, p1, q1, rfl, rfl, rfl, h1, r1⟩ := trodAll_cons r0
  obtain ⟨v2, vs2, d2, ds2, p2, q2, rfl, rfl, rfl, h2, r2⟩ := trodAll_cons r1
  obtain ⟨v3, vs3, d3, ds3, p3, q3, rfl, rfl, rfl, h3, r3⟩ := trodAll_cons r2
  obtain ⟨v4, vs4, d4, ds4, p4, q4, rfl, rfl, rfl, h4, r4⟩ := trodAll_cons r3
  obtain ⟨v5, vs5, d5, ds5, p5, q5, rfl, rfl, rfl, h5, r5⟩ := trodAll_cons r4
  obtain ⟨v6, vs6, d6, ds6, p6, q6, rfl, rfl, rfl, h6, r6⟩ := trodAll_cons r5
  obtain ⟨rfl, rfl, rfl⟩ := trodAll_nil r6
  obtain rfl : args = #[v0, v1, v2, v3, v4, v5, v6] := by cases args; simp_all
  obtain ⟨rfl, rfl⟩ := trodVars_none hV
  obtain ⟨a0, len0, cap0, rfl⟩ := okWide_slice Tryf.underlying22 (hval 0 22 v0 rfl rfl)
  have k0 := h0
  have lt0 : ∀ x ∈ p0, x.block < W.heap.size := by obtain ⟨m, hm⟩ := k0; exact DataW.trod_lt m _ _ _ hm
  obtain ⟨z0, w0⟩ : ∃ zs, IsRow .u32 W a0 len0 cap0 zs := by
    obtain ⟨fuel, hf⟩ := h0
    rcases open_ints Tryf.underlying22 Tryf.underlying31 (by kernel_rfl) hf with ⟨hcs, _⟩ | ⟨x, l, c, zs, hcs, _, hl, hm, hz, _, hcell, hwz⟩
    · simp [Value.cells] at hcs
      obtain ⟨rfl, rfl, rfl⟩ := hcs
      exact ⟨[], .inl ⟨rfl, rfl, rfl, rfl⟩⟩
    · simp [Value.cells] at hcs
      obtain ⟨rfl, rfl, rfl⟩ := hcs
      exact ⟨zs, .inr ⟨_, rfl, hl, hm, by simpa using hz, hcell, hwz⟩⟩
  obtain ⟨a1, rfl, rfl, rfl, w1⟩ := open_int Tryf.underlying3 (hval 1 3 v1 rfl rfl) h1
  obtain ⟨a2, rfl, rfl, rfl, w2⟩ := open_int Tryf.underlying3 (hval 2 3 v2 rfl rfl) h2
  obtain ⟨a3, rfl, rfl, rfl, w3⟩ := open_int Tryf.underlying3 (hval 3 3 v3 rfl rfl) h3
  obtain ⟨a4, rfl, rfl, rfl, w4⟩ := open_int Tryf.underlying3 (hval 4 3 v4 rfl rfl) h4
  obtain ⟨a5, rfl, rfl, rfl, w5⟩ := open_int Tryf.underlying3 (hval 5 3 v5 rfl rfl) h5
  obtain ⟨a6, rfl, rfl, rfl, w6⟩ := open_int Tryf.underlying3 (hval 6 3 v6 rfl rfl) h6
  clear hA0 hval0
  refine (walk_FnResolveGotoPatchesOnlyItsJump a0 len0 cap0 z0 a1 a2 a3 a4 a5 a6 W w0 w1 w2 w3 w4 w5 w6).mono fun e W' ⟨he, bel⟩ => ?_
  subst he
  exact ⟨_, rfl, _, _, _, [], _, [], hW', trodAll_mk1 (shut_bool Tryf.underlying4 _), (trodAll_cons_mk (Below.trod laidOut (by kernel_rfl) (of_decide_eq_true (by kernel_rfl)) k0 bel lt0) (trodAll_cons_mk (shut_int Tryf.underlying3 w1) (trodAll_cons_mk (shut_int Tryf.underlying3 w2) (trodAll_cons_mk (shut_int Tryf.underlying3 w3) (trodAll_cons_mk (shut_int Tryf.underlying3 w4) (trodAll_cons_mk (shut_int Tryf.underlying3 w5) (trodAll_cons_mk (shut_int Tryf.underlying3 w6) trodAll_mk0))))))), rfl, bel.frame _, fun h => by cases h⟩

theorem stops : Tryf.pinned.checked.prog.stops = ["fmt.Sprintf, its operands' methods called"] := by kernel_rfl
theorem stopKnobs : Tryf.pinned.checked.prog.stopKnobs = [] := by kernel_rfl
theorem quiet (os : Os) : Stop.quiet Tryf.pinned.checked.prog os := by
  intro k hk
  rw [stopKnobs] at hk
  cases hk

theorem proved : Rows.FnResolveGotoPatchesOnlyItsJumpToldSaid :=
  Claim7.holds_of_told_any 5 Tryf.f5 "fmt.Sprintf, its operands' methods called" [] [] _ _ _ (by kernel_rfl) rfl rfl rfl laidOut (by kernel_rfl) rfl ⟨rfl, rfl, rfl, rfl, rfl, rfl, rfl⟩ rfl rfl (by kernel_rfl) (by kernel_rfl) Tryf.func5 (by kernel_rfl)
    (of_decide_eq_true (by kernel_rfl)) (of_decide_eq_true (by kernel_rfl)) stops.symm rfl stopKnobs.symm (by kernel_rfl)
    (by kernel_rfl) (by kernel_rfl) (by kernel_rfl) (by kernel_rfl) (by kernel_rfl) (by kernel_rfl) (by kernel_rfl) (by kernel_rfl) (by kernel_rfl) rfl (by kernel_rfl) rfl rfl
    rfl rfl
    rfl (by kernel_rfl) (by kernel_rfl) (by kernel_rfl) (by decide) (by kernel_rfl)
    (OpenClaim.moreEntering_of (by kernel_rfl) (by kernel_rfl) (by kernel_rfl) (by kernel_rfl) (by kernel_rfl) (by kernel_rfl) (by kernel_rfl) (by kernel_rfl) (by kernel_rfl) (by kernel_rfl))
    ⟨_, WideRow.started_initial, quiet _⟩
    (fun os started _ H enc _ => lifted os started H enc)
#print axioms proved
end Go.Proofs.YtdhmpfijdmlfoaaFmt.fnResolveGotoPatchesOnlyItsJump
