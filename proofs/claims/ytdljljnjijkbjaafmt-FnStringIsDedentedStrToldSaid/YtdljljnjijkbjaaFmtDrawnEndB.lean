/- (As XDrawnEnd, the slot of the operation A itself need not stand A's turn.) A law for a region that draws its order, makes new blocks, and ends with one operation that waits for all others (a store). -/
import Derived.Test.YtdljljnjijkbjaaFmtDrawn
namespace Go.Proofs.YtdljljnjijkbjaaFmt
open Go
set_option linter.unusedVariables false

section
variable {P : Program} {ops : Array Oper} {Q : Exit → Act → World → Prop}

def lastB (ops : Array Oper) (N : Nat) : Bool := decide (ops.size = N + 1) && (match ops[N]? with
  | some o => o.guard.isNone
  | none => false) && (List.range N).all (fun j => (List.range (N + 1)).any fun k => decide (j < k) && (match ops[k]? with
    | some o => o.after.any (fun e => e.on == j && Region.binds .any e)
    | none => false))

theorem last_of {N : Nat} (h : lastB ops N = true) : ops.size = N + 1 ∧ (∃ o, ops[N]? = some o ∧ o.guard = none) ∧ ∀ j, j < N → ∃ k o, j < k ∧ k ≤ N ∧ ops[k]? = some o ∧ ∃ e ∈ o.after, e.on = j ∧ Region.binds .any e = true := by
  simp only [lastB, Bool.and_eq_true, decide_eq_true_eq] at h
  obtain ⟨⟨h1, h2⟩, h3⟩ := h
  refine ⟨h1, ?_, ?_⟩
  · cases ho : ops[N]? with
    | none => rw [ho] at h2; cases h2
    | some o =>
      rw [ho] at h2
      exact ⟨o, rfl, by simpa using h2⟩
  · intro j hj
    have h4 := List.all_eq_true.1 h3 j (List.mem_range.2 hj)
    obtain ⟨k, hk, h5⟩ := List.any_eq_true.1 h4
    simp only [Bool.and_eq_true, decide_eq_true_eq] at h5
    cases ho : ops[k]? with
    | none => rw [ho] at h5; cases h5.2
    | some o =>
      rw [ho] at h5
      obtain ⟨i, hi, he⟩ := Array.any_eq_true.1 h5.2
      simp only [Bool.and_eq_true, beq_iff_eq] at he
      exact ⟨k, o, h5.1, by have := List.mem_range.1 hk; omega, ho, _, Array.getElem_mem hi, he.1, he.2⟩

def dstBut (n N : Nat) (ops : Array Oper) : Bool := (List.range N).all fun i => match ops[i]? with
  | some o => o.guard.isNone && (match o.dst with
    | some d => decide (d < n) && (List.range ops.size).all (fun j => j == i || (match ops[j]? with
      | some o' => o'.dst != some d
      | none => true))
    | none => false)
  | none => true

theorem dst_but {n N i : Nat} {o : Oper} (h : dstBut n N ops = true) (hi : i < N) (ho : ops[i]? = some o) : o.guard = none ∧ ∃ d, o.dst = some d ∧ d < n ∧ ∀ j o', j ≠ i → ops[j]? = some o' → o'.dst ≠ some d := by
  have h1 := List.all_eq_true.1 h i (List.mem_range.2 hi)
  simp only [ho, Bool.and_eq_true] at h1
  obtain ⟨hg, h2⟩ := h1
  refine ⟨by simpa using hg, ?_⟩
  cases hd : o.dst with
  | none => rw [hd] at h2; cases h2
  | some d =>
    rw [hd] at h2
    simp only [Bool.and_eq_true, decide_eq_true_eq] at h2
    refine ⟨d, rfl, h2.1, fun j o' hj ho' => ?_⟩
    have h3 := List.all_eq_true.1 h2.2 j (List.mem_range.2 (lt_of_get ho'))
    simp only [ho', Bool.or_eq_true, beq_iff_eq] at h3
    rcases h3 with h3 | h3
    · exact absurd h3 hj
    · simpa using h3

theorem getD_either {listed : Array Bool} {i : Nat} (h : i < listed.size) : listed.getD i true = listed.getD i false := by
  rw [Array.getD_eq_getD_getElem?, Array.getD_eq_getD_getElem?, Array.getElem?_eq_getElem h]
  rfl

theorem wp_region_end {id : Nat} {a0 : Act} {w0 : World} (N A : Nat) (G : Nat → Prop) (hm : P.follows .mixedOrders = true) (V : Nat → Value → World → Prop) (hb : backB ops = true) (hd : dstBut a0.tmps.size N ops = true) (hl : lastB ops N = true)
    (hstab : ∀ j v w w', V j v w → Turn w w' G → (j = A → Turn w w' (fun _ => False)) → V j v w')
    (hstep : ∀ i o, i < N → ops[i]? = some o → ∀ (a : Act) (w : World), (i = A → Turn w0 w (fun _ => False)) → Turn w0 w G →
      (∀ t, (∀ (j : Nat) oj, ops[j]? = some oj → oj.dst ≠ some t) → a.tmps.getD t undef = a0.tmps.getD t undef) →
      (∀ e ∈ o.after, Region.binds .any e = true → ∀ oj d, ops[e.on]? = some oj → oj.dst = some d → V e.on (a.tmps.getD d undef) w) →
      ∀ K : Act → World → Prop, (∀ v w', V i v w' → Turn w w' G → (i ≠ A → Turn w w' (fun _ => False)) → K (a.put o.dst v) w') → o.wp P a w K Q)
    (hend : ∀ (a : Act) (w : World) (ol : Oper), ops[N]? = some ol → a.tmps.size = a0.tmps.size → a.defers = a0.defers →
      (∀ t, (∀ (j : Nat) oj, ops[j]? = some oj → oj.dst ≠ some t) → a.tmps.getD t undef = a0.tmps.getD t undef) →
      (∀ (j : Nat) oj d, j < N → ops[j]? = some oj → oj.dst = some d → V j (a.tmps.getD d undef) w) →
      Turn w0 w G → ol.wp P a w (Q .normal) Q) :
    (Code.region id ops true).wp P Q a0 w0 := by
  obtain ⟨hsN, ⟨ol, hol, hgl⟩, haft⟩ := last_of hl
  have hbad : ∀ (t : Nat) (d : Bool), (Array.replicate ops.size false).getD t d = true → d = true := by
    intro t d h
    rw [Array.getD_eq_getD_getElem?, Array.getElem?_replicate] at h
    split at h
    · cases h
    · exact h
  refine wp_region_any hm (wpAny_inv (fun listed a w => (listed.getD N true = false ∧ (∀ (k : Nat) ok, ops[k]? = some ok → listed.getD k false = true → ∀ e ∈ ok.after, Region.binds .any e = true → listed.getD e.on false = true) ∧ (listed.getD A false = false → Turn w0 w (fun _ => False)) ∧ Turn w0 w G ∧ a.tmps.size = a0.tmps.size ∧ a.defers = a0.defers ∧
      (∀ t, (∀ (j : Nat) oj, ops[j]? = some oj → oj.dst ≠ some t) → a.tmps.getD t undef = a0.tmps.getD t undef) ∧
      (∀ (j : Nat) oj d, j < N → ops[j]? = some oj → oj.dst = some d → listed.getD j false = true → V j (a.tmps.getD d undef) w)) ∨
      ((∀ j, j < N + 1 → listed.getD j false = true) ∧ Q .normal a w)) hb ?_ ?_ _ _ _ _ (by simp) ?_ (.inl ⟨?_, ?_, fun _ => ⟨rfl, rfl, rfl, Nat.le_refl _, fun _ _ _ => rfl⟩, ⟨rfl, rfl, rfl, Nat.le_refl _, fun _ _ _ => rfl⟩, rfl, rfl, fun _ _ => rfl, ?_⟩))
  · intro listed a w i o hI hls ho h1 h2
    have hi := getD_lt h1
    rcases hI with ⟨hN, hcl, hTA, hT, hsz, hdf, hnd, hV⟩ | ⟨hall, hq⟩
    · by_cases hiN : i = N
      · subst hiN
        rw [hol] at ho
        cases ho
        unfold wpOp
        simp only [hol]
        rw [if_pos (by simp [Region.wanted, hgl])]
        have hdown : ∀ n j, j < i → i - j ≤ n → listed.getD j false = true := by
          intro n
          induction n with
          | zero => intro j hj hn; omega
          | succ n ih =>
            intro j hj hn
            obtain ⟨k, ok, hjk, hki, hok, e, he, rfl, hbd⟩ := haft j hj
            by_cases hkN : k = i
            · subst hkN
              rw [hol] at hok
              cases hok
              exact h2 e he hbd
            · exact hcl k ok hok (ih k (by omega) (by omega)) e he hbd
        have hall : ∀ j, j < i → listed.getD j false = true := fun j hj => hdown (i - j) j hj (Nat.le_refl _)
        refine .inl (Oper.wp_mono (fun a' w' hq => .inr ⟨?_, hq⟩) (hend a w ol hol hsz hdf hnd (fun j oj d hj hoj hdj => hV j oj d hj hoj hdj (hall j hj)) hT))
        intro j hj
        by_cases e : j = i
        · subst e
          rw [Array.getD_eq_getD_getElem?, Array.getElem?_setIfInBounds_self_of_lt hi]
          rfl
        · rw [getD_set_ne false (fun h => e h.symm)]
          exact hall j (by omega)
      · have hlt : i < N := by omega
        obtain ⟨hg, d, hdst, hdn, hdist⟩ := dst_but hd hlt ho
        unfold wpOp
        simp only [ho]
        rw [if_pos (by simp [Region.wanted, hg])]
        refine .inl (hstep i o hlt ho a w (fun e => hTA (by rw [← e, ← getD_either hi]; exact h1)) hT hnd (fun e he hbd oj d' hoj hdj => hV e.on oj d' (by have := back_of hb ho e he; omega) hoj hdj (h2 e he hbd)) _ fun v w' hv hT' hTf => ?_)
        rw [hdst]
        have hother : ∀ (j : Nat) oj d', j ≠ i → ops[j]? = some oj → oj.dst = some d' → (a.put (some d) v).tmps.getD d' undef = a.tmps.getD d' undef :=
          fun j oj d' hji hoj hdj => getD_put_other a d d' v (fun e => hdist j oj hji hoj (by rw [hdj, e]))
        have hsame : (a.put (some d) v).tmps.getD d undef = v := getD_put_same a d v (by rw [hsz]; exact hdn)
        have hset : ∀ t, listed.getD t false = true → (listed.setIfInBounds i true).getD t false = true := fun t ht => by
          by_cases e : t = i
          · subst e
            rw [Array.getD_eq_getD_getElem?, Array.getElem?_setIfInBounds_self_of_lt hi]
            rfl
          · rw [getD_set_ne false (fun h => e h.symm)]
            exact ht
        refine .inl ⟨by rw [getD_set_ne true hiN]; exact hN, ?_, ?_, hT.trans hT', ?_, hdf, ?_, ?_⟩
        · intro k ok hok hk e he hbd
          by_cases hki : k = i
          · subst hki
            rw [hok] at ho
            cases ho
            exact hset _ (h2 e he hbd)
          · rw [getD_set_ne false (fun h => hki h.symm)] at hk
            exact hset _ (hcl k ok hok hk e he hbd)
        · intro hA
          have hAi : i ≠ A := by
            intro e
            rw [← e, Array.getD_eq_getD_getElem?, Array.getElem?_setIfInBounds_self_of_lt hi] at hA
            cases hA
          rw [getD_set_ne false hAi] at hA
          exact (hTA hA).trans (hTf hAi)
        · simpa [Act.put] using hsz
        · intro t ht
          rw [getD_put_other a d t v (fun e => ht i o ho (by rw [hdst, e]))]
          exact hnd t ht
        · intro j oj d' hj hoj hdj hl
          by_cases hji : j = i
          · subst hji
            rw [hoj] at ho
            cases ho
            rw [hdst] at hdj
            cases hdj
            rw [hsame]
            exact hv
          · rw [hother j oj d' hji hoj hdj]
            rw [getD_set_ne false (fun e => hji e.symm)] at hl
            exact hstab j _ w w' (hV j oj d' hj hoj hdj hl) hT' (fun hjA => hTf (fun hiA => hji (hjA.trans hiA.symm)))
    · have := hall i (by omega)
      rw [getD_either hi] at h1
      rw [h1] at this
      cases this
  · intro listed a w hI hls hall
    rcases hI with ⟨hN, _⟩ | ⟨_, hq⟩
    · rw [hall N (by omega)] at hN
      cases hN
    · exact hq
  · simp
  · rw [Array.getD_eq_getD_getElem?, Array.getElem?_replicate, if_pos (by omega)]
    rfl
  · intro k ok hok h
    have := hbad k false h
    cases this
  · intro j oj d hj hoj hdj h
    have := hbad j false h
    cases this
end
end Go.Proofs.YtdljljnjijkbjaaFmt
