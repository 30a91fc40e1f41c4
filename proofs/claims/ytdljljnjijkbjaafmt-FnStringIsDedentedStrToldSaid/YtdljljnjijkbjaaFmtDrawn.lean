/- A law for a region that draws its order and only makes new blocks: whatever the order, each operation's slot meets its own predicate. -/
import Derived.Orders
import Derived.Tactics
import Derived.Test.YtdljljnjijkbjaaFmtMem
namespace Go.Proofs.YtdljljnjijkbjaaFmt
open Go
set_option linter.unusedVariables false

section
variable {P : Program} {ops : Array Oper} {Q : Exit → Act → World → Prop}

theorem getD_lt {listed : Array Bool} {i : Nat} (h : listed.getD i true = false) : i < listed.size := by
  rcases Nat.lt_or_ge i listed.size with h' | h'
  · exact h'
  · rw [Array.getD_eq_getD_getElem?, Array.getElem?_eq_none h'] at h
    cases h

theorem count_listed {listed : Array Bool} {i : Nat} (h : listed.getD i true = false) : (listed.setIfInBounds i true).count false + 1 = listed.count false := by
  have hi := getD_lt h
  have he : listed[i] = false := by
    rw [Array.getD_eq_getD_getElem?, Array.getElem?_eq_getElem hi] at h
    exact h
  have hpos := Array.boole_getElem_le_count (a := false) hi
  rw [he] at hpos
  simp only [beq_self_eq_true, if_true] at hpos
  rw [Array.setIfInBounds, dif_pos hi, Array.count_set hi, he]
  simp
  omega

def backB (ops : Array Oper) : Bool := (List.range ops.size).all fun i => match ops[i]? with
  | some o => o.after.all fun e => decide (e.on < i)
  | none => true

theorem back_of {i : Nat} {o : Oper} (hb : backB ops = true) (ho : ops[i]? = some o) : ∀ e ∈ o.after, e.on < i := by
  intro e he
  have hi : i < ops.size := by
    rcases Nat.lt_or_ge i ops.size with h | h
    · exact h
    · rw [Array.getElem?_eq_none h] at ho; cases ho
  have h1 := List.all_eq_true.1 hb i (List.mem_range.2 hi)
  simp only [ho] at h1
  have := Array.all_eq_true_iff_forall_mem.1 h1 e he
  simpa using this

theorem all_listed {listed : Array Bool} (hb : backB ops = true) (hs : listed.size = ops.size) (hr : Region.ready .any ops listed = []) : ∀ i, i < ops.size → listed.getD i true = true := by
  intro i
  induction i using Nat.strongRecOn with
  | ind i ih =>
    intro hi
    cases h : listed.getD i true with
    | true => rfl
    | false =>
      exfalso
      have ho : ops[i]? = some ops[i] := Array.getElem?_eq_getElem hi
      have hm : i ∈ Region.ready .any ops listed := mem_ready.2 ⟨h, ops[i], ho, fun e he _ => by
        have hlt := back_of hb ho e he
        have h2 := ih e.on hlt (by omega)
        have h3 : e.on < listed.size := by omega
        rw [Array.getD_eq_getD_getElem?, Array.getElem?_eq_getElem h3] at h2 ⊢
        exact h2⟩
      rw [hr] at hm
      cases hm

theorem wpAny_inv (Inv : Array Bool → Act → World → Prop) (hb : backB ops = true)
    (hstep : ∀ listed a w i o, Inv listed a w → listed.size = ops.size → ops[i]? = some o → listed.getD i true = false → (∀ e ∈ o.after, Region.binds .any e = true → listed.getD e.on false = true) → wpOp P ops Q i (Inv (listed.setIfInBounds i true)) a w)
    (hend : ∀ listed a w, Inv listed a w → listed.size = ops.size → (∀ i, i < ops.size → listed.getD i true = true) → Q .normal a w) :
    ∀ (fuel : Nat) (listed : Array Bool) (a : Act) (w : World), listed.size = ops.size → listed.count false ≤ fuel → Inv listed a w → wpAny P .any ops Q fuel listed a w
  | 0, listed, a, w, hs, hc, h => by
    have hr : Region.ready .any ops listed = [] := by
      rw [List.eq_nil_iff_forall_not_mem]
      intro i hi
      have := count_listed (mem_ready.1 hi).1
      omega
    exact ⟨hr, hend listed a w h hs (all_listed hb hs hr)⟩
  | fuel + 1, listed, a, w, hs, hc, h => by
    refine ⟨fun hr => hend listed a w h hs (all_listed hb hs hr), fun i hi => ?_⟩
    obtain ⟨h1, o, ho, h2⟩ := mem_ready.1 hi
    refine wpOp_mono (fun a' w' h' => wpAny_inv Inv hb hstep hend fuel _ a' w' (by simpa using hs) ?_ h') (hstep listed a w i o h hs ho h1 h2)
    have := count_listed h1
    omega

def dstB (n : Nat) (ops : Array Oper) : Bool := (List.range ops.size).all fun i => match ops[i]? with
  | some o => o.guard.isNone && (match o.dst with
    | some d => decide (d < n) && (List.range ops.size).all (fun j => j == i || (match ops[j]? with
      | some o' => o'.dst != some d
      | none => true))
    | none => false)
  | none => true

theorem lt_of_get {i : Nat} {o : Oper} (ho : ops[i]? = some o) : i < ops.size := by
  rcases Nat.lt_or_ge i ops.size with h | h
  · exact h
  · rw [Array.getElem?_eq_none h] at ho; cases ho

theorem dst_of {n i : Nat} {o : Oper} (h : dstB n ops = true) (ho : ops[i]? = some o) : o.guard = none ∧ ∃ d, o.dst = some d ∧ d < n ∧ ∀ j o', j ≠ i → ops[j]? = some o' → o'.dst ≠ some d := by
  have h1 := List.all_eq_true.1 h i (List.mem_range.2 (lt_of_get ho))
  simp only [ho, Bool.and_eq_true] at h1
  obtain ⟨hg, h2⟩ := h1
  refine ⟨by simpa using hg, ?_⟩
  cases hd : o.dst with
  | none => rw [hd] at h2; cases h2
  | some d =>
    rw [hd] at h2
    simp only [Bool.and_eq_true] at h2
    refine ⟨d, rfl, by simpa using h2.1, fun j o' hj ho' => ?_⟩
    have h3 := List.all_eq_true.1 h2.2 j (List.mem_range.2 (lt_of_get ho'))
    simp only [ho'] at h3
    simpa [hj] using h3

theorem getD_put_same (a : Act) (d : Nat) (v : Value) (h : d < a.tmps.size) : (a.put (some d) v).tmps.getD d undef = v := by
  show (a.tmps.setIfInBounds d v).getD d undef = v
  rw [Array.getD_eq_getD_getElem?, Array.getElem?_setIfInBounds_self_of_lt h]
  rfl
theorem getD_put_other (a : Act) (d t : Nat) (v : Value) (h : t ≠ d) : (a.put (some d) v).tmps.getD t undef = a.tmps.getD t undef := by
  show (a.tmps.setIfInBounds d v).getD t undef = _
  rw [Array.getD_eq_getD_getElem?, Array.getD_eq_getD_getElem?, Array.getElem?_setIfInBounds_ne (Ne.symm h)]

theorem wp_region_allocs {id : Nat} {a0 : Act} {w0 : World} (hm : P.follows .mixedOrders = true) (V : Nat → Value → World → Prop) (hb : backB ops = true) (hd : dstB a0.tmps.size ops = true)
    (hstab : ∀ j v w w', V j v w → Turn w w' (fun _ => False) → V j v w')
    (hstep : ∀ i o, ops[i]? = some o → ∀ (a : Act) (w : World), Turn w0 w (fun _ => False) →
      (∀ t, (∀ (j : Nat) oj, ops[j]? = some oj → oj.dst ≠ some t) → a.tmps.getD t undef = a0.tmps.getD t undef) →
      (∀ e ∈ o.after, Region.binds .any e = true → ∀ oj d, ops[e.on]? = some oj → oj.dst = some d → V e.on (a.tmps.getD d undef) w) →
      ∃ v w', (execOp a.eval o).run P w = .ok (.value v) w' ∧ V i v w' ∧ Turn w w' (fun _ => False))
    (hend : ∀ (a : Act) (w : World), a.tmps.size = a0.tmps.size → a.defers = a0.defers →
      (∀ t, (∀ (j : Nat) oj, ops[j]? = some oj → oj.dst ≠ some t) → a.tmps.getD t undef = a0.tmps.getD t undef) →
      (∀ (j : Nat) oj d, ops[j]? = some oj → oj.dst = some d → V j (a.tmps.getD d undef) w) → Turn w0 w (fun _ => False) → Q .normal a w) :
    (Code.region id ops true).wp P Q a0 w0 := by
  refine wp_region_any hm (wpAny_inv (fun listed a w => Turn w0 w (fun _ => False) ∧ a.tmps.size = a0.tmps.size ∧ a.defers = a0.defers ∧
      (∀ t, (∀ (j : Nat) oj, ops[j]? = some oj → oj.dst ≠ some t) → a.tmps.getD t undef = a0.tmps.getD t undef) ∧
      (∀ (j : Nat) oj d, ops[j]? = some oj → oj.dst = some d → listed.getD j false = true → V j (a.tmps.getD d undef) w)) hb ?_ ?_ _ _ _ _ (by simp) ?_ ⟨⟨rfl, rfl, rfl, Nat.le_refl _, fun _ _ _ => rfl⟩, rfl, rfl, fun _ _ => rfl, ?_⟩)
  · intro listed a w i o ⟨hT, hsz, hdf, hnd, hV⟩ hls ho h1 h2
    obtain ⟨hg, d, hdst, hdn, hdist⟩ := dst_of hd ho
    obtain ⟨v, w', hrun, hv, hT'⟩ := hstep i o ho a w hT hnd (fun e he hbd oj d' hoj hdj => hV e.on oj d' hoj hdj (h2 e he hbd))
    have hi := getD_lt h1
    unfold wpOp
    simp only [ho]
    rw [if_pos (by simp [Region.wanted, hg])]
    refine .inl ?_
    unfold Oper.wp
    rw [hrun, Oper.upon_value, hdst]
    refine ⟨hT.trans hT', ?_, hdf, ?_, ?_⟩
    · simpa [Act.put] using hsz
    · intro t ht
      rw [getD_put_other a d t v (fun e => ht i o ho (by rw [hdst, e]))]
      exact hnd t ht
    · intro j oj d' hoj hdj hl
      by_cases hji : j = i
      · subst hji
        rw [hoj] at ho
        cases ho
        rw [hdst] at hdj
        cases hdj
        rw [getD_put_same a d v (by rw [hsz]; exact hdn)]
        exact hv
      · have hne : d' ≠ d := fun e => hdist j oj hji hoj (by rw [hdj, e])
        rw [getD_put_other a d d' v hne]
        refine hstab j _ w w' (hV j oj d' hoj hdj ?_) hT'
        rwa [getD_set_ne false (fun e => hji e.symm)] at hl
  · intro listed a w ⟨hT, hsz, hdf, hnd, hV⟩ hls hall
    refine hend a w hsz hdf hnd (fun j oj d hoj hdj => hV j oj d hoj hdj ?_) hT
    have h := hall j (lt_of_get hoj)
    have hj : j < listed.size := by rw [hls]; exact lt_of_get hoj
    rw [Array.getD_eq_getD_getElem?, Array.getElem?_eq_getElem hj] at h ⊢
    exact h
  · simp
  · intro j oj d hoj hdj hl
    rw [Array.getD_eq_getD_getElem?] at hl
    rw [Array.getElem?_replicate] at hl
    split at hl <;> cases hl
/-- The same, each operation by its wp (serves calls too), and each operation's value with a footprint of new blocks of its own: the footprints of two operations do not meet. -/
theorem wp_region_news {id : Nat} {a0 : Act} {w0 : World} (hm : P.follows .mixedOrders = true) (V : Nat → Value → World → Prop) (foot : Nat → Value → Nat → Prop) (hb : backB ops = true) (hd : dstB a0.tmps.size ops = true)
    (hstab : ∀ j v w w', V j v w → Turn w w' (fun _ => False) → V j v w')
    (hstep : ∀ i o, ops[i]? = some o → ∀ (a : Act) (w : World), Turn w0 w (fun _ => False) →
      (∀ t, (∀ (j : Nat) oj, ops[j]? = some oj → oj.dst ≠ some t) → a.tmps.getD t undef = a0.tmps.getD t undef) →
      (∀ e ∈ o.after, Region.binds .any e = true → ∀ oj d, ops[e.on]? = some oj → oj.dst = some d → V e.on (a.tmps.getD d undef) w) →
      (∀ e1 ∈ o.after, ∀ e2 ∈ o.after, Region.binds .any e1 = true → Region.binds .any e2 = true → e1.on ≠ e2.on → ∀ o1 o2 d1 d2 x, ops[e1.on]? = some o1 → ops[e2.on]? = some o2 → o1.dst = some d1 → o2.dst = some d2 →
        foot e1.on (a.tmps.getD d1 undef) x → foot e2.on (a.tmps.getD d2 undef) x → False) →
      ∀ K : Act → World → Prop, (∀ v w', V i v w' → Turn w w' (fun _ => False) → (∀ x, foot i v x → w.heap.size ≤ x ∧ x < w'.heap.size) → K (a.put o.dst v) w') → o.wp P a w K Q)
    (hend : ∀ (a : Act) (w : World), a.tmps.size = a0.tmps.size → a.defers = a0.defers →
      (∀ t, (∀ (j : Nat) oj, ops[j]? = some oj → oj.dst ≠ some t) → a.tmps.getD t undef = a0.tmps.getD t undef) →
      (∀ (j : Nat) oj d, ops[j]? = some oj → oj.dst = some d → V j (a.tmps.getD d undef) w) →
      (∀ (j k : Nat) oj ok dj dk x, j ≠ k → ops[j]? = some oj → ops[k]? = some ok → oj.dst = some dj → ok.dst = some dk → foot j (a.tmps.getD dj undef) x → foot k (a.tmps.getD dk undef) x → False) →
      Turn w0 w (fun _ => False) → Q .normal a w) :
    (Code.region id ops true).wp P Q a0 w0 := by
  refine wp_region_any hm (wpAny_inv (fun listed a w => Turn w0 w (fun _ => False) ∧ a.tmps.size = a0.tmps.size ∧ a.defers = a0.defers ∧
      (∀ t, (∀ (j : Nat) oj, ops[j]? = some oj → oj.dst ≠ some t) → a.tmps.getD t undef = a0.tmps.getD t undef) ∧
      (∀ (j : Nat) oj d, ops[j]? = some oj → oj.dst = some d → listed.getD j false = true → V j (a.tmps.getD d undef) w ∧ ∀ x, foot j (a.tmps.getD d undef) x → x < w.heap.size) ∧
      (∀ (j k : Nat) oj ok dj dk x, j ≠ k → ops[j]? = some oj → ops[k]? = some ok → oj.dst = some dj → ok.dst = some dk → listed.getD j false = true → listed.getD k false = true → foot j (a.tmps.getD dj undef) x → foot k (a.tmps.getD dk undef) x → False)) hb ?_ ?_ _ _ _ _ (by simp) ?_ ⟨⟨rfl, rfl, rfl, Nat.le_refl _, fun _ _ _ => rfl⟩, rfl, rfl, fun _ _ => rfl, ?_, ?_⟩)
  · intro listed a w i o ⟨hT, hsz, hdf, hnd, hV, hF⟩ hls ho h1 h2
    obtain ⟨hg, d, hdst, hdn, hdist⟩ := dst_of hd ho
    have hi := getD_lt h1
    unfold wpOp
    simp only [ho]
    rw [if_pos (by simp [Region.wanted, hg])]
    refine .inl (hstep i o ho a w hT hnd (fun e he hbd oj d' hoj hdj => (hV e.on oj d' hoj hdj (h2 e he hbd)).1) (fun e1 he1 e2 he2 b1 b2 hne o1 o2 d1 d2 x q1 q2 q3 q4 => hF e1.on e2.on o1 o2 d1 d2 x hne q1 q2 q3 q4 (h2 e1 he1 b1) (h2 e2 he2 b2)) _ fun v w' hv hT' hft => ?_)
    rw [hdst]
    have hother : ∀ (j : Nat) oj d', j ≠ i → ops[j]? = some oj → oj.dst = some d' → (a.put (some d) v).tmps.getD d' undef = a.tmps.getD d' undef :=
      fun j oj d' hji hoj hdj => getD_put_other a d d' v (fun e => hdist j oj hji hoj (by rw [hdj, e]))
    have hsame : (a.put (some d) v).tmps.getD d undef = v := getD_put_same a d v (by rw [hsz]; exact hdn)
    have hold : ∀ j, j ≠ i → (listed.setIfInBounds i true).getD j false = true → listed.getD j false = true := fun j hji hl => by
      rwa [getD_set_ne false (fun e => hji e.symm)] at hl
    refine ⟨hT.trans hT', ?_, hdf, ?_, ?_, ?_⟩
    · simpa [Act.put] using hsz
    · intro t ht
      rw [getD_put_other a d t v (fun e => ht i o ho (by rw [hdst, e]))]
      exact hnd t ht
    · intro j oj d' hoj hdj hl
      by_cases hji : j = i
      · subst hji
        rw [hoj] at ho
        cases ho
        rw [hdst] at hdj
        cases hdj
        rw [hsame]
        exact ⟨hv, fun x hx => (hft x hx).2⟩
      · rw [hother j oj d' hji hoj hdj]
        obtain ⟨q1, q2⟩ := hV j oj d' hoj hdj (hold j hji hl)
        exact ⟨hstab j _ w w' q1 hT', fun x hx => Nat.lt_of_lt_of_le (q2 x hx) hT'.size⟩
    · intro j k oj ok dj dk x hjk hoj hok hdj hdk hlj hlk fj fk
      by_cases hji : j = i
      · have hki : k ≠ i := fun e => hjk (by rw [hji, e])
        subst hji
        rw [hoj] at ho
        cases ho
        rw [hdst] at hdj
        cases hdj
        rw [hsame] at fj
        rw [hother k ok dk hki hok hdk] at fk
        have q := (hV k ok dk hok hdk (hold k hki hlk)).2 x fk
        have := (hft x fj).1
        omega
      · by_cases hki : k = i
        · subst hki
          rw [hok] at ho
          cases ho
          rw [hdst] at hdk
          cases hdk
          rw [hsame] at fk
          rw [hother j oj dj hji hoj hdj] at fj
          have q := (hV j oj dj hoj hdj (hold j hji hlj)).2 x fj
          have := (hft x fk).1
          omega
        · rw [hother j oj dj hji hoj hdj] at fj
          rw [hother k ok dk hki hok hdk] at fk
          exact hF j k oj ok dj dk x hjk hoj hok hdj hdk (hold j hji hlj) (hold k hki hlk) fj fk
  · intro listed a w ⟨hT, hsz, hdf, hnd, hV, hF⟩ hls hall
    have hl : ∀ (j : Nat) oj, ops[j]? = some oj → listed.getD j false = true := fun j oj hoj => by
      have h := hall j (lt_of_get hoj)
      have hj : j < listed.size := by rw [hls]; exact lt_of_get hoj
      rw [Array.getD_eq_getD_getElem?, Array.getElem?_eq_getElem hj] at h ⊢
      exact h
    exact hend a w hsz hdf hnd (fun j oj d hoj hdj => (hV j oj d hoj hdj (hl j oj hoj)).1)
      (fun j k oj ok dj dk x hjk hoj hok hdj hdk => hF j k oj ok dj dk x hjk hoj hok hdj hdk (hl j oj hoj) (hl k ok hok)) hT
  · simp
  · intro j oj d hoj hdj hl
    rw [Array.getD_eq_getD_getElem?] at hl
    rw [Array.getElem?_replicate] at hl
    split at hl <;> cases hl
  · intro j k oj ok dj dk x hjk hoj hok hdj hdk hl
    rw [Array.getD_eq_getD_getElem?] at hl
    rw [Array.getElem?_replicate] at hl
    split at hl <;> cases hl

theorem wp_value {o : Oper} {a : Act} {w w' : World} {v : Value} {K : Act → World → Prop} (hrun : (execOp a.eval o).run P w = .ok (.value v) w') (h : K (a.put o.dst v) w') : o.wp P a w K Q := by
  unfold Oper.wp
  rw [hrun, Oper.upon_value]
  exact h
end
end Go.Proofs.YtdljljnjijkbjaaFmt
