/- The laws' own lists of labels for folder n005_136: zzAt, zzMin3, zzFindByName, GetNamedLabel. -/
import Derived.Test.YtdhmpfijdmlfoaaFmtRes136
import Derived.Test.YtdhmpfijdmlfoaaFmtInts
namespace Go.Proofs.YtdhmpfijdmlfoaaFmt
open Go.RowKit Go.Maps
set_option linter.unusedVariables false

/-- a label that was made: its block and its fields -/
structure Lab where
  (b : Nat) (name : ByteArray) (id pc ln n : Int)
def Lab.zero : Lab := ⟨0, ByteArray.empty, 0, 0, 0, 0⟩
def Lab.cells (l : Lab) : Array Value := #[.int .i64 l.id, .string l.name, .int .i64 l.pc, .int .i64 l.ln, .int .i64 l.n]
def Lab.ptr (l : Lab) : Value := .pointer (some ⟨l.b, 0, none⟩)

def LabsAt (w : World) (K : List Lab) : Prop := ∀ j, j < K.length → w.heap[(K.getD j Lab.zero).b]? = some (.cells (K.getD j Lab.zero).cells 29 (0, 0))

theorem LabsAt.kept {w w' : World} {K : List Lab} {G : Nat → Prop} (h : LabsAt w K) (t : Turn w w' G) (k : ∀ j, j < K.length → ¬ G (K.getD j Lab.zero).b) : LabsAt w' K :=
  fun j hj => t.heap (h j hj) (k j hj)
theorem LabsAt.push {w : World} {K : List Lab} (h : LabsAt w K) {l : Lab} (hl : w.heap[l.b]? = some (.cells l.cells 29 (0, 0))) : LabsAt w (K ++ [l]) := by
  intro j hj
  by_cases e : j < K.length
  · have : (K ++ [l]).getD j Lab.zero = K.getD j Lab.zero := by simp [List.getD, List.getElem?_append_left e]
    rw [this]; exact h j e
  · have e' : j = K.length := by simp at hj; omega
    subst e'
    have : (K ++ [l]).getD K.length Lab.zero = l := by simp [List.getD]
    rw [this]; exact hl

theorem getD_push_old {K : List Lab} {l : Lab} {j : Nat} (h : j < K.length) : (K ++ [l]).getD j Lab.zero = K.getD j Lab.zero := by simp [List.getD, List.getElem?_append_left h]
theorem getD_push_new {K : List Lab} {l : Lab} : (K ++ [l]).getD K.length Lab.zero = l := by simp [List.getD]

/-- the first label of name s, as a pointer; nil where there is none -/
def FoundBy (K : List Lab) (s : ByteArray) (v : Value) : Prop :=
  ((∀ j, j < K.length → (K.getD j Lab.zero).name ≠ s) ∧ v = .pointer none) ∨
  ∃ j, j < K.length ∧ (K.getD j Lab.zero).name = s ∧ (∀ t, t < j → (K.getD t Lab.zero).name ≠ s) ∧ v = .pointer (some ⟨(K.getD j Lab.zero).b, 0, none⟩)

def FoundPost (K : List Lab) (s : ByteArray) (w : World) (e : Ending) (w' : World) : Prop := ∃ v, e = .returned v ∧ FoundBy K s v ∧ w = w'

theorem FoundBy.unique {K : List Lab} {s : ByteArray} {v v' : Value} (h : FoundBy K s v) (h' : FoundBy K s v') : v = v' := by
  rcases h with ⟨h1, rfl⟩ | ⟨j, h1, h2, h3, rfl⟩
  · rcases h' with ⟨h1', rfl⟩ | ⟨j', h1', h2', h3', rfl⟩
    · rfl
    · exact absurd h2' (h1 j' h1')
  · rcases h' with ⟨h1', rfl⟩ | ⟨j', h1', h2', h3', rfl⟩
    · exact absurd h2 (h1' j h1)
    · rcases Nat.lt_trichotomy j j' with h | h | h
      · exact absurd h2 (h3' j h)
      · rw [h]
      · exact absurd h2' (h3 j' h)

theorem zzAt_any (a : Option Addr) (c : Nat) (L : List Int) (i : Nat) (w : World) (S : Ints .i64 w a L) (m : L.length ≤ 1048576) :
    Calls Tryf.prog 40 #[.slice a L.length c, .int .i64 i] w fun e w' => e = .returned (.int .i64 (L.getD i 0)) ∧ w = w' := by
  by_cases h : i < L.length
  · obtain ⟨b, o, rfl, hc⟩ := S i h
    generalize L.getD i 0 = x at hc ⊢
    go_enter Tryf.func40, Tryf.ntmps40
    go_wp2
    go_ret
    exact ⟨rfl, rfl⟩
  · have e : L.getD i 0 = 0 := by simp [List.getD, Nat.le_of_not_lt h]
    rw [e]
    clear S
    go_enter Tryf.func40, Tryf.ntmps40
    go_wp2
    go_ret
    exact ⟨rfl, rfl⟩

theorem zzMin3_any (x y z : Nat) (w : World) :
    Calls Tryf.prog 28 #[.int .i64 x, .int .i64 y, .int .i64 z] w fun e w' => e = .returned (.int .i64 ((min (min x y) z : Nat) : Int)) ∧ w = w' := by
  by_cases h1 : (y : Int) < (x : Int)
  · have e1 : min x y = y := by omega
    rw [e1]
    by_cases h2 : (z : Int) < (y : Int)
    · have e2 : min y z = z := by omega
      rw [e2]
      go_enter Tryf.func28, Tryf.ntmps28
      go_wp2
      go_ret
      exact ⟨rfl, rfl⟩
    · have e2 : min y z = y := by omega
      rw [e2]
      go_enter Tryf.func28, Tryf.ntmps28
      go_wp2
      go_ret
      exact ⟨rfl, rfl⟩
  · have e1 : min x y = x := by omega
    rw [e1]
    by_cases h2 : (z : Int) < (x : Int)
    · have e2 : min x z = z := by omega
      rw [e2]
      go_enter Tryf.func28, Tryf.ntmps28
      go_wp2
      go_ret
      exact ⟨rfl, rfl⟩
    · have e2 : min x z = x := by omega
      rw [e2]
      go_enter Tryf.func28, Tryf.ntmps28
      go_wp2
      go_ret
      exact ⟨rfl, rfl⟩

set_option maxRecDepth 100000 in
theorem findByName_any (β : Nat) (g cap : Nat) (K : List Lab) (s : ByteArray) (w : World) (hr : w.ownsRow β 27 1 (.slice (some ⟨g, 0, none⟩) K.length cap) K.length (K.map Lab.ptr)) (hl : LabsAt w K) (m : K.length ≤ 1048576) :
    Calls Tryf.prog 26 #[.slice (some ⟨g, 0, none⟩) K.length cap, .string s] w (FoundPost K s w) := by
  have hcell : ∀ j, j < K.length → w.cell? ⟨g, j, none⟩ = some (.pointer (some ⟨(K.getD j Lab.zero).b, 0, none⟩)) := by
    intro j hj
    rw [hr.cellAt j (by omega)]
    simp [List.getD, hj, Lab.ptr]
  go_enter Tryf.func26, Tryf.ntmps26
  go_wp2
  go_loop [5] (fun j => ∃ k : Nat, k ≤ K.length ∧ j = .int .i64 k ∧ (∀ t, t < k → (K.getD t Lab.zero).name ≠ s)) (fun j => K.length - (intOf j).toNat)
  case atStart => exact ⟨0, Nat.zero_le _, rfl, (fun t ht => absurd ht (by omega))⟩
  case round =>
    obtain ⟨k, hk, rfl, hne⟩ := hrel
    have HN := Lib.hid hne
    clear hne
    by_cases hlt : k < K.length
    · have hc := hcell k hlt
      have hd := cell_of_blk (hl k hlt) 1 (.string (K.getD k Lab.zero).name) rfl
      obtain ⟨x, hx⟩ : ∃ x, x = (K.getD k Lab.zero).name := ⟨_, rfl⟩
      rw [← hx] at hd
      obtain ⟨bk, hbk⟩ : ∃ x, x = (K.getD k Lab.zero).b := ⟨_, rfl⟩
      rw [← hbk] at hc hd
      have HS := Lib.hid hx
      have HB := Lib.hid hbk
      clear hx hbk hcell hr hl
      by_cases heq : x = s
      · subst heq
        go_wp2
        go_ret
        exact ⟨.pointer (some ⟨bk, 0, none⟩), rfl, .inr ⟨k, hlt, HS.out.symm, HN.out, by rw [HB.out]⟩, rfl⟩
      · have hb := bytes_ne heq
        have HQ := Lib.hid heq
        clear heq
        go_wp2
        go_round
        case rel =>
          refine ⟨k + 1, by omega, by go_num, ?_⟩
          intro u hu
          rcases Nat.lt_or_eq_of_le (Nat.le_of_lt_succ hu) with h | h
          · exact HN.out u h
          · subst h; rw [← HS.out]; exact HQ.out
        case measure => simp [intOf]; omega
    · have he : k = K.length := by omega
      subst he
      clear hlt hr hl hcell
      go_wp2
      go_ret
      exact ⟨_, rfl, .inl ⟨HN.out, rfl⟩, rfl⟩

/-- what the map of names says of a list of labels -/
structure Look (D : DataW Unit) (K : List Lab) : Prop where
  none : ∀ s, (∀ j, j < K.length → (K.getD j Lab.zero).name ≠ s) → Maps.has D (kS s) = false
  some : ∀ j, j < K.length → Maps.has D (kS (K.getD j Lab.zero).name) = true ∧ D.atKey (kS (K.getD j Lab.zero).name) .nil = .lit (.int .i64 (K.getD j Lab.zero).b)

/-- no name twice -/
def Distinct (K : List Lab) : Prop := ∀ i j, i < K.length → j < K.length → (K.getD i Lab.zero).name = (K.getD j Lab.zero).name → i = j

theorem Look.found {D : DataW Unit} {K : List Lab} (h : Look D K) (d : Distinct K) (s : ByteArray) : FoundBy K s (ptrOf (D.atKey (kS s) .nil)) := by
  by_cases e : ∃ j, j < K.length ∧ (K.getD j Lab.zero).name = s
  · obtain ⟨j, hj, rfl⟩ := e
    refine .inr ⟨j, hj, rfl, fun t ht e => by have := d t j (by omega) hj e; omega, ?_⟩
    rw [(h.some j hj).2]
    simp [ptrOf]
  · have hn : ∀ j, j < K.length → (K.getD j Lab.zero).name ≠ s := fun j hj he => e ⟨j, hj, he⟩
    refine .inl ⟨hn, ?_⟩
    rw [atKey_of_not_has (h.none s hn)]
    rfl

theorem Look.push {D : DataW Unit} {K : List Lab} {l : Lab} (h : Look D K) (hD : IsMap D) (hn : ∀ j, j < K.length → (K.getD j Lab.zero).name ≠ l.name) : Look (D.put (kS l.name) (.lit (.int .i64 l.b))) (K ++ [l]) := by
  refine ⟨?_, ?_⟩
  · intro s hs
    have h1 : l.name ≠ s := by
      have := hs K.length (by simp)
      rwa [getD_push_new] at this
    rw [has_put_other (fun e => h1 (kS_inj e).symm)]
    exact h.none s (fun j hj => by
      have := hs j (by simp; omega)
      rwa [getD_push_old hj] at this)
  · intro j hj
    by_cases e : j < K.length
    · rw [getD_push_old e]
      have hne : kS (K.getD j Lab.zero).name ≠ kS l.name := fun q => hn j e (kS_inj q)
      rw [has_put_other hne, atKey_put_other hne]
      exact h.some j e
    · have e' : j = K.length := by simp at hj; omega
      subst e'
      rw [getD_push_new]
      exact ⟨has_put_same hD (kS_key _) _, atKey_put_same hD (kS_key _) _ _⟩

/-- what the map of pcs says -/
def Pcs (D : DataW Unit) (K : List Lab) : Prop := ∀ j, j < K.length → (∀ t, j < t → t < K.length → (K.getD t Lab.zero).id ≠ (K.getD j Lab.zero).id) → ∀ z, D.atKey (kI (K.getD j Lab.zero).id) z = .lit (.int .i64 (K.getD j Lab.zero).pc)

theorem kI_inj {a b : Int} (h : kI a = kI b) : a = b := by simpa [kI] using h
theorem kI_key (n : Int) : WideAt.IsKeyLit (kI n) := by simp [kI, WideAt.IsKeyLit]

theorem Pcs.push {D : DataW Unit} {K : List Lab} {l : Lab} (h : Pcs D K) (hD : IsMap D) : Pcs (D.put (kI l.id) (.lit (.int .i64 l.pc))) (K ++ [l]) := by
  intro j hj hn z
  by_cases e : j < K.length
  · rw [getD_push_old e] at hn ⊢
    have h1 := hn K.length e (by simp)
    rw [getD_push_new] at h1
    rw [atKey_put_other (fun q => h1 (kI_inj q).symm)]
    exact h j e (fun t ht htl => by
      have := hn t ht (by simp; omega)
      rwa [getD_push_old htl] at this) z
  · have e' : j = K.length := by simp at hj; omega
    subst e'
    rw [getD_push_new]
    exact atKey_put_same hD (kI_key _) _ _

theorem Distinct.push {K : List Lab} {l : Lab} (h : Distinct K) (hn : ∀ j, j < K.length → (K.getD j Lab.zero).name ≠ l.name) : Distinct (K ++ [l]) := by
  intro i j hi hj e
  by_cases e1 : i < K.length
  · by_cases e2 : j < K.length
    · rw [getD_push_old e1, getD_push_old e2] at e
      exact h i j e1 e2 e
    · have e' : j = K.length := by simp at hj; omega
      subst e'
      rw [getD_push_old e1, getD_push_new] at e
      exact absurd e (hn i e1)
  · have e' : i = K.length := by simp at hi; omega
    subst e'
    by_cases e2 : j < K.length
    · rw [getD_push_old e2, getD_push_new] at e
      exact absurd e.symm (hn j e2)
    · simp at hj; omega
end Go.Proofs.YtdhmpfijdmlfoaaFmt
