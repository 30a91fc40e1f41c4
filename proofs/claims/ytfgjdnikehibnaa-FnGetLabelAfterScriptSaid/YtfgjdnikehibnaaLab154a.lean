/- The invariant of a script of labels, and the wrappers of folder n005_154 round a block's labels. -/
import Derived.Test.YtfgjdnikehibnaaReg154
import Derived.Test.YtfgjdnikehibnaaLabels
namespace Go.Proofs.Ytfgjdnikehibnaa
open Go.RowKit Go.Maps
open Go.WideMaps (keyOf_string_mk)
set_option linter.unusedVariables false

def FirstAt (L : List ByteArray) (r : Nat) : Prop := ∀ t, t < r → L.getD t ByteArray.empty ≠ L.getD r ByteArray.empty
def descOf (L : List ByteArray) (r : Nat) : Array Value := #[.int .i64 ((r : Int) + 1), .string (L.getD r ByteArray.empty), .int .i64 r, .int .i64 r, .int .i64 0]

/-- after the first k labels of the script L: the map D in block M knows just the names so far, each by its first label, which lies in block Bs r -/
structure LInv (w : World) (M : Nat) (D : DataW Unit) (L : List ByteArray) (k : Nat) (Bs : Nat → Nat) : Prop where
  own : w.ownsMap Try.prog 9 ptrElem M k D
  look : ∀ s, (∀ t, t < k → L.getD t ByteArray.empty ≠ s) → Maps.has D (kS s) = false
  hit : ∀ r, r < k → FirstAt L r → Maps.has D (kS (L.getD r ByteArray.empty)) = true ∧ D.atKey (kS (L.getD r ByteArray.empty)) .nil = .lit (.int .i64 (Bs r)) ∧
    w.heap[Bs r]? = some (.cells (descOf L r) 39 (0, 0))

theorem ownsMap_block {w : World} {M n : Nat} {D : DataW Unit} (h : w.ownsMap Try.prog 9 ptrElem M n D) : ∃ es c, w.heap[M]? = some (.map es c) := by
  obtain ⟨es, c, h1, _⟩ := h
  exact ⟨es, c, h1⟩

theorem LInv.kept {w w' : World} {F : Nat → Prop} {M : Nat} {D : DataW Unit} {L : List ByteArray} {k : Nat} {Bs : Nat → Nat} (h : LInv w M D L k Bs) (t : Turn w w' F) (hM : ¬ F M) (hB : ∀ r, r < k → FirstAt L r → ¬ F (Bs r)) : LInv w' M D L k Bs := by
  refine ⟨?_, h.look, fun r hr hf => ?_⟩
  · obtain ⟨es, c, h1, h2⟩ := h.own
    exact ⟨es, c, t.heap h1 hM, h2⟩
  · obtain ⟨h1, h2, h3⟩ := h.hit r hr hf
    exact ⟨h1, h2, t.heap h3 (hB r hr hf)⟩

theorem LInv.start (w : World) (M : Nat) (L : List ByteArray) (Bs : Nat → Nat) (h : w.ownsMap Try.prog 9 ptrElem M 0 (.map [])) : LInv w M (.map []) L 0 Bs :=
  ⟨h, fun _ _ => rfl, fun r hr => absurd hr (by omega)⟩

theorem LInv.old {w : World} {M : Nat} {D : DataW Unit} {L : List ByteArray} {k : Nat} {Bs : Nat → Nat} (h : LInv w M D L k Bs) (hn : ¬ FirstAt L k) : LInv w M D L (k + 1) Bs := by
  refine ⟨h.own.mono (by omega), fun s hs => h.look s (fun t ht => hs t (by omega)), fun r hr hf => ?_⟩
  rcases Nat.lt_or_eq_of_le (Nat.le_of_lt_succ hr) with h' | h'
  · exact h.hit r h' hf
  · subst h'; exact absurd hf hn

theorem LInv.new {w w' : World} {M : Nat} {D : DataW Unit} {L : List ByteArray} {k l : Nat} {Bs : Nat → Nat} (h : LInv w M D L k Bs) (hf : FirstAt L k) (t : Turn w w' (fun b => b = M))
    (own : w'.ownsMap Try.prog 9 ptrElem M (k + 1) (D.put (kS (L.getD k ByteArray.empty)) (.lit (.int .i64 l)))) (hl : w.heap[l]? = some (.cells (descOf L k) 39 (0, 0))) :
    LInv w' M (D.put (kS (L.getD k ByteArray.empty)) (.lit (.int .i64 l))) L (k + 1) (fun r => if r = k then l else Bs r) := by
  obtain ⟨es, c, hM⟩ := ownsMap_block h.own
  have hD := h.own.isMap
  refine ⟨own, fun s hs => ?_, fun r hr hfr => ?_⟩
  · have hne : kS s ≠ kS (L.getD k ByteArray.empty) := fun e => hs k (by omega) (kS_inj e).symm
    rw [has_put_other hne]
    exact h.look s (fun t ht => hs t (by omega))
  · rcases Nat.lt_or_eq_of_le (Nat.le_of_lt_succ hr) with h' | h'
    · have hne : kS (L.getD r ByteArray.empty) ≠ kS (L.getD k ByteArray.empty) := fun e => hf r h' (kS_inj e)
      obtain ⟨h1, h2, h3⟩ := h.hit r h' hfr
      have hrk : r ≠ k := by omega
      rw [has_put_other hne, atKey_put_other hne, if_neg hrk]
      exact ⟨h1, h2, t.heap h3 (fun e => by rw [e, hM] at h3; simp at h3)⟩
    · subst h'
      rw [has_put_same hD (kS_key _), atKey_put_same hD (kS_key _), if_pos rfl]
      exact ⟨rfl, rfl, t.heap hl (fun e => by rw [e, hM] at hl; simp at hl)⟩

theorem LInv.drewN {w : World} {M : Nat} {D : DataW Unit} {L : List ByteArray} {k : Nat} {Bs : Nat → Nat} (h : LInv w M D L k Bs) (q : Nat) : LInv (w.drewN q) M D L k Bs := ⟨h.own, h.look, h.hit⟩
theorem LInv.alloc {w : World} {M : Nat} {D : DataW Unit} {L : List ByteArray} {k : Nat} {Bs : Nat → Nat} (h : LInv w M D L k Bs) (o : Obj) : LInv (w.alloc o) M D L k Bs :=
  h.kept ((Turn.refl w (fun _ => False)).alloc o) id (fun _ _ _ => id)

theorem isFirst_first {L : List ByteArray} {i r : Nat} (h : IsFirst L i r) : FirstAt L r := fun t ht => by rw [h.2.1]; exact h.2.2 t ht
theorem isFirst_self {L : List ByteArray} {i : Nat} (h : IsFirst L i i) : FirstAt L i := h.2.2
theorem isFirst_not {L : List ByteArray} {i r : Nat} (h : IsFirst L i r) (hne : r ≠ i) : ¬ FirstAt L i := fun hf => hf r (by have := h.1; omega) h.2.1

/-! ### the wrappers -/
theorem ZZnewCodeBlock_any (lv par : Option Addr) (bl fg : Int) (w : World) :
    Calls Try.prog 16 #[.pointer lv, .int .i64 bl, .pointer par, .int .i64 fg] w fun e w' =>
      e = .returned (.pointer (some ⟨w.heap.size + 1, 0, none⟩)) ∧
      (w.alloc (.map #[] 0)).alloc (.cells #[.pointer lv, .int .i64 bl, .pointer par, .bool false, .int .i64 0, .int .i64 0, .map (some w.heap.size), .int .i64 fg] 54) = w' := by
  go_enter Try.func16, Try.ntmps16
  go_wp2_with fail
  refine (newCodeBlock_any lv par bl fg _).mono ?_
  rintro e w' ⟨rfl, rfl⟩
  go_wp2
  go_ret
  exact ⟨rfl, rfl⟩

theorem ZZnewLabelDesc_any (id : Int) (s : ByteArray) (pc line n : Int) (w : World) :
    Calls Try.prog 18 #[.int .i64 id, .string s, .int .i64 pc, .int .i64 line, .int .i64 n] w fun e w' =>
      e = .returned (.pointer (some ⟨w.heap.size, 0, none⟩)) ∧ w.alloc (.cells #[.int .i64 id, .string s, .int .i64 pc, .int .i64 line, .int .i64 n] 39) = w' := by
  go_enter Try.func18, Try.ntmps18
  go_wp2_with fail
  refine (newLabelDesc_any id s pc line n _).mono ?_
  rintro e w' ⟨rfl, rfl⟩
  go_wp2
  go_ret
  exact ⟨rfl, rfl⟩

theorem ZZaddLabel_old (b l M n : Nat) (s : ByteArray) (hs : s.size ≤ maxLen) (D : DataW Unit) (w : World) (hb : w.cell? ⟨b, 6, none⟩ = some (.map (some M))) (hl : w.cell? ⟨l, 1, none⟩ = some (.string s))
    (hm : w.ownsMap Try.prog 9 ptrElem M n D) (hh : Maps.has D (kS s) = true) :
    Calls Try.prog 17 #[.pointer (some ⟨b, 0, none⟩), .pointer (some ⟨l, 0, none⟩)] w (Refused D s w) := by
  go_enter Try.func17, Try.ntmps17
  go_wp2_with fail
  refine (addLabel_old b l M n s hs D _ hb hl hm hh).mono ?_
  rintro e w' ⟨rfl, q, rfl⟩
  go_wp2
  go_ret
  exact ⟨rfl, _, rfl⟩

theorem ZZaddLabel_new (b l M n : Nat) (s : ByteArray) (hs : s.size ≤ maxLen) (D : DataW Unit) (w : World) (hb : w.cell? ⟨b, 6, none⟩ = some (.map (some M))) (hl : w.cell? ⟨l, 1, none⟩ = some (.string s))
    (hm : w.ownsMap Try.prog 9 ptrElem M n D) (hn : n < maxLen) (hh : Maps.has D (kS s) = false) :
    Calls Try.prog 17 #[.pointer (some ⟨b, 0, none⟩), .pointer (some ⟨l, 0, none⟩)] w (Taken M n D s l w) := by
  go_enter Try.func17, Try.ntmps17
  go_wp2_with fail
  refine (addLabel_new b l M n s hs D _ hb hl hm hn hh).mono ?_
  rintro e w' ⟨rfl, h1, h2⟩
  go_wp2
  go_ret
  exact ⟨rfl, h1, h2⟩

theorem ZZgetLabel_any (b M n : Nat) (s : ByteArray) (hs : s.size ≤ maxLen) (D : DataW Unit) (w : World) (hb : w.cell? ⟨b, 6, none⟩ = some (.map (some M)))
    (hm : w.ownsMap Try.prog 9 ptrElem M n D) :
    Calls Try.prog 27 #[.pointer (some ⟨b, 0, none⟩), .string s] w (Refused D s w) := by
  go_enter Try.func27, Try.ntmps27
  go_wp2_with fail
  refine (getLabel_any b M n s hs D _ hb hm).mono ?_
  rintro e w' ⟨rfl, q, rfl⟩
  go_wp2
  go_ret
  exact ⟨rfl, _, rfl⟩

theorem ZZlabelCount_any (b M n : Nat) (D : DataW Unit) (w : World) (hb : w.cell? ⟨b, 6, none⟩ = some (.map (some M)))
    (hm : w.ownsMap Try.prog 9 ptrElem M n D) :
    Calls Try.prog 19 #[.pointer (some ⟨b, 0, none⟩)] w fun e w' => e = .returned (.int .i64 (Maps.size D)) ∧ w = w' := by
  have hlen := fun ty => hm.len Try.underlying52 ty
  go_enter Try.func19, Try.ntmps19
  go_wp2_with (at_len; refine wpList_len_own _ rfl _ 52 rfl 9 33 Try.underlying52 ptrElem M n D rfl hm ?_)
  go_ret
  exact ⟨rfl, rfl⟩

theorem ZZlabelCount_is (b M n : Nat) (D : DataW Unit) (r : Int) (hr : (Maps.size D : Int) = r) (w : World) (hb : w.cell? ⟨b, 6, none⟩ = some (.map (some M)))
    (hm : w.ownsMap Try.prog 9 ptrElem M n D) :
    Calls Try.prog 19 #[.pointer (some ⟨b, 0, none⟩)] w fun e w' => e = .returned (.int .i64 r) ∧ w = w' := by
  rw [← hr]; exact ZZlabelCount_any b M n D w hb hm

end Go.Proofs.Ytfgjdnikehibnaa
