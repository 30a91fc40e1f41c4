/- The contracts of a code block's labels: newLabelDesc, newCodeBlock, AddLabel, GetLabel. -/
import Derived.Test.YtdhmpfijdmlfoaaFmtPool
import Derived.Maps.OwnSet
import Derived.StillTailTactics
namespace Go.Proofs.YtdhmpfijdmlfoaaFmt
open Go.RowKit Go.Maps
open Go.WideMaps (keyOf_string_mk)
set_option linter.unusedVariables false

/-- how a pointer to the head of a block reads: by the block's number -/
def ptrElem : Value → Option (DataW Unit × List MemPlace)
  | .pointer none => some (.nil, [])
  | .pointer (some ⟨b, 0, none⟩) => some (.lit (.int .i64 b), [])
  | _ => none

theorem ptrElem_mk (b : Nat) : ptrElem (.pointer (some ⟨b, 0, none⟩)) = some (.lit (.int .i64 b), []) := rfl
theorem ptrElem_nil : ptrElem (.pointer none) = some (.nil, []) := rfl
theorem ptrElem_inv {v : Value} {ps : List MemPlace} {b : Nat} (h : ptrElem v = some (.lit (.int .i64 b), ps)) : v = .pointer (some ⟨b, 0, none⟩) := by
  unfold ptrElem at h
  split at h
  · simp at h
  · simp at h
    obtain ⟨h, _⟩ := h
    have h' := Int.ofNat.inj h
    rw [h']
  · cases h
theorem ptrElem_inv_nil {v : Value} {ps : List MemPlace} (h : ptrElem v = some (.nil, ps)) : v = .pointer none := by
  unfold ptrElem at h
  split at h
  · rfl
  · simp at h
  · cases h

/-- back from the reading to the pointer -/
def ptrOf : DataW Unit → Value
  | .lit (.int .i64 b) => .pointer (some ⟨b.toNat, 0, none⟩)
  | _ => .pointer none
theorem ptrOf_eq {v : Value} {ps : List MemPlace} {d : DataW Unit} (h : ptrElem v = some (d, ps)) : v = ptrOf d := by
  unfold ptrElem at h
  split at h
  · simp at h; rw [← h.1]; rfl
  · simp at h; rw [← h.1]; simp [ptrOf]
  · cases h

theorem strKey : Keyed Tryf.prog 9 := string_keyed Tryf.underlying9
theorem zeroPtr (w : World) : (zeroValue 27).run Tryf.prog w = .ok (.pointer none) w := by kernel_rfl
def kS (s : ByteArray) : Lit := .string s.data.toList
theorem kS_inj {s t : ByteArray} (h : kS s = kS t) : s = t := by
  have h1 : s.data.toList = t.data.toList := by simpa [kS] using h
  have h2 : s.data = t.data := Array.ext' h1
  cases s
  cases t
  exact congrArg ByteArray.mk h2
theorem kS_key (s : ByteArray) : WideAt.IsKeyLit (kS s) := by simp [kS, WideAt.IsKeyLit]


set_option maxRecDepth 100000 in
theorem newCodeBlock_any (lv par : Option Addr) (bl fg : Int) (w : World) :
    Calls Tryf.prog 42 #[.pointer lv, .int .i64 bl, .pointer par, .nilIface, .int .i64 fg] w fun e w' =>
      e = .returned (.pointer (some ⟨w.heap.size + 1, 0, none⟩)) ∧
      (w.alloc (.map #[] 0)).alloc (.cells #[.pointer lv, .int .i64 bl, .pointer par, .bool false, .int .i64 0, .int .i64 0, .map (some w.heap.size), .int .i64 fg] 67) = w' := by
  have hmm := @run_makeMap Tryf.prog
  go_enter Tryf.func42, Tryf.ntmps42
  go_wp2
  go_ret
  exact ⟨rfl, rfl⟩

theorem look_run {w : World} {M n : Nat} {D : DataW Unit} (hm : w.ownsMap Tryf.prog 9 ptrElem M n D) (s : ByteArray) (hs : s.size ≤ maxLen) (q : Nat) :
    (Instr.lookup 65 (.map (some M)) (.string s) true).run Tryf.prog (w.drewN q) = .ok (.tuple #[ptrOf (D.atKey (kS s) .nil), .bool (Maps.has D (kS s))]) (w.drewN q) := by
  have hm' : (w.drewN q).ownsMap Tryf.prog 9 ptrElem M n D := hm
  obtain ⟨v, ps, hr, hv⟩ := hm'.look_ok strKey Tryf.underlying65 (zeroPtr _) ptrElem_nil (keyOf_string_mk Tryf.underlying9 hs)
  rw [hr, ptrOf_eq hv]
  rfl

/-- a label of a name that is there is refused: the old one comes back -/
def Refused (D : DataW Unit) (s : ByteArray) (w : World) (e : Ending) (w' : World) : Prop := e = .returned (ptrOf (D.atKey (kS s) .nil)) ∧ ∃ q, w.drewN q = w'
/-- a label of a new name is taken -/
def Taken (M n : Nat) (D : DataW Unit) (s : ByteArray) (l : Nat) (w : World) (e : Ending) (w' : World) : Prop :=
  e = .returned (.pointer none) ∧ w'.ownsMap Tryf.prog 9 ptrElem M (n + 1) (D.put (kS s) (.lit (.int .i64 l))) ∧ Turn w w' (fun b => b = M)

set_option maxRecDepth 100000 in
theorem addLabel_old (b l M n : Nat) (s : ByteArray) (hs : s.size ≤ maxLen) (D : DataW Unit) (w : World) (hb : w.cell? ⟨b, 6, none⟩ = some (.map (some M))) (hl : w.cell? ⟨l, 1, none⟩ = some (.string s))
    (hm : w.ownsMap Tryf.prog 9 ptrElem M n D) (hh : Maps.has D (kS s) = true) :
    Calls Tryf.prog 49 #[.pointer (some ⟨b, 0, none⟩), .pointer (some ⟨l, 0, none⟩)] w (Refused D s w) := by
  have hlk := look_run hm s hs
  rw [hh] at hlk
  have HH := Lib.hid hh
  clear hh
  go_enter Tryf.func49, Tryf.ntmps49
  go_wp2_with fail
  go_quiet (fail)
  go_wp2
  go_ret
  exact ⟨rfl, _, rfl⟩

set_option maxRecDepth 100000 in
theorem addLabel_new (b l M n : Nat) (s : ByteArray) (hs : s.size ≤ maxLen) (D : DataW Unit) (w : World) (hb : w.cell? ⟨b, 6, none⟩ = some (.map (some M))) (hl : w.cell? ⟨l, 1, none⟩ = some (.string s))
    (hm : w.ownsMap Tryf.prog 9 ptrElem M n D) (hn : n < maxLen) (hh : Maps.has D (kS s) = false) :
    Calls Tryf.prog 49 #[.pointer (some ⟨b, 0, none⟩), .pointer (some ⟨l, 0, none⟩)] w (Taken M n D s l w) := by
  have hlk := look_run hm s hs
  have hkey := keyOf_string_mk Tryf.underlying9 hs
  rw [hh] at hlk
  have HH := Lib.hid hh
  clear hh
  go_enter Tryf.func49, Tryf.ntmps49
  go_wp2_with fail
  go_quiet (fail)
  go_wp2
  have hb' : (w.drewN nq).cell? ⟨b, 6, none⟩ = some (.map (some M)) := hb
  have hl' : (w.drewN nq).cell? ⟨l, 1, none⟩ = some (.string s) := hl
  have hm' : (w.drewN nq).ownsMap Tryf.prog 9 ptrElem M n D := hm
  have T0 : Turn w (w.drewN nq) (fun b => b = M) := ⟨rfl, rfl, rfl, Nat.le_refl _, fun _ _ _ => rfl⟩
  clear hlk hb hl hm
  generalize w.drewN nq = wq at *
  go_still_tail 9, (by kernel_rfl)
  go_wp2_with (at_mapUpdate; refine wpList_mapUpdate_own _ rfl _ _ _ 65 rfl 9 27 strKey Tryf.underlying65 ptrElem M n D rfl hm' hn _ _ _ rfl rfl hkey _ [] (ptrElem_mk l) ?_)
  intro w1 hown hgrow
  go_wp2
  go_ret
  exact ⟨rfl, hown, T0.drew.grown hgrow (fun k h _ => by cases h; rfl)⟩

set_option maxRecDepth 100000 in
theorem getLabel_any (b M n : Nat) (s : ByteArray) (hs : s.size ≤ maxLen) (D : DataW Unit) (w : World) (hb : w.cell? ⟨b, 6, none⟩ = some (.map (some M)))
    (hm : w.ownsMap Tryf.prog 9 ptrElem M n D) :
    Calls Tryf.prog 37 #[.pointer (some ⟨b, 0, none⟩), .string s] w (Refused D s w) := by
  have hlk := look_run hm s hs 0
  have hlk' : (Instr.lookup 65 (.map (some M)) (.string s) true).run Tryf.prog w = .ok (.tuple #[ptrOf (D.atKey (kS s) .nil), .bool (Maps.has D (kS s))]) w := hlk
  clear hlk
  cases hh : Maps.has D (kS s) with
  | false =>
    have ez : ptrOf (D.atKey (kS s) .nil) = .pointer none := by rw [atKey_of_not_has hh]; rfl
    rw [hh] at hlk'
    have EZ := Lib.hid ez
    clear hh ez
    go_enter Tryf.func37, Tryf.ntmps37
    go_wp2
    go_ret
    exact ⟨by rw [EZ.out]; rfl, 0, rfl⟩
  | true =>
    rw [hh] at hlk'
    clear hh
    go_enter Tryf.func37, Tryf.ntmps37
    go_wp2
    go_ret
    exact ⟨rfl, 0, rfl⟩

end Go.Proofs.YtdhmpfijdmlfoaaFmt
