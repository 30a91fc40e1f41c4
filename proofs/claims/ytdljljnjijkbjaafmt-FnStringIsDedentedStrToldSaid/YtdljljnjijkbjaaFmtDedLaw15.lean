/- The plain law of FnStringIsDedentedStr: a listing's lines, and that each later line is the unindented one with the indent in front. No program in sight. -/
import Derived.Test.YtdljljnjijkbjaaFmtLines15
namespace Go.Proofs.YtdljljnjijkbjaaFmt
open Go.RowKit
set_option linter.unusedVariables false

def upB (d : List UInt8) (nu np nr : Int) : List UInt8 := d ++ ([59, 32] ++ (Lib.itoa nu ++ ([32, 117, 112, 118, 97, 108, 117, 101, 115, 44, 32] ++ (Lib.itoa np ++ ([32, 112, 97, 114, 97, 109, 115, 44, 32] ++ (Lib.itoa nr ++ [32, 115, 116, 97, 99, 107, 115]))))))
def loB (d s : List UInt8) (k : Int) : List UInt8 := d ++ ([46, 108, 111, 99, 97, 108, 32] ++ (s ++ ([32, 59, 32] ++ Lib.itoa k)))
def uvB (d s : List UInt8) (k : Int) : List UInt8 := d ++ ([46, 117, 112, 118, 97, 108, 117, 101, 32] ++ (s ++ ([32, 59, 32] ++ Lib.itoa k)))
def enB (d : List UInt8) : List UInt8 := d ++ [59, 32, 101, 110, 100, 32, 111, 102, 32, 102, 117, 110, 99, 116, 105, 111, 110]
def loBs (d : List UInt8) (ls : List ByteArray) : List (List UInt8) := (List.range ls.length).map fun j => loB d (ls.getD j ByteArray.empty).data.toList j
def uvBs (d : List UInt8) (us : List ByteArray) : List (List UInt8) := (List.range us.length).map fun j => uvB d (us.getD j ByteArray.empty).data.toList j
/-- the lines behind the first one -/
def tailB (d : List UInt8) (nu np nr : Int) (ls us : List ByteArray) : List (List UInt8) := [upB d nu np nr] ++ loBs d ls ++ uvBs d us ++ [[]] ++ [enB d]
def bodies (d : List UInt8) (c l nu np nr : Int) (ls us : List ByteArray) : List (List UInt8) := hdB d c l :: tailB d nu np nr ls us

theorem listing_bodies (d : List UInt8) (c l nu np nr : Int) (ls us : List ByteArray) : listing d c l nu np nr ls us = withNL (bodies d c l nu np nr ls us) := by
  simp [listing, bodies, tailB, withNL, hdL_eq, upL, upB, loK, loBs, loL, loB, uvK, uvBs, uvL, uvB, enL, enB, Function.comp_def]
theorem bodies_length (d : List UInt8) (c l nu np nr : Int) (ls us : List ByteArray) : (bodies d c l nu np nr ls us).length = ls.length + us.length + 4 := by
  simp [bodies, tailB, loBs, uvBs]
  omega

theorem no10_of (d : List UInt8) (hd : ∀ x ∈ d, x ≠ 10) (c l nu np nr : Int) (ls us : List ByteArray) (hl : NoNLs ls) (hu : NoNLs us) : ∀ B ∈ bodies d c l nu np nr ls us, ∀ x ∈ B, x ≠ 10 := by
  intro B hB
  simp only [bodies, tailB, List.mem_cons, List.mem_append, List.not_mem_nil, or_false] at hB
  rcases hB with rfl | (((rfl | hB) | hB) | rfl) | rfl
  · exact hdB_no10 d hd c l
  · intro x hx
    simp only [upB, List.mem_append] at hx
    rcases hx with hx | hx | hx | hx | hx | hx | hx | hx
    · exact hd x hx
    · revert x; decide
    · exact itoa_no10 _ x hx
    · revert x; decide
    · exact itoa_no10 _ x hx
    · revert x; decide
    · exact itoa_no10 _ x hx
    · revert x; decide
  · simp only [loBs, List.mem_map, List.mem_range] at hB
    obtain ⟨j, hj, rfl⟩ := hB
    intro x hx
    simp only [loB, List.mem_append] at hx
    rcases hx with hx | hx | hx | hx | hx
    · exact hd x hx
    · revert x; decide
    · exact hl _ (by simp [List.getD, hj]) x hx
    · revert x; decide
    · exact itoa_no10 _ x hx
  · simp only [uvBs, List.mem_map, List.mem_range] at hB
    obtain ⟨j, hj, rfl⟩ := hB
    intro x hx
    simp only [uvB, List.mem_append] at hx
    rcases hx with hx | hx | hx | hx | hx
    · exact hd x hx
    · revert x; decide
    · exact hu _ (by simp [List.getD, hj]) x hx
    · revert x; decide
    · exact itoa_no10 _ x hx
  · intro x hx; cases hx
  · intro x hx
    simp only [enB, List.mem_append] at hx
    rcases hx with hx | hx
    · exact hd x hx
    · revert x; decide

/-- B is A with d in front; a blank line stays blank -/
def Ded (d A B : List UInt8) : Prop := (A = [] ∧ B = []) ∨ (A ≠ [] ∧ B = d ++ A)
structure Deds (d : List UInt8) (X Y : List (List UInt8)) : Prop where
  len : X.length = Y.length
  each : ∀ k, Ded d (X.getD k []) (Y.getD k [])

theorem Deds.append {d : List UInt8} {X Y X' Y' : List (List UInt8)} (h : Deds d X Y) (h' : Deds d X' Y') : Deds d (X ++ X') (Y ++ Y') := by
  refine ⟨by simp [h.len, h'.len], fun k => ?_⟩
  by_cases hk : k < X.length
  · have e1 : (X ++ X').getD k [] = X.getD k [] := by simp only [List.getD]; rw [List.getElem?_append_left hk]
    have e2 : (Y ++ Y').getD k [] = Y.getD k [] := by simp only [List.getD]; rw [List.getElem?_append_left (by rw [← h.len]; exact hk)]
    rw [e1, e2]
    exact h.each k
  · have e1 : (X ++ X').getD k [] = X'.getD (k - X.length) [] := by simp only [List.getD]; rw [List.getElem?_append_right (by omega)]
    have e2 : (Y ++ Y').getD k [] = Y'.getD (k - X.length) [] := by simp only [List.getD]; rw [List.getElem?_append_right (by rw [← h.len]; omega), ← h.len]
    rw [e1, e2]
    exact h'.each _
theorem Deds.one {d A B : List UInt8} (h : Ded d A B) : Deds d [A] [B] := by
  refine ⟨rfl, fun k => ?_⟩
  match k with
  | 0 => exact h
  | k + 1 => exact .inl ⟨rfl, rfl⟩
theorem Deds.map {d : List UInt8} (n : Nat) (f g : Nat → List UInt8) (h : ∀ j, Ded d (f j) (g j)) : Deds d ((List.range n).map f) ((List.range n).map g) := by
  refine ⟨by simp, fun k => ?_⟩
  by_cases hk : k < n
  · have e : ∀ f : Nat → List UInt8, ((List.range n).map f).getD k [] = f k := fun f => by simp [List.getD, hk]
    rw [e, e]
    exact h k
  · have e : ∀ f : Nat → List UInt8, ((List.range n).map f).getD k [] = [] := fun f => by simp [List.getD, hk]
    rw [e, e]
    exact .inl ⟨rfl, rfl⟩

theorem tails_ded (d : List UInt8) (nu np nr : Int) (ls us : List ByteArray) : Deds d (tailB [] nu np nr ls us) (tailB d nu np nr ls us) := by
  refine (((Deds.one (.inr ⟨?_, ?_⟩)).append (Deds.map _ _ _ fun j => .inr ⟨?_, ?_⟩)).append (Deds.map _ _ _ fun j => .inr ⟨?_, ?_⟩)).append (Deds.one (.inl ⟨rfl, rfl⟩)) |>.append (Deds.one (.inr ⟨?_, ?_⟩))
  · simp [upB]
  · simp [upB]
  · simp [loB]
  · simp [loB]
  · simp [uvB]
  · simp [uvB]
  · simp [enB]
  · simp [enB]

theorem bodies_ded (d : List UInt8) (c c' l l' nu np nr : Int) (ls us : List ByteArray) (k : Nat) (hk : 1 ≤ k) : Ded d ((bodies [] c l nu np nr ls us).getD k []) ((bodies d c' l' nu np nr ls us).getD k []) := by
  obtain ⟨j, rfl⟩ : ∃ j, k = j + 1 := ⟨k - 1, by omega⟩
  exact (tails_ded d nu np nr ls us).each j
theorem bodies_head (d : List UInt8) (c l nu np nr : Int) (ls us : List ByteArray) : ∃ r, (bodies d c l nu np nr ls us).getD 0 [] = (d ++ [59, 32, 102, 117, 110, 99, 116, 105, 111, 110, 32, 91]) ++ r := hdB_pre d c l
end Go.Proofs.YtdljljnjijkbjaaFmt
