/- What str reads stays where nothing old turns; a string cut at its first newline. -/
import Derived.Test.YtdljljnjijkbjaaFmtBuild15
import Derived.Test.YtdljljnjijkbjaaFmtCntLaw15
import Derived.Lib.Strings
namespace Go.Proofs.YtdljljnjijkbjaaFmt
open Go.RowKit Go.Kit Go.Extern.Stop Go.Stop Go.Extern
set_option linter.unusedVariables false

theorem Pr.later {w w' : World} {p : Nat} {nu np nr : Int} {la : Option Addr} {lc : Nat} {lb : List Nat} {ls : List ByteArray} {ua : Option Addr} {uc : Nat} {us : List ByteArray} {ca : Option Addr} {cc : Nat} {da : Option Addr} {dc : Nat} (h : Pr w p nu np nr la lc lb ls ua uc us ca cc da dc) (t : Turn w w' (fun _ => False)) : Pr w' p nu np nr la lc lb ls ua uc us ca cc da dc :=
  ⟨t.cell h.c3 id, t.cell h.c4 id, t.cell h.c6 id, t.cell h.c11 id, t.cell h.c13 id, t.cell h.c8 id, t.cell h.c7 id, fun k hk => by
    obtain ⟨b, o, e, q1, q2⟩ := h.locs k hk
    exact ⟨b, o, e, t.cell q1 id, t.cell q2 id⟩, t.strs h.ups (fun _ _ => id), h.bnu, h.bnp, h.bnr, h.bls, h.bus⟩

/-- a string cut at its first newline -/
structure Cut (S : ByteArray) (A R : List UInt8) : Prop where
  eq : S.data.toList = A ++ 10 :: R
  no : ∀ x ∈ A, x ≠ 10

theorem Cut.size {S : ByteArray} {A R : List UInt8} (h : Cut S A R) : S.size = A.length + R.length + 1 := by
  have := congrArg List.length h.eq
  simp at this
  omega
theorem Cut.below {S : ByteArray} {A R : List UInt8} (h : Cut S A R) (k : Nat) (hk : k < A.length) (h2 : k < S.size) : ¬ ((S[k].toNat : Int) = 10) := by
  have e := at_of_list S k h2
  rw [h.eq, List.getElem?_append_left hk, List.getElem?_eq_getElem hk] at e
  injection e with e
  have hn := h.no _ (List.getElem_mem hk)
  rw [e] at hn
  intro e2
  apply hn
  apply UInt8.toNat_inj.1
  have e3 : S[k].toNat = 10 := by omega
  rw [e3]
  rfl
theorem Cut.at {S : ByteArray} {A R : List UInt8} (h : Cut S A R) (h2 : A.length < S.size) : S[A.length] = 10 := by
  have e := at_of_list S A.length h2
  rw [h.eq, List.getElem?_append_right (Nat.le_refl _), Nat.sub_self] at e
  simpa using e.symm
theorem Cut.rest {S : ByteArray} {A R : List UInt8} (h : Cut S A R) : S.extract A.length S.size = ⟨(10 :: R).toArray⟩ := by
  have hs := h.size
  have e1 : (S.extract A.length S.size).data.toList = 10 :: R := by
    rw [Lib.extract_data, h.eq]
    rw [List.drop_left, List.take_of_length_le (by simp [hs]; omega)]
  rw [← e1]


/-- a listing cut at its first newline, with what stands at its head and its size -/
theorem listing_cut (m : Nat) (c nu np nr : Int) (ls us : List ByteArray) (hm : 1 ≤ m ∧ m ≤ 4096) (hc : -9223372036854775808 ≤ c ∧ c ≤ 9223372036854775807) (bnu : 0 ≤ nu ∧ nu ≤ 255) (bnp : 0 ≤ np ∧ np ≤ 255) (bnr : 0 ≤ nr ∧ nr ≤ 255) (bls : ls.length ≤ 4096 ∧ ∀ s ∈ ls, s.size ≤ 1048576) (bus : us.length ≤ 4096 ∧ ∀ s ∈ us, s.size ≤ 1048576) :
    ∃ S : ByteArray, S = ⟨(listing (Lib.repeatL [32, 32] (m - 1)) c m nu np nr ls us).flatten.toArray⟩ ∧ Cut S (hdB (Lib.repeatL [32, 32] (m - 1)) c m) (restOf (Lib.repeatL [32, 32] (m - 1)) nu np nr ls us) ∧
      (∃ r, S.data.toList = (Lib.repeatL [32, 32] (m - 1) ++ [59, 32, 102, 117, 110, 99, 116, 105, 111, 110, 32, 91]) ++ r) ∧ S.size ≤ 140737488355328 := by
  refine ⟨_, rfl, ⟨by simp [listing_flat], hdB_no10 _ (blanks_no10 _) c m⟩, ?_, ?_⟩
  · obtain ⟨r, hr⟩ := hdB_pre (Lib.repeatL [32, 32] (m - 1)) c m
    refine ⟨r ++ 10 :: restOf (Lib.repeatL [32, 32] (m - 1)) nu np nr ls us, ?_⟩
    simp only [listing_flat]
    rw [hr, List.append_assoc]
  · have hd : (Lib.repeatL [32, 32] (m - 1)).length ≤ 8192 := by rw [Lib.repeatL_length]; show (m - 1) * 2 ≤ 8192; omega
    have h1 := flat_length 1200000 _ (listing_each (Lib.repeatL [32, 32] (m - 1)) c m nu np nr ls us hd hc (by omega) bnu bnp bnr bls bus)
    rw [listing_length] at h1
    have h2 := bls.1
    have h3 := bus.1
    show (listing (Lib.repeatL [32, 32] (m - 1)) c m nu np nr ls us).flatten.toArray.size ≤ _
    rw [List.size_toArray]
    have h4 : (ls.length + us.length + 4) * 1200000 ≤ 8196 * 1200000 := Nat.mul_le_mul_right _ (by omega)
    omega
end Go.Proofs.YtdljljnjijkbjaaFmt
