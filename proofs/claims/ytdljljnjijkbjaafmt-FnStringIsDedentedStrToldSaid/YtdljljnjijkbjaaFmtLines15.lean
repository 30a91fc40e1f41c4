/- zzLines: what it gives at a text whose lines are known. -/
import Derived.Test.YtdljljnjijkbjaaFmtPrK15
namespace Go.Proofs.YtdljljnjijkbjaaFmt
open Go.RowKit Go.Kit Go.Extern.Stop Go.Stop Go.Extern
set_option linter.unusedVariables false

/-- lines, each with its newline -/
def withNL (Bs : List (List UInt8)) : List (List UInt8) := Bs.map (· ++ [10])
def off (Bs : List (List UInt8)) (j : Nat) : Nat := (withNL (Bs.take j)).flatten.length

theorem take_one_more (Bs : List (List UInt8)) (j : Nat) (hj : j < Bs.length) : Bs.take (j + 1) = Bs.take j ++ [Bs.getD j []] := by
  rw [List.take_succ_eq_append_getElem hj]
  simp [List.getD, hj]
theorem off_zero (Bs : List (List UInt8)) : off Bs 0 = 0 := rfl
theorem off_succ (Bs : List (List UInt8)) (j : Nat) (hj : j < Bs.length) : off Bs (j + 1) = off Bs j + (Bs.getD j []).length + 1 := by
  unfold off
  rw [take_one_more Bs j hj]
  simp [withNL]
  omega
theorem off_full (Bs : List (List UInt8)) : off Bs Bs.length = (withNL Bs).flatten.length := by
  unfold off
  rw [List.take_length]
theorem flat_split (Bs : List (List UInt8)) (j : Nat) (hj : j < Bs.length) : ∃ P Q, (withNL Bs).flatten = P ++ (Bs.getD j [] ++ 10 :: Q) ∧ P.length = off Bs j := by
  refine ⟨(withNL (Bs.take j)).flatten, (withNL (Bs.drop (j + 1))).flatten, ?_, rfl⟩
  have e : Bs = Bs.take j ++ Bs.getD j [] :: Bs.drop (j + 1) := by
    have h1 := (List.take_append_drop (j + 1) Bs).symm
    rw [take_one_more Bs j hj, List.append_assoc, List.singleton_append] at h1
    exact h1
  conv => lhs; rw [e]
  simp [withNL]

/-- a text between its head and a line -/
structure Mid (S : ByteArray) (o : Nat) (B : List UInt8) : Prop where
  ex : ∃ P Q, S.data.toList = P ++ (B ++ 10 :: Q) ∧ P.length = o

theorem Mid.size {S : ByteArray} {o : Nat} {B : List UInt8} (h : Mid S o B) : o + B.length < S.size := by
  obtain ⟨P, Q, e, hP⟩ := h.ex
  have := congrArg List.length e
  simp at this
  omega
theorem Mid.inside {S : ByteArray} {o : Nat} {B : List UInt8} (h : Mid S o B) (hno : ∀ x ∈ B, x ≠ 10) (k : Nat) (h1 : o ≤ k) (h2 : k < o + B.length) (h3 : k < S.size) : ((S[k].toNat : Int) == 10) = false := by
  obtain ⟨P, Q, e, hP⟩ := h.ex
  have q := at_of_list S k h3
  rw [e, List.getElem?_append_right (by omega), List.getElem?_append_left (by omega), List.getElem?_eq_getElem (by omega)] at q
  injection q with q
  have hn := hno _ (List.getElem_mem (l := B) (n := k - P.length) (by omega))
  rw [q] at hn
  have : ¬ (S[k].toNat = 10) := fun e3 => hn (by apply UInt8.toNat_inj.1; rw [e3]; rfl)
  simp
  omega
theorem Mid.stop {S : ByteArray} {o : Nat} {B : List UInt8} (h : Mid S o B) (k : Nat) (h2 : k = o + B.length) (h3 : k < S.size) : S[k] = 10 := by
  obtain ⟨P, Q, e, hP⟩ := h.ex
  have q := at_of_list S k h3
  rw [e, List.getElem?_append_right (by omega), List.getElem?_append_right (by omega), show k - P.length - B.length = 0 from by omega] at q
  simpa using q.symm
theorem Mid.cut {S : ByteArray} {o : Nat} {B : List UInt8} (h : Mid S o B) (k : Nat) (h2 : k = o + B.length) : S.extract o k = ⟨B.toArray⟩ := by
  obtain ⟨P, Q, e, hP⟩ := h.ex
  have e1 : (S.extract o k).data.toList = B := by
    rw [Lib.extract_data, e, ← hP, List.drop_left, show k - P.length = B.length from by omega, List.take_left]
  rw [← e1]

/-- the lines come back -/
def Lined (Bs : List (List UInt8)) (w : World) (e : Ending) (w' : World) : Prop :=
  ∃ g cap, e = .returned (.tuple #[.slice (some ⟨g, 0, none⟩) Bs.length cap, .bool true]) ∧ Buf w' w.heap.size (.slice (some ⟨g, 0, none⟩) Bs.length cap) Bs ∧ Turn w w' (fun _ => False)

set_option maxRecDepth 100000 in
set_option maxHeartbeats 2000000 in
theorem zzLines_any (S : ByteArray) (Bs : List (List UInt8)) (w : World) (hS : S.data.toList = (withNL Bs).flatten) (hn : 0 < Bs.length) (hb : Bs.length ≤ 8210) (hno : ∀ B ∈ Bs, ∀ x ∈ B, x ≠ 10) (hsz : S.size ≤ 140737488355328) :
    Calls Tryf.prog 19 #[.string S] w (Lined Bs w) := by
  obtain ⟨i0, hi, hz0, hz1, hz2⟩ := info_parts infoString
  have hmid : ∀ j, j < Bs.length → Mid S (off Bs j) (Bs.getD j []) := fun j hj => ⟨by rw [hS]; exact flat_split Bs j hj⟩
  have hfull : off Bs Bs.length = S.size := by
    rw [off_full, ← hS]
    simp
  have hpos : 0 < S.size := by have := (hmid 0 hn).size; omega
  have hne0 : ((S.size : Int) == 0) = false := by rw [beq_eq_false_iff_ne]; omega
  have hlast : S[S.size - 1]'(Nat.sub_lt hpos Nat.one_pos) = 10 := (hmid (Bs.length - 1) (by omega)).stop _ (by
    have h1 := off_succ Bs (Bs.length - 1) (by omega)
    rw [show Bs.length - 1 + 1 = Bs.length from by omega, hfull] at h1
    omega) (by omega)
  have HM := Lib.hid hmid
  have HF := Lib.hid hfull
  have HN := Lib.hid hno
  clear hmid hfull hno hS
  go_enter Tryf.func19, Tryf.ntmps19
  go_wp2
  have hrow0 : Buf (w.alloc (.cells #[] 9)) w.heap.size (.slice (some ⟨w.heap.size, 0, none⟩) 0 0) [] :=
    ⟨rfl, .inr ⟨w.heap.size, 0, #[], rfl, Nat.le_refl _, alloc_blk _ _, Nat.le_refl _, Nat.zero_le _, rfl, rfl⟩⟩
  have T0 : Turn w (w.alloc (.cells #[] 9)) (fun _ => False) := (Turn.refl w _).alloc _
  clear hlast hne0
  go_loopw [4, 5, 6] (fun v st i wr => ∃ (j o K g cap : Nat), j ≤ Bs.length ∧ st = .int .i64 o ∧ i = .int .i64 K ∧ o = off Bs j ∧ o ≤ K ∧ K ≤ S.size ∧ (j < Bs.length → K ≤ o + (Bs.getD j []).length) ∧ (j = Bs.length → K = o) ∧ v = .slice (some ⟨g, 0, none⟩) j cap ∧ Buf wr w.heap.size v (Bs.take j) ∧ Turn w wr (fun _ => False)) (fun _ _ i _ => S.size - (intOf i).toNat)
  case atStart => exact ⟨0, 0, 0, _, _, Nat.zero_le _, rfl, rfl, rfl, Nat.le_refl _, Nat.zero_le _, fun _ => Nat.zero_le _, fun _ => rfl, rfl, hrow0, T0⟩
  case round =>
    clear hrow0 T0
    obtain ⟨j, o, K, g, cap, hj, rfl, rfl, ho, hoK, hKS, hin, hat, rfl, hbuf, hT⟩ := hrel
    by_cases hjl : j < Bs.length
    · have hM := HM.out j hjl
      rw [← ho] at hM
      have hnoB : ∀ x ∈ Bs.getD j [], x ≠ 10 := HN.out _ (by simp [List.getD, hjl])
      have hos := off_succ Bs j hjl
      rw [← ho] at hos
      have htk := take_one_more Bs j hjl
      have hKB := hin hjl
      have hoS := hM.size
      generalize hBq : Bs.getD j [] = B at hM hnoB hos htk hKB hoS
      have HBQ := Lib.hid hBq
      have hKs : K < S.size := by omega
      have HO := Lib.hid ho
      have HOS := Lib.hid hos
      have HTK := Lib.hid htk
      have HMM := Lib.hid hM
      have HNB := Lib.hid hnoB
      clear ho hos htk hM hnoB hin hat hBq
      by_cases hend : K = o + B.length
      · have h10 := HMM.out.stop K hend hKs
        have hcut := HMM.out.cut K hend
        have hjn : (Bs.take j).length = j := by rw [List.length_take]; omega
        have hszr := hT.size
        have HJ := Lib.hid hjn
        have HE := Lib.hid hend
        have hbuf' : wr.ownsRow w.heap.size 9 1 (.slice (some ⟨g, 0, none⟩) j cap) j (bs (Bs.take j)) := by
          have := hbuf
          unfold Buf at this
          rwa [hjn] at this
        have hgl := (hbuf'.lt g rfl).2
        have hgb := (hbuf'.lt g rfl).1
        have HU := Lib.hid hbuf
        clear hjn hend hbuf
        go_wp2_with (at_builtin; refine wpList_append_own_at _ rfl _ _ 31 rfl w.heap.size 9 i0 (.string ByteArray.empty) 1 16 Tryf.underlying31 hi hz0 hz1 hz2 rfl (by decide) (.slice (some ⟨g, 0, none⟩) j cap) j (bs (Bs.take j)) rfl (World.ownsRow.alloc hbuf' _) ⟨wr.heap.size, 0, none⟩ 1 1 [.string ⟨B.toArray⟩] rfl rfl ?c1 ?c2 ?c3 ?c4 ?c5 ?_)
        case c1 =>
          intro q u hq
          match q, hq with
          | 0, hq => simp at hq; subst hq; go_simp
        case c2 => intro u hu; simp at hu; subst hu; rfl
        case c3 => unfold maxLen; omega
        case c4 => omega
        case c5 => simp; omega
        intro v' w5 hown hgrow _ _
        obtain ⟨g', cap', rfl, _⟩ := shape_of_owned hown (by omega)
        have hG := HU.out.grow ((Turn.refl wr (fun _ => False)).alloc (.cells #[.string ⟨B.toArray⟩] 9)) hgl (x := B) (by rw [HJ.out]; exact hown) hgrow
        rw [← HTK.out] at hG
        have HG := Lib.hid hG
        have HT := Lib.hid (hT.trans' hG.2 (fun q hq e => by omega))
        clear hown hgrow hG HU hbuf' hT hcut h10
        go_wp2
        go_roundw
        case rel => exact ⟨j + 1, K + 1, K + 1, g', cap', by omega, by go_num, by go_num, by rw [HOS.out, HE.out], by omega, by omega, fun _ => by omega, fun _ => rfl, rfl, HG.out.1, HT.out⟩
        case measure => simp [intOf]; omega
      · have hne := HMM.out.inside HNB.out K hoK (by omega) hKs
        have HU := Lib.hid hbuf
        have HD := Lib.hid hend
        clear hbuf hend
        go_wp2
        go_roundw
        case rel =>
          have hD := HD.out
          exact ⟨j, o, K + 1, g, cap, hj, rfl, by go_num, HO.out, by omega, by omega, fun _ => by rw [HBQ.out]; omega, fun h => absurd h (by omega), rfl, HU.out, hT⟩
        case measure => simp [intOf]; omega
    · have hjn : j = Bs.length := by omega
      have hK := hat hjn
      have hf := HF.out
      rw [hjn] at ho
      rw [hf] at ho
      have hKe : K = S.size := by omega
      have hbuf2 : Buf wr w.heap.size (.slice (some ⟨g, 0, none⟩) j cap) Bs := by
        have := hbuf
        rwa [hjn, List.take_length, ← hjn] at this
      have HU := Lib.hid hbuf2
      have HJ := Lib.hid hjn
      clear hbuf hbuf2 ho hf hK hin hat hoK
      subst hKe
      go_wp2
      go_ret2
      exact ⟨g, cap, by rw [HJ.out]; rfl, by rw [← HJ.out]; exact HU.out, hT⟩
end Go.Proofs.YtdljljnjijkbjaaFmt
