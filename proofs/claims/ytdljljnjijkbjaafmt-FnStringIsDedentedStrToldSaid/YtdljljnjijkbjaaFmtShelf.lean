/-
  DERIVED: THE SHELF's CONTRACTS AT THIS DUMP, IN PLAIN WORDS (tools/lay-plain.mjs out of 'TryfShelf.lean', which tools/lay-shelf.mjs wrote): THE SAME DECLARATIONS UNDER THE SAME NAMES: 'import', 'namespace', 'open', 'def', 'theorem' AND NOTHING ELSE: no command of the shelf's: FOR A HAND-IN. Each laying: the table of numbers ('.._ren') and one theorem, a field a fact of the dump's own or the kernel's comparison; each contract: ONE APPLICATION.
-/
import Derived.Shelf.Strings.Builder1
import Derived.Shelf.Strings.Builder2
import Derived.Shelf.Strings.OnBuilder
import Derived.Shelf.Strings.BuilderF
import Derived.Shelf.Strings.Prefix
import Derived.Shelf.Bits.Mul64
import Derived.Shelf.Strings.Repeat
import Derived.Test.YtdljljnjijkbjaaFmtProg
namespace Go.Proofs
open Go.Shelf
def Tryf.lays170_ren : Go.Shelf.Ren := ⟨fun | 170 => 32 | n => n, fun | 70 => 63 | 3 => 3 | 0 => 0 | 72 => 65 | 37 => 51 | 5 => 5 | n => n, fun | n => n⟩
theorem Tryf.lays170 : Go.Proofs.Lays.n170 Tryf.prog Tryf.lays170_ren := {
  mixed := by kernel_rfl
  f170 := Tryf.func32.trans (congrArg some (by kernel_rfl))
  t0 := Tryf.underlying0
  a0 := Tryf.isAgg0
  z0 := Tryf.sizeOf0
  v0 := Tryf.zeroValue0
  t3 := Tryf.underlying3
  a3 := Tryf.isAgg3
  z3 := Tryf.sizeOf3
  v3 := Tryf.zeroValue3
  t37 := Tryf.underlying51
  a37 := Tryf.isAgg51
  z37 := Tryf.sizeOf51
  v37 := Tryf.zeroValue51
  t70 := Tryf.underlying63
  a70 := Tryf.isAgg63
  z70 := Tryf.sizeOf63
  v70 := Tryf.zeroValue63
  t72 := Tryf.underlying65
  a72 := Tryf.isAgg65
  z72 := Tryf.sizeOf65
  v72 := Tryf.zeroValue65 }
open Go.RowKit in
/-- (*strings.Builder).Len: "Len returns the number of accumulated bytes; b.Len() == len(b.String()).": the world is as it was. (LAID: no walk: one application.) -/
theorem Tryf.Builder_Len (B b : Nat) (bs : List Value) (w : World) (h : Lib.IsBuilder 65 5 B b bs w) :
    Calls Tryf.prog 32 #[.pointer (some ⟨b, 0, none⟩)] w fun e w' => e = .returned (.int .i64 bs.length) ∧ w' = w := Any.Builder_Len Tryf.lays170 B b bs w h
def Tryf.lays169_ren : Go.Shelf.Ren := ⟨fun | 169 => 33 | n => n, fun | 70 => 63 | 9 => 9 | 0 => 0 | 72 => 65 | 37 => 51 | 127 => 83 | 3 => 3 | 5 => 5 | n => n, fun | n => n⟩
theorem Tryf.lays169 : Go.Proofs.Lays.n169 Tryf.prog Tryf.lays169_ren := {
  mixed := by kernel_rfl
  f169 := Tryf.func33.trans (congrArg some (by kernel_rfl))
  t0 := Tryf.underlying0
  a0 := Tryf.isAgg0
  z0 := Tryf.sizeOf0
  v0 := Tryf.zeroValue0
  t3 := Tryf.underlying3
  a3 := Tryf.isAgg3
  z3 := Tryf.sizeOf3
  v3 := Tryf.zeroValue3
  t9 := Tryf.underlying9
  a9 := Tryf.isAgg9
  z9 := Tryf.sizeOf9
  v9 := Tryf.zeroValue9
  t37 := Tryf.underlying51
  a37 := Tryf.isAgg51
  z37 := Tryf.sizeOf51
  v37 := Tryf.zeroValue51
  t70 := Tryf.underlying63
  a70 := Tryf.isAgg63
  z70 := Tryf.sizeOf63
  v70 := Tryf.zeroValue63
  t72 := Tryf.underlying65
  a72 := Tryf.isAgg65
  z72 := Tryf.sizeOf65
  v72 := Tryf.zeroValue65
  t127 := Tryf.underlying83
  a127 := Tryf.isAgg83
  z127 := Tryf.sizeOf83
  v127 := Tryf.zeroValue83 }
theorem Tryf.Builder_Extra_169 : Builder.Extra Tryf.prog Tryf.lays169_ren := {
  sizeBuilder := by kernel_rfl
  liesBuilder := by kernel_rfl
  t5 := Tryf.underlying5
  a5 := Tryf.isAgg5
  z5 := Tryf.sizeOf5
  v5 := Tryf.zeroValue5
  infoByte := by kernel_rfl
  cellsByte := by kernel_rfl
  sizeByte := by kernel_rfl
  neB5 := by decide }
open Go.RowKit in
/-- (*strings.Builder).String: "String returns the accumulated string.": OF A BUILDER THAT HOLDS AT LEAST ONE BYTE. ✋ THE MODEL FREEZES THOSE BYTES IN THE BUFFER (unsafe.String): a later write INTO them ends the model's run without an answer; a later append BEHIND them goes on. The statement's order of evaluation is drawn: one draw. (LAID: no walk: one application.) -/
theorem Tryf.Builder_String (B b : Nat) (l : List UInt8) (w : World) (h : Lib.IsBuilder 65 5 B b (Lib.byteCells l) w) (h0 : l ≠ []) :
    Calls Tryf.prog 33 #[.pointer (some ⟨b, 0, none⟩)] w fun e w' => e = .returned (.string ⟨l.toArray⟩) ∧ Below B w w' := Any.Builder_String Tryf.lays169 Tryf.Builder_Extra_169 B b l w h h0
open Go.RowKit in
/-- (*strings.Builder).String OF A BUILDER THAT HOLDS NO BYTE: the empty string. (Its buffer is nil, or a row of which it has taken nothing yet; where that row has NO capacity the model lays one new block for unsafe.SliceData's 'some address'.) One draw. (LAID: no walk: one application.) -/
theorem Tryf.Builder_String_empty (B b : Nat) (w : World) (h : Lib.IsBuilder 65 5 B b [] w) (hBw : B ≤ w.heap.size) :
    Calls Tryf.prog 33 #[.pointer (some ⟨b, 0, none⟩)] w fun e w' => e = .returned (.string ⟨#[]⟩) ∧ Below B w w' := Any.Builder_String_empty Tryf.lays169 Tryf.Builder_Extra_169 B b w h hBw
open Go.RowKit in
/-- (*strings.Builder).String: "String returns the accumulated string.": WHATEVER THE BUILDER HOLDS. (LAID: no walk: one application.) -/
theorem Tryf.Builder_String_any (B b : Nat) (l : List UInt8) (w : World) (h : Lib.IsBuilder 65 5 B b (Lib.byteCells l) w) (hBw : B ≤ w.heap.size) :
    Calls Tryf.prog 33 #[.pointer (some ⟨b, 0, none⟩)] w fun e w' => e = .returned (.string ⟨l.toArray⟩) ∧ Below B w w' := Any.Builder_String_any Tryf.lays169 Tryf.Builder_Extra_169 B b l w h hBw
def Tryf.lays241_ren : Go.Shelf.Ren := ⟨fun | 241 => 43 | 277 => 45 | n => n, fun | 70 => 63 | 3 => 3 | 0 => 0 | 72 => 65 | 37 => 51 | 5 => 5 | n => n, fun | n => n⟩
theorem Tryf.lays241 : Go.Proofs.Lays.n241 Tryf.prog Tryf.lays241_ren := {
  mixed := by kernel_rfl
  f241 := Tryf.func43.trans (congrArg some (by kernel_rfl))
  f277 := Tryf.func45.trans (congrArg some (by kernel_rfl))
  t0 := Tryf.underlying0
  a0 := Tryf.isAgg0
  z0 := Tryf.sizeOf0
  v0 := Tryf.zeroValue0
  t3 := Tryf.underlying3
  a3 := Tryf.isAgg3
  z3 := Tryf.sizeOf3
  v3 := Tryf.zeroValue3
  t37 := Tryf.underlying51
  a37 := Tryf.isAgg51
  z37 := Tryf.sizeOf51
  v37 := Tryf.zeroValue51
  t70 := Tryf.underlying63
  a70 := Tryf.isAgg63
  z70 := Tryf.sizeOf63
  v70 := Tryf.zeroValue63
  t72 := Tryf.underlying65
  a72 := Tryf.isAgg65
  z72 := Tryf.sizeOf65
  v72 := Tryf.zeroValue65 }
theorem Tryf.Builder_Extra_241 : Builder.Extra Tryf.prog Tryf.lays241_ren := {
  sizeBuilder := by kernel_rfl
  liesBuilder := by kernel_rfl
  t5 := Tryf.underlying5
  a5 := Tryf.isAgg5
  z5 := Tryf.sizeOf5
  v5 := Tryf.zeroValue5
  infoByte := by kernel_rfl
  cellsByte := by kernel_rfl
  sizeByte := by kernel_rfl
  neB5 := by decide }
open Go.RowKit in
/-- (*strings.Builder).grow (no doc but "grow copies the buffer to a new, larger buffer so that there are at least n bytes of capacity beyond len(b.buf)."): AT A BUILDER WITHOUT A BUFFER: a new row of whatever bytes for its buffer, none of them its own yet. Three draws. (LAID: no walk: one application.) -/
theorem Tryf.Builder_grow_fresh (B b n : Nat) (w : World) (hB : B ≤ b) (hbk : w.heap[b]? = some (.cells #[.pointer (some ⟨b, 0, none⟩), .slice none 0 0] 65 (0, 0))) (hBw : B ≤ w.heap.size) (hn : n ≤ 281474976710656) :
    Calls Tryf.prog 43 #[.pointer (some ⟨b, 0, none⟩), .int .i64 n] w fun e w' => e = .returned (.tuple #[]) ∧ (Lib.BuilderAt 65 5 B b (.pointer (some ⟨b, 0, none⟩)) [] w' ∧ Below B w w') := Any.Builder_grow_fresh Tryf.lays241 Tryf.Builder_Extra_241 B b n w hB hbk hBw hn
def Tryf.lays165_ren : Go.Shelf.Ren := ⟨fun | 165 => 30 | 240 => 42 | 241 => 43 | 276 => 44 | 277 => 45 | n => n, fun | 70 => 63 | 3 => 3 | 0 => 0 | 4 => 4 | 9 => 9 | 20 => 20 | 72 => 65 | 37 => 51 | 164 => 84 | 5 => 5 | n => n, fun | n => n⟩
theorem Tryf.lays165 : Go.Proofs.Lays.n165 Tryf.prog Tryf.lays165_ren := {
  mixed := by kernel_rfl
  f165 := Tryf.func30.trans (congrArg some (by kernel_rfl))
  f240 := Tryf.func42.trans (congrArg some (by kernel_rfl))
  f241 := Tryf.func43.trans (congrArg some (by kernel_rfl))
  f276 := Tryf.func44.trans (congrArg some (by kernel_rfl))
  f277 := Tryf.func45.trans (congrArg some (by kernel_rfl))
  t0 := Tryf.underlying0
  a0 := Tryf.isAgg0
  z0 := Tryf.sizeOf0
  v0 := Tryf.zeroValue0
  t3 := Tryf.underlying3
  a3 := Tryf.isAgg3
  z3 := Tryf.sizeOf3
  v3 := Tryf.zeroValue3
  t4 := Tryf.underlying4
  a4 := Tryf.isAgg4
  z4 := Tryf.sizeOf4
  v4 := Tryf.zeroValue4
  t9 := Tryf.underlying9
  a9 := Tryf.isAgg9
  z9 := Tryf.sizeOf9
  v9 := Tryf.zeroValue9
  t20 := Tryf.underlying20
  a20 := Tryf.isAgg20
  z20 := Tryf.sizeOf20
  v20 := Tryf.zeroValue20
  t37 := Tryf.underlying51
  a37 := Tryf.isAgg51
  z37 := Tryf.sizeOf51
  v37 := Tryf.zeroValue51
  t70 := Tryf.underlying63
  a70 := Tryf.isAgg63
  z70 := Tryf.sizeOf63
  v70 := Tryf.zeroValue63
  t72 := Tryf.underlying65
  a72 := Tryf.isAgg65
  z72 := Tryf.sizeOf65
  v72 := Tryf.zeroValue65
  t164 := Tryf.underlying84
  a164 := Tryf.isAgg84
  z164 := Tryf.sizeOf84
  v164 := Tryf.zeroValue84 }
theorem Tryf.Builder_Extra_165 : Builder.Extra Tryf.prog Tryf.lays165_ren := {
  sizeBuilder := by kernel_rfl
  liesBuilder := by kernel_rfl
  t5 := Tryf.underlying5
  a5 := Tryf.isAgg5
  z5 := Tryf.sizeOf5
  v5 := Tryf.zeroValue5
  infoByte := by kernel_rfl
  cellsByte := by kernel_rfl
  sizeByte := by kernel_rfl
  neB5 := by decide }
open Go.RowKit in
/-- (*strings.Builder).Grow AT A BUILDER THAT HAS NOT BEEN WRITTEN ('var b strings.Builder; b.Grow(n)'): "Grow grows b's capacity, if necessary, to guarantee space for another n bytes.": it holds no byte behind it as before it. (LAID: no walk: one application.) -/
theorem Tryf.Builder_Grow_fresh (B b n : Nat) (w : World) (hB : B ≤ b) (hbk : w.heap[b]? = some (.cells #[.pointer none, .slice none 0 0] 65 (0, 0))) (hBw : B ≤ w.heap.size) (hn : n ≤ 281474976710656) :
    Calls Tryf.prog 30 #[.pointer (some ⟨b, 0, none⟩), .int .i64 n] w fun e w' => e = .returned (.tuple #[]) ∧ (Lib.BuilderAt 65 5 B b (.pointer (some ⟨b, 0, none⟩)) [] w' ∧ Below B w w') := Any.Builder_Grow_fresh Tryf.lays165 Tryf.Builder_Extra_165 B b n w hB hbk hBw hn
def Tryf.lays156_ren : Go.Shelf.Ren := ⟨fun | 156 => 27 | 165 => 30 | 166 => 31 | 169 => 33 | 240 => 42 | 241 => 43 | 276 => 44 | 277 => 45 | n => n, fun | 31 => 31 | 9 => 9 | 3 => 3 | 4 => 4 | 0 => 0 | 20 => 20 | 72 => 65 | 76 => 69 | 70 => 63 | 37 => 51 | 75 => 68 | 127 => 83 | 164 => 84 | 5 => 5 | 80 => 35 | n => n, fun | n => n⟩
theorem Tryf.lays156 : Go.Proofs.Lays.n156 Tryf.prog Tryf.lays156_ren := {
  mixed := by kernel_rfl
  f156 := Tryf.func27.trans (congrArg some (by kernel_rfl))
  f165 := Tryf.func30.trans (congrArg some (by kernel_rfl))
  f166 := Tryf.func31.trans (congrArg some (by kernel_rfl))
  f169 := Tryf.func33.trans (congrArg some (by kernel_rfl))
  f240 := Tryf.func42.trans (congrArg some (by kernel_rfl))
  f241 := Tryf.func43.trans (congrArg some (by kernel_rfl))
  f276 := Tryf.func44.trans (congrArg some (by kernel_rfl))
  f277 := Tryf.func45.trans (congrArg some (by kernel_rfl))
  t0 := Tryf.underlying0
  a0 := Tryf.isAgg0
  z0 := Tryf.sizeOf0
  v0 := Tryf.zeroValue0
  t3 := Tryf.underlying3
  a3 := Tryf.isAgg3
  z3 := Tryf.sizeOf3
  v3 := Tryf.zeroValue3
  t4 := Tryf.underlying4
  a4 := Tryf.isAgg4
  z4 := Tryf.sizeOf4
  v4 := Tryf.zeroValue4
  t9 := Tryf.underlying9
  a9 := Tryf.isAgg9
  z9 := Tryf.sizeOf9
  v9 := Tryf.zeroValue9
  t20 := Tryf.underlying20
  a20 := Tryf.isAgg20
  z20 := Tryf.sizeOf20
  v20 := Tryf.zeroValue20
  t31 := Tryf.underlying31
  a31 := Tryf.isAgg31
  z31 := Tryf.sizeOf31
  v31 := Tryf.zeroValue31
  t37 := Tryf.underlying51
  a37 := Tryf.isAgg51
  z37 := Tryf.sizeOf51
  v37 := Tryf.zeroValue51
  t70 := Tryf.underlying63
  a70 := Tryf.isAgg63
  z70 := Tryf.sizeOf63
  v70 := Tryf.zeroValue63
  t72 := Tryf.underlying65
  a72 := Tryf.isAgg65
  z72 := Tryf.sizeOf65
  v72 := Tryf.zeroValue65
  t75 := Tryf.underlying68
  a75 := Tryf.isAgg68
  z75 := Tryf.sizeOf68
  v75 := Tryf.zeroValue68
  t76 := Tryf.underlying69
  a76 := Tryf.isAgg69
  z76 := Tryf.sizeOf69
  v76 := Tryf.zeroValue69
  t127 := Tryf.underlying83
  a127 := Tryf.isAgg83
  z127 := Tryf.sizeOf83
  v127 := Tryf.zeroValue83
  t164 := Tryf.underlying84
  a164 := Tryf.isAgg84
  z164 := Tryf.sizeOf84
  v164 := Tryf.zeroValue84 }
theorem Tryf.Builder_Extra_156 : Builder.Extra Tryf.prog Tryf.lays156_ren := {
  sizeBuilder := by kernel_rfl
  liesBuilder := by kernel_rfl
  t5 := Tryf.underlying5
  a5 := Tryf.isAgg5
  z5 := Tryf.sizeOf5
  v5 := Tryf.zeroValue5
  infoByte := by kernel_rfl
  cellsByte := by kernel_rfl
  sizeByte := by kernel_rfl
  neB5 := by decide }
open Go.RowKit in
/-- No element: the empty string; the world is as it was. (Whatever the slice's address and capacity: a nil slice too.) (LAID: no walk: one application.) -/
theorem Tryf.strings_Join_none (a : Option Addr) (c : Nat) (sep : ByteArray) (w : World) :
    Calls Tryf.prog 27 #[.slice a 0 c, .string sep] w fun e w' => e = .returned (.string ⟨#[]⟩) ∧ w' = w := Any.strings_Join_none Tryf.lays156 Tryf.Builder_Extra_156 a c sep w
open Go.RowKit in
/-- strings.Join: "Join concatenates the elements of its first argument to create a single string. The separator string sep is placed between elements in the resulting string.": HOWEVER MANY ELEMENTS. Below the heap's end the world is as it was. (LAID: no walk: one application.) -/
theorem Tryf.strings_Join (bk o c : Nat) (xs : List ByteArray) (sep : ByteArray) (w : World) (hcells : ∀ (j : Nat) x, xs[j]? = some x → w.cell? ⟨bk, o + j, none⟩ = some (.string x)) (hbk : bk < w.heap.size) (hN : xs.length ≤ 140737488355328) (hcap : xs.length ≤ c) (hlen : (Lib.join (xs.map (·.data.toList)) sep.data.toList).length ≤ 140737488355328) :
    Calls Tryf.prog 27 #[.slice (some ⟨bk, o, none⟩) xs.length c, .string sep] w fun e w' => e = .returned (.string ⟨(Lib.join (xs.map (·.data.toList)) sep.data.toList).toArray⟩) ∧ Below w.heap.size w w' := Any.strings_Join Tryf.lays156 Tryf.Builder_Extra_156 bk o c xs sep w hcells hbk hN hcap hlen
open Go.RowKit in
/-- (*strings.Builder).Len: "Len returns the number of accumulated bytes; b.Len() == len(b.String()).": the world is as it was. (THE FORM '_f': 'Lib.IsBuilderF'.) (LAID: no walk: one application.) -/
theorem Tryf.Builder_Len_f (B b : Nat) (bs : List Value) (w : World) (h : Lib.IsBuilderF 65 5 B b bs w) :
    Calls Tryf.prog 32 #[.pointer (some ⟨b, 0, none⟩)] w fun e w' => e = .returned (.int .i64 bs.length) ∧ w' = w := Any.Builder_Len_f Tryf.lays170 B b bs w h
open Go.RowKit in
/-- (*strings.Builder).String: "String returns the accumulated string.": OF A BUILDER THAT HOLDS AT LEAST ONE BYTE. ✋ THE MODEL FREEZES THOSE BYTES IN THE BUFFER (unsafe.String): a later write INTO them ends the model's run without an answer; a later append BEHIND them goes on. The statement's order of evaluation is drawn: one draw. THE FORM '_f': IT SAYS BESIDES THAT THE BUILDER IS A BUILDER STILL ('Lib.IsBuilderF', the same bytes): SO IT CAN BE WRITTEN ON: 'b.WriteString(b.String()[:k])'. (LAID: no walk: one application.) -/
theorem Tryf.Builder_String_f (B b : Nat) (l : List UInt8) (w : World) (h : Lib.IsBuilderF 65 5 B b (Lib.byteCells l) w) (h0 : l ≠ []) :
    Calls Tryf.prog 33 #[.pointer (some ⟨b, 0, none⟩)] w fun e w' => e = .returned (.string ⟨l.toArray⟩) ∧ (Lib.IsBuilderF 65 5 B b (Lib.byteCells l) w' ∧ Below B w w') := Any.Builder_String_f Tryf.lays169 Tryf.Builder_Extra_169 B b l w h h0
open Go.RowKit in
/-- (*strings.Builder).String OF A BUILDER THAT HOLDS NO BYTE: the empty string; THE FORM '_f': a builder still. (LAID: no walk: one application.) -/
theorem Tryf.Builder_String_empty_f (B b : Nat) (w : World) (h : Lib.IsBuilderF 65 5 B b [] w) (hBw : B ≤ w.heap.size) :
    Calls Tryf.prog 33 #[.pointer (some ⟨b, 0, none⟩)] w fun e w' => e = .returned (.string ⟨#[]⟩) ∧ (Lib.IsBuilderF 65 5 B b [] w' ∧ Below B w w') := Any.Builder_String_empty_f Tryf.lays169 Tryf.Builder_Extra_169 B b w h hBw
open Go.RowKit in
/-- (*strings.Builder).String: "String returns the accumulated string.": WHATEVER THE BUILDER HOLDS; THE FORM '_f': OF A BUILDER THAT MAY HAVE BEEN READ BEFORE; AND IT IS A BUILDER STILL, holding the same bytes: it can be written on. (LAID: no walk: one application.) -/
theorem Tryf.Builder_String_any_f (B b : Nat) (l : List UInt8) (w : World) (h : Lib.IsBuilderF 65 5 B b (Lib.byteCells l) w) (hBw : B ≤ w.heap.size) :
    Calls Tryf.prog 33 #[.pointer (some ⟨b, 0, none⟩)] w fun e w' => e = .returned (.string ⟨l.toArray⟩) ∧ (Lib.IsBuilderF 65 5 B b (Lib.byteCells l) w' ∧ Below B w w') := Any.Builder_String_any_f Tryf.lays169 Tryf.Builder_Extra_169 B b l w h hBw
def Tryf.lays206_ren : Go.Shelf.Ren := ⟨fun | 206 => 41 | n => n, fun | 9 => 9 | 4 => 4 | 3 => 3 | n => n, fun | n => n⟩
theorem Tryf.lays206 : Go.Proofs.Lays.n206 Tryf.prog Tryf.lays206_ren := {
  mixed := by kernel_rfl
  f206 := Tryf.func41.trans (congrArg some (by kernel_rfl))
  t3 := Tryf.underlying3
  a3 := Tryf.isAgg3
  z3 := Tryf.sizeOf3
  v3 := Tryf.zeroValue3
  t4 := Tryf.underlying4
  a4 := Tryf.isAgg4
  z4 := Tryf.sizeOf4
  v4 := Tryf.zeroValue4
  t9 := Tryf.underlying9
  a9 := Tryf.isAgg9
  z9 := Tryf.sizeOf9
  v9 := Tryf.zeroValue9 }
open Go.RowKit Go.Lib in
/-- internal/stringslite.HasPrefix (what strings.HasPrefix calls). (LAID: no walk: one application.) -/
theorem Tryf.stringslite_HasPrefix (s p : ByteArray) (w : World) :
    Calls Tryf.prog 41 #[.string s, .string p] w fun e w' => e = .returned (.bool (Lib.hasPrefix s.data.toList p.data.toList)) ∧ w' = w := Any.stringslite_HasPrefix Tryf.lays206 s p w
def Tryf.lays99_ren : Go.Shelf.Ren := ⟨fun | 99 => 29 | 206 => 41 | n => n, fun | 9 => 9 | 4 => 4 | 3 => 3 | n => n, fun | n => n⟩
theorem Tryf.lays99 : Go.Proofs.Lays.n99 Tryf.prog Tryf.lays99_ren := {
  mixed := by kernel_rfl
  f99 := Tryf.func29.trans (congrArg some (by kernel_rfl))
  f206 := Tryf.func41.trans (congrArg some (by kernel_rfl))
  t3 := Tryf.underlying3
  a3 := Tryf.isAgg3
  z3 := Tryf.sizeOf3
  v3 := Tryf.zeroValue3
  t4 := Tryf.underlying4
  a4 := Tryf.isAgg4
  z4 := Tryf.sizeOf4
  v4 := Tryf.zeroValue4
  t9 := Tryf.underlying9
  a9 := Tryf.isAgg9
  z9 := Tryf.sizeOf9
  v9 := Tryf.zeroValue9 }
open Go.RowKit Go.Lib in
/-- strings.HasPrefix: "HasPrefix reports whether the string s begins with prefix.": IT RETURNS 'Lib.hasPrefix s prefix'; the world is as it was. (LAID: no walk: one application.) -/
theorem Tryf.strings_HasPrefix (s p : ByteArray) (w : World) :
    Calls Tryf.prog 29 #[.string s, .string p] w fun e w' => e = .returned (.bool (Lib.hasPrefix s.data.toList p.data.toList)) ∧ w' = w := Any.strings_HasPrefix Tryf.lays99 s p w
def Tryf.lays264_ren : Go.Shelf.Ren := ⟨fun | 264 => 40 | n => n, fun | 53 => 80 | 46 => 60 | n => n, fun | n => n⟩
theorem Tryf.lays264 : Go.Proofs.Lays.n264 Tryf.prog Tryf.lays264_ren := {
  mixed := by kernel_rfl
  f264 := Tryf.func40.trans (congrArg some (by kernel_rfl))
  t46 := Tryf.underlying60
  a46 := Tryf.isAgg60
  z46 := Tryf.sizeOf60
  v46 := Tryf.zeroValue60
  t53 := Tryf.underlying80
  a53 := Tryf.isAgg80
  z53 := Tryf.sizeOf80
  v53 := Tryf.zeroValue80 }
open Go.RowKit Go.Lib in
theorem Tryf.bits_Mul64 (x y : Nat) (hx : x < 18446744073709551616) (hy : y < 18446744073709551616) (w : World) :
    Calls Tryf.prog 40 #[.int .u64 x, .int .u64 y] w fun e w' => e = .returned (.tuple #[.int .u64 ((x * y / 18446744073709551616 : Nat) : Int), .int .u64 ((x * y % 18446744073709551616 : Nat) : Int)]) ∧ w' = w := Any.bits_Mul64 Tryf.lays264 x y hx hy w
def Tryf.lays212_ren : Go.Shelf.Ren := ⟨fun | 212 => 28 | 263 => 39 | 264 => 40 | n => n, fun | 46 => 60 | 51 => 56 | 146 => 78 | 53 => 80 | 148 => 81 | n => n, fun | n => n⟩
theorem Tryf.lays212 : Go.Proofs.Lays.n212 Tryf.prog Tryf.lays212_ren := {
  mixed := by kernel_rfl
  f212 := Tryf.func28.trans (congrArg some (by kernel_rfl))
  f263 := Tryf.func39.trans (congrArg some (by kernel_rfl))
  f264 := Tryf.func40.trans (congrArg some (by kernel_rfl))
  t46 := Tryf.underlying60
  a46 := Tryf.isAgg60
  z46 := Tryf.sizeOf60
  v46 := Tryf.zeroValue60
  t51 := Tryf.underlying56
  a51 := Tryf.isAgg56
  z51 := Tryf.sizeOf56
  v51 := Tryf.zeroValue56
  t53 := Tryf.underlying80
  a53 := Tryf.isAgg80
  z53 := Tryf.sizeOf80
  v53 := Tryf.zeroValue80
  t146 := Tryf.underlying78
  a146 := Tryf.isAgg78
  z146 := Tryf.sizeOf78
  v146 := Tryf.zeroValue78
  t148 := Tryf.underlying81
  a148 := Tryf.isAgg81
  z148 := Tryf.sizeOf81
  v148 := Tryf.zeroValue81 }
open Go.RowKit Go.Lib in
/-- math/bits.Mul: "Mul returns the full-width product of x and y": on a machine of 64 bits: Mul64's. (LAID: no walk: one application.) -/
theorem Tryf.bits_Mul (x y : Nat) (hx : x < 18446744073709551616) (hy : y < 18446744073709551616) (w : World) :
    Calls Tryf.prog 28 #[.int .u64 x, .int .u64 y] w fun e w' => e = .returned (.tuple #[.int .u64 ((x * y / 18446744073709551616 : Nat) : Int), .int .u64 ((x * y % 18446744073709551616 : Nat) : Int)]) ∧ w' = w := Any.bits_Mul Tryf.lays212 x y hx hy w
def Tryf.lays105_ren : Go.Shelf.Ren := ⟨fun | 105 => 23 | 212 => 28 | 99 => 29 | 165 => 30 | 166 => 31 | 170 => 32 | 169 => 33 | 263 => 39 | 264 => 40 | 206 => 41 | 240 => 42 | 241 => 43 | 276 => 44 | 277 => 45 | n => n, fun | 9 => 9 | 3 => 3 | 4 => 4 | 20 => 20 | 0 => 0 | 46 => 60 | 109 => 61 | 5 => 5 | 72 => 65 | 76 => 69 | 51 => 56 | 146 => 78 | 53 => 80 | 148 => 81 | 70 => 63 | 37 => 51 | 75 => 68 | 127 => 83 | 164 => 84 | 80 => 35 | n => n, fun | n => n⟩
theorem Tryf.lays105 : Go.Proofs.Lays.n105 Tryf.prog Tryf.lays105_ren := {
  mixed := by kernel_rfl
  f99 := Tryf.func29.trans (congrArg some (by kernel_rfl))
  f105 := Tryf.func23.trans (congrArg some (by kernel_rfl))
  f165 := Tryf.func30.trans (congrArg some (by kernel_rfl))
  f166 := Tryf.func31.trans (congrArg some (by kernel_rfl))
  f169 := Tryf.func33.trans (congrArg some (by kernel_rfl))
  f170 := Tryf.func32.trans (congrArg some (by kernel_rfl))
  f206 := Tryf.func41.trans (congrArg some (by kernel_rfl))
  f212 := Tryf.func28.trans (congrArg some (by kernel_rfl))
  f240 := Tryf.func42.trans (congrArg some (by kernel_rfl))
  f241 := Tryf.func43.trans (congrArg some (by kernel_rfl))
  f263 := Tryf.func39.trans (congrArg some (by kernel_rfl))
  f264 := Tryf.func40.trans (congrArg some (by kernel_rfl))
  f276 := Tryf.func44.trans (congrArg some (by kernel_rfl))
  f277 := Tryf.func45.trans (congrArg some (by kernel_rfl))
  t0 := Tryf.underlying0
  a0 := Tryf.isAgg0
  z0 := Tryf.sizeOf0
  v0 := Tryf.zeroValue0
  t3 := Tryf.underlying3
  a3 := Tryf.isAgg3
  z3 := Tryf.sizeOf3
  v3 := Tryf.zeroValue3
  t4 := Tryf.underlying4
  a4 := Tryf.isAgg4
  z4 := Tryf.sizeOf4
  v4 := Tryf.zeroValue4
  t5 := Tryf.underlying5
  a5 := Tryf.isAgg5
  z5 := Tryf.sizeOf5
  v5 := Tryf.zeroValue5
  t9 := Tryf.underlying9
  a9 := Tryf.isAgg9
  z9 := Tryf.sizeOf9
  v9 := Tryf.zeroValue9
  t20 := Tryf.underlying20
  a20 := Tryf.isAgg20
  z20 := Tryf.sizeOf20
  v20 := Tryf.zeroValue20
  t37 := Tryf.underlying51
  a37 := Tryf.isAgg51
  z37 := Tryf.sizeOf51
  v37 := Tryf.zeroValue51
  t46 := Tryf.underlying60
  a46 := Tryf.isAgg60
  z46 := Tryf.sizeOf60
  v46 := Tryf.zeroValue60
  t51 := Tryf.underlying56
  a51 := Tryf.isAgg56
  z51 := Tryf.sizeOf56
  v51 := Tryf.zeroValue56
  t53 := Tryf.underlying80
  a53 := Tryf.isAgg80
  z53 := Tryf.sizeOf80
  v53 := Tryf.zeroValue80
  t70 := Tryf.underlying63
  a70 := Tryf.isAgg63
  z70 := Tryf.sizeOf63
  v70 := Tryf.zeroValue63
  t72 := Tryf.underlying65
  a72 := Tryf.isAgg65
  z72 := Tryf.sizeOf65
  v72 := Tryf.zeroValue65
  t75 := Tryf.underlying68
  a75 := Tryf.isAgg68
  z75 := Tryf.sizeOf68
  v75 := Tryf.zeroValue68
  t76 := Tryf.underlying69
  a76 := Tryf.isAgg69
  z76 := Tryf.sizeOf69
  v76 := Tryf.zeroValue69
  t109 := Tryf.underlying61
  a109 := Tryf.isAgg61
  z109 := Tryf.sizeOf61
  v109 := Tryf.zeroValue61
  t127 := Tryf.underlying83
  a127 := Tryf.isAgg83
  z127 := Tryf.sizeOf83
  v127 := Tryf.zeroValue83
  t146 := Tryf.underlying78
  a146 := Tryf.isAgg78
  z146 := Tryf.sizeOf78
  v146 := Tryf.zeroValue78
  t148 := Tryf.underlying81
  a148 := Tryf.isAgg81
  z148 := Tryf.sizeOf81
  v148 := Tryf.zeroValue81
  t164 := Tryf.underlying84
  a164 := Tryf.isAgg84
  z164 := Tryf.sizeOf84
  v164 := Tryf.zeroValue84 }
theorem Tryf.Builder_Extra_105 : Builder.Extra Tryf.prog Tryf.lays105_ren := {
  sizeBuilder := by kernel_rfl
  liesBuilder := by kernel_rfl
  t5 := Tryf.underlying5
  a5 := Tryf.isAgg5
  z5 := Tryf.sizeOf5
  v5 := Tryf.zeroValue5
  infoByte := by kernel_rfl
  cellsByte := by kernel_rfl
  sizeByte := by kernel_rfl
  neB5 := by decide }
open Go.RowKit Go.Lib in
/-- THE MAIN CASE: at least two copies of a string that is not empty. (LAID: no walk: one application.) -/
theorem Tryf.strings_Repeat_main (s : ByteArray) (c : Nat) (w : World) (hc2 : 2 ≤ c) (hc : c ≤ 9223372036854775807) (hlen : s.size * c ≤ 140737488355328) (h0 : 0 < s.size) :
    Calls Tryf.prog 23 #[.string s, .int .i64 c] w fun e w' => e = .returned (.string ⟨(Lib.repeatL s.data.toList c).toArray⟩) ∧ Below w.heap.size w w' := Any.strings_Repeat_main Tryf.lays105 Tryf.Builder_Extra_105 s c w hc2 hc hlen h0
open Go.RowKit Go.Lib in
theorem Tryf.strings_Repeat_zero (s : ByteArray) (w : World) :
    Calls Tryf.prog 23 #[.string s, .int .i64 0] w fun e w' => e = .returned (.string ⟨#[]⟩) ∧ w' = w := Any.strings_Repeat_zero Tryf.lays105 s w
open Go.RowKit Go.Lib in
theorem Tryf.strings_Repeat_one (s : ByteArray) (w : World) :
    Calls Tryf.prog 23 #[.string s, .int .i64 1] w fun e w' => e = .returned (.string s) ∧ w' = w := Any.strings_Repeat_one Tryf.lays105 s w
open Go.RowKit Go.Lib in
/-- Copies of the empty string. (LAID: no walk: one application.) -/
theorem Tryf.strings_Repeat_empty (s : ByteArray) (c : Nat) (w : World) (hc2 : 2 ≤ c) (hc : c ≤ 9223372036854775807) (h0 : s.size = 0) :
    Calls Tryf.prog 23 #[.string s, .int .i64 c] w fun e w' => e = .returned (.string ⟨#[]⟩) ∧ w' = w := Any.strings_Repeat_empty Tryf.lays105 s c w hc2 hc h0
open Go.RowKit Go.Lib in
/-- count < 0: "It panics if count is negative". (LAID: no walk: one application.) -/
theorem Tryf.strings_Repeat_negative (s : ByteArray) (c : Int) (w : World) (hc : c < 0) :
    Calls Tryf.prog 23 #[.string s, .int .i64 c] w fun e w' => e = .panicked [{ v := repeatPanic Tryf.lays105_ren "strings: negative Repeat count", recovered := false }] ∧ w' = w := Any.strings_Repeat_negative Tryf.lays105 s c w hc
open Go.RowKit Go.Lib in
/-- len(s) * count is no int: ".. or if the result of (len(s) * count) overflows". (LAID: no walk: one application.) -/
theorem Tryf.strings_Repeat_overflow (s : ByteArray) (c : Nat) (w : World) (hc : c ≤ 9223372036854775807) (hs : s.size ≤ 9223372036854775807) (hbig : 9223372036854775807 < s.size * c) :
    Calls Tryf.prog 23 #[.string s, .int .i64 c] w fun e w' => e = .panicked [{ v := repeatPanic Tryf.lays105_ren "strings: Repeat output length overflow", recovered := false }] ∧ w' = w := Any.strings_Repeat_overflow Tryf.lays105 s c w hc hs hbig
open Go.RowKit Go.Lib in
/-- **strings.Repeat: count ≥ 0, the result within one allocation: count copies of s.** (LAID: no walk: one application.) -/
theorem Tryf.strings_Repeat (s : ByteArray) (c : Nat) (w : World) (hc : c ≤ 9223372036854775807) (hlen : s.size * c ≤ 140737488355328) :
    Calls Tryf.prog 23 #[.string s, .int .i64 c] w fun e w' => e = .returned (.string ⟨(Lib.repeatL s.data.toList c).toArray⟩) ∧ Below w.heap.size w w' := Any.strings_Repeat Tryf.lays105 Tryf.Builder_Extra_105 s c w hc hlen
end Go.Proofs
