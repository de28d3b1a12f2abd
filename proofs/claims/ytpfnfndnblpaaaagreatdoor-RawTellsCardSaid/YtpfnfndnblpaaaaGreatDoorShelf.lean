/-
  DERIVED: THE SHELF's CONTRACTS AT THIS DUMP, IN PLAIN WORDS (tools/lay-plain.mjs out of 'TryzShelf.lean', which tools/lay-shelf.mjs wrote): THE SAME DECLARATIONS UNDER THE SAME NAMES: 'import', 'namespace', 'open', 'def', 'theorem' AND NOTHING ELSE: no command of the shelf's: FOR A HAND-IN. Each laying: the table of numbers ('.._ren') and one theorem, a field a fact of the dump's own or the kernel's comparison; each contract: ONE APPLICATION.
-/
import Derived.Shelf.Strings.Builder1
import Derived.Shelf.Strings.Builder2
import Derived.Shelf.Small.Strs
import Derived.Shelf.Strings.BuilderF
import Derived.Shelf.Strings.BuilderK
import Derived.Shelf.Utf8.RuneCount
import Derived.Shelf.Strings.Builder2Cap
import Derived.Shelf.LaysM
import Derived.Shelf.Strconv.Clone
import Derived.Shelf.Strconv.SyntaxError
import Derived.Shelf.LaysC
import Derived.Shelf.Strconv.ToError
import Derived.Shelf.Strconv.Lower
import Derived.Shelf.Strconv.RangeError
import Derived.Shelf.Strconv.ToErrorRange
import Derived.Shelf.Strconv.ParseUintEmpty
import Derived.Shelf.Strings.Search1
import Derived.Shelf.Strings.Search2
import Derived.Shelf.Strings.Search3
import Derived.Shelf.Strings.Cut
import Derived.Shelf.Strings.Count
import Derived.Shelf.Strings.Shaped
import Derived.Shelf.Strings.LastIndex
import Derived.Shelf.Strings.Prefix
import Derived.Shelf.Strings.Split
import Derived.Shelf.Strings.Replace
import Derived.Shelf.Strings.SplitShaped
import Derived.Shelf.Unicode.Decode
import Derived.Shelf.Strings.RuneCount
import Derived.Shelf.Unicode.DecodeSlow
import Derived.Shelf.Unicode.DecodeAny
import Derived.Shelf.Strings.BuilderCap
import Derived.Shelf.Path.Small
import Derived.Test.YtpfnfndnblpaaaaGreatDoorProg
namespace Go.Proofs
open Go.Shelf
def Tryz.lays169_ren : Go.Shelf.Ren := ⟨fun | 169 => 38 | n => n, fun | 70 => 49 | 9 => 9 | 0 => 0 | 72 => 52 | 37 => 50 | 127 => 64 | 3 => 3 | 5 => 5 | n => n, fun | n => n⟩
theorem Tryz.lays169 : Go.Proofs.Lays.n169 Tryz.prog Tryz.lays169_ren := {
  mixed := by kernel_rfl
  f169 := Tryz.func38.trans (congrArg some (by kernel_rfl))
  t0 := Tryz.underlying0
  a0 := Tryz.isAgg0
  z0 := Tryz.sizeOf0
  v0 := Tryz.zeroValue0
  t3 := Tryz.underlying3
  a3 := Tryz.isAgg3
  z3 := Tryz.sizeOf3
  v3 := Tryz.zeroValue3
  t9 := Tryz.underlying9
  a9 := Tryz.isAgg9
  z9 := Tryz.sizeOf9
  v9 := Tryz.zeroValue9
  t37 := Tryz.underlying50
  a37 := Tryz.isAgg50
  z37 := Tryz.sizeOf50
  v37 := Tryz.zeroValue50
  t70 := Tryz.underlying49
  a70 := Tryz.isAgg49
  z70 := Tryz.sizeOf49
  v70 := Tryz.zeroValue49
  t72 := Tryz.underlying52
  a72 := Tryz.isAgg52
  z72 := Tryz.sizeOf52
  v72 := Tryz.zeroValue52
  t127 := Tryz.underlying64
  a127 := Tryz.isAgg64
  z127 := Tryz.sizeOf64
  v127 := Tryz.zeroValue64 }
theorem Tryz.Builder_Extra_169 : Builder.Extra Tryz.prog Tryz.lays169_ren := {
  sizeBuilder := by kernel_rfl
  liesBuilder := by kernel_rfl
  t5 := Tryz.underlying5
  a5 := Tryz.isAgg5
  z5 := Tryz.sizeOf5
  v5 := Tryz.zeroValue5
  infoByte := by kernel_rfl
  cellsByte := by kernel_rfl
  sizeByte := by kernel_rfl
  neB5 := by decide }
open Go.RowKit in
/-- (*strings.Builder).String: "String returns the accumulated string.": OF A BUILDER THAT HOLDS AT LEAST ONE BYTE. ✋ THE MODEL FREEZES THOSE BYTES IN THE BUFFER (unsafe.String): a later write INTO them ends the model's run without an answer; a later append BEHIND them goes on. The statement's order of evaluation is drawn: one draw. (LAID: no walk: one application.) -/
theorem Tryz.Builder_String (B b : Nat) (l : List UInt8) (w : World) (h : Lib.IsBuilder 52 5 B b (Lib.byteCells l) w) (h0 : l ≠ []) :
    Calls Tryz.prog 38 #[.pointer (some ⟨b, 0, none⟩)] w fun e w' => e = .returned (.string ⟨l.toArray⟩) ∧ Below B w w' := Any.Builder_String Tryz.lays169 Tryz.Builder_Extra_169 B b l w h h0
open Go.RowKit in
/-- (*strings.Builder).String OF A BUILDER THAT HOLDS NO BYTE: the empty string. (Its buffer is nil, or a row of which it has taken nothing yet; where that row has NO capacity the model lays one new block for unsafe.SliceData's 'some address'.) One draw. (LAID: no walk: one application.) -/
theorem Tryz.Builder_String_empty (B b : Nat) (w : World) (h : Lib.IsBuilder 52 5 B b [] w) (hBw : B ≤ w.heap.size) :
    Calls Tryz.prog 38 #[.pointer (some ⟨b, 0, none⟩)] w fun e w' => e = .returned (.string ⟨#[]⟩) ∧ Below B w w' := Any.Builder_String_empty Tryz.lays169 Tryz.Builder_Extra_169 B b w h hBw
open Go.RowKit in
/-- (*strings.Builder).String: "String returns the accumulated string.": WHATEVER THE BUILDER HOLDS. (LAID: no walk: one application.) -/
theorem Tryz.Builder_String_any (B b : Nat) (l : List UInt8) (w : World) (h : Lib.IsBuilder 52 5 B b (Lib.byteCells l) w) (hBw : B ≤ w.heap.size) :
    Calls Tryz.prog 38 #[.pointer (some ⟨b, 0, none⟩)] w fun e w' => e = .returned (.string ⟨l.toArray⟩) ∧ Below B w w' := Any.Builder_String_any Tryz.lays169 Tryz.Builder_Extra_169 B b l w h hBw
def Tryz.lays241_ren : Go.Shelf.Ren := ⟨fun | 241 => 93 | 277 => 99 | n => n, fun | 70 => 49 | 3 => 3 | 0 => 0 | 72 => 52 | 37 => 50 | 5 => 5 | n => n, fun | n => n⟩
theorem Tryz.lays241 : Go.Proofs.Lays.n241 Tryz.prog Tryz.lays241_ren := {
  mixed := by kernel_rfl
  f241 := Tryz.func93.trans (congrArg some (by kernel_rfl))
  f277 := Tryz.func99.trans (congrArg some (by kernel_rfl))
  t0 := Tryz.underlying0
  a0 := Tryz.isAgg0
  z0 := Tryz.sizeOf0
  v0 := Tryz.zeroValue0
  t3 := Tryz.underlying3
  a3 := Tryz.isAgg3
  z3 := Tryz.sizeOf3
  v3 := Tryz.zeroValue3
  t37 := Tryz.underlying50
  a37 := Tryz.isAgg50
  z37 := Tryz.sizeOf50
  v37 := Tryz.zeroValue50
  t70 := Tryz.underlying49
  a70 := Tryz.isAgg49
  z70 := Tryz.sizeOf49
  v70 := Tryz.zeroValue49
  t72 := Tryz.underlying52
  a72 := Tryz.isAgg52
  z72 := Tryz.sizeOf52
  v72 := Tryz.zeroValue52 }
theorem Tryz.Builder_Extra_241 : Builder.Extra Tryz.prog Tryz.lays241_ren := {
  sizeBuilder := by kernel_rfl
  liesBuilder := by kernel_rfl
  t5 := Tryz.underlying5
  a5 := Tryz.isAgg5
  z5 := Tryz.sizeOf5
  v5 := Tryz.zeroValue5
  infoByte := by kernel_rfl
  cellsByte := by kernel_rfl
  sizeByte := by kernel_rfl
  neB5 := by decide }
open Go.RowKit in
/-- (*strings.Builder).grow (no doc but "grow copies the buffer to a new, larger buffer so that there are at least n bytes of capacity beyond len(b.buf)."): AT A BUILDER WITHOUT A BUFFER: a new row of whatever bytes for its buffer, none of them its own yet. Three draws. (LAID: no walk: one application.) -/
theorem Tryz.Builder_grow_fresh (B b n : Nat) (w : World) (hB : B ≤ b) (hbk : w.heap[b]? = some (.cells #[.pointer (some ⟨b, 0, none⟩), .slice none 0 0] 52 (0, 0))) (hBw : B ≤ w.heap.size) (hn : n ≤ 281474976710656) :
    Calls Tryz.prog 93 #[.pointer (some ⟨b, 0, none⟩), .int .i64 n] w fun e w' => e = .returned (.tuple #[]) ∧ (Lib.BuilderAt 52 5 B b (.pointer (some ⟨b, 0, none⟩)) [] w' ∧ Below B w w') := Any.Builder_grow_fresh Tryz.lays241 Tryz.Builder_Extra_241 B b n w hB hbk hBw hn
def Tryz.lays165_ren : Go.Shelf.Ren := ⟨fun | 165 => 77 | 240 => 47 | 241 => 93 | 276 => 64 | 277 => 99 | n => n, fun | 70 => 49 | 3 => 3 | 0 => 0 | 4 => 4 | 9 => 9 | 20 => 20 | 72 => 52 | 37 => 50 | 164 => 76 | 5 => 5 | n => n, fun | n => n⟩
theorem Tryz.lays165 : Go.Proofs.Lays.n165 Tryz.prog Tryz.lays165_ren := {
  mixed := by kernel_rfl
  f165 := Tryz.func77.trans (congrArg some (by kernel_rfl))
  f240 := Tryz.func47.trans (congrArg some (by kernel_rfl))
  f241 := Tryz.func93.trans (congrArg some (by kernel_rfl))
  f276 := Tryz.func64.trans (congrArg some (by kernel_rfl))
  f277 := Tryz.func99.trans (congrArg some (by kernel_rfl))
  t0 := Tryz.underlying0
  a0 := Tryz.isAgg0
  z0 := Tryz.sizeOf0
  v0 := Tryz.zeroValue0
  t3 := Tryz.underlying3
  a3 := Tryz.isAgg3
  z3 := Tryz.sizeOf3
  v3 := Tryz.zeroValue3
  t4 := Tryz.underlying4
  a4 := Tryz.isAgg4
  z4 := Tryz.sizeOf4
  v4 := Tryz.zeroValue4
  t9 := Tryz.underlying9
  a9 := Tryz.isAgg9
  z9 := Tryz.sizeOf9
  v9 := Tryz.zeroValue9
  t20 := Tryz.underlying20
  a20 := Tryz.isAgg20
  z20 := Tryz.sizeOf20
  v20 := Tryz.zeroValue20
  t37 := Tryz.underlying50
  a37 := Tryz.isAgg50
  z37 := Tryz.sizeOf50
  v37 := Tryz.zeroValue50
  t70 := Tryz.underlying49
  a70 := Tryz.isAgg49
  z70 := Tryz.sizeOf49
  v70 := Tryz.zeroValue49
  t72 := Tryz.underlying52
  a72 := Tryz.isAgg52
  z72 := Tryz.sizeOf52
  v72 := Tryz.zeroValue52
  t164 := Tryz.underlying76
  a164 := Tryz.isAgg76
  z164 := Tryz.sizeOf76
  v164 := Tryz.zeroValue76 }
theorem Tryz.Builder_Extra_165 : Builder.Extra Tryz.prog Tryz.lays165_ren := {
  sizeBuilder := by kernel_rfl
  liesBuilder := by kernel_rfl
  t5 := Tryz.underlying5
  a5 := Tryz.isAgg5
  z5 := Tryz.sizeOf5
  v5 := Tryz.zeroValue5
  infoByte := by kernel_rfl
  cellsByte := by kernel_rfl
  sizeByte := by kernel_rfl
  neB5 := by decide }
open Go.RowKit in
/-- (*strings.Builder).Grow AT A BUILDER THAT HAS NOT BEEN WRITTEN ('var b strings.Builder; b.Grow(n)'): "Grow grows b's capacity, if necessary, to guarantee space for another n bytes.": it holds no byte behind it as before it. (LAID: no walk: one application.) -/
theorem Tryz.Builder_Grow_fresh (B b n : Nat) (w : World) (hB : B ≤ b) (hbk : w.heap[b]? = some (.cells #[.pointer none, .slice none 0 0] 52 (0, 0))) (hBw : B ≤ w.heap.size) (hn : n ≤ 281474976710656) :
    Calls Tryz.prog 77 #[.pointer (some ⟨b, 0, none⟩), .int .i64 n] w fun e w' => e = .returned (.tuple #[]) ∧ (Lib.BuilderAt 52 5 B b (.pointer (some ⟨b, 0, none⟩)) [] w' ∧ Below B w w') := Any.Builder_Grow_fresh Tryz.lays165 Tryz.Builder_Extra_165 B b n w hB hbk hBw hn
def Tryz.lays137_ren : Go.Shelf.Ren := ⟨fun | 137 => 36 | 217 => 46 | 266 => 63 | n => n, fun | 9 => 9 | 5 => 5 | 3 => 3 | n => n, fun | n => n⟩
theorem Tryz.lays137 : Go.Proofs.Lays.n137 Tryz.prog Tryz.lays137_ren := {
  mixed := by kernel_rfl
  f137 := Tryz.func36.trans (congrArg some (by kernel_rfl))
  f217 := Tryz.func46.trans (congrArg some (by kernel_rfl))
  f266 := Tryz.func63.trans (congrArg some (by kernel_rfl))
  t3 := Tryz.underlying3
  a3 := Tryz.isAgg3
  z3 := Tryz.sizeOf3
  v3 := Tryz.zeroValue3
  t5 := Tryz.underlying5
  a5 := Tryz.isAgg5
  z5 := Tryz.sizeOf5
  v5 := Tryz.zeroValue5
  t9 := Tryz.underlying9
  a9 := Tryz.isAgg9
  z9 := Tryz.sizeOf9
  v9 := Tryz.zeroValue9 }
open Go.RowKit in
/-- strings.IndexByte: "IndexByte returns the index of the first instance of c in s, or -1 if c is not present in s.": IT RETURNS 'Lib.indexByte s c'; the world is as it was. (LAID: no walk: one application.) -/
theorem Tryz.strings_IndexByte (s : ByteArray) (c : Int) (w : World) :
    Calls Tryz.prog 36 #[.string s, .int .u8 c] w fun e w' => e = .returned (.int .i64 (Lib.indexByte s.data.toList c.toNat.toUInt8)) ∧ w' = w := Any.strings_IndexByte Tryz.lays137 s c w
open Go.RowKit in
/-- (*strings.Builder).String: "String returns the accumulated string.": OF A BUILDER THAT HOLDS AT LEAST ONE BYTE. ✋ THE MODEL FREEZES THOSE BYTES IN THE BUFFER (unsafe.String): a later write INTO them ends the model's run without an answer; a later append BEHIND them goes on. The statement's order of evaluation is drawn: one draw. THE FORM '_f': IT SAYS BESIDES THAT THE BUILDER IS A BUILDER STILL ('Lib.IsBuilderF', the same bytes): SO IT CAN BE WRITTEN ON: 'b.WriteString(b.String()[:k])'. (LAID: no walk: one application.) -/
theorem Tryz.Builder_String_f (B b : Nat) (l : List UInt8) (w : World) (h : Lib.IsBuilderF 52 5 B b (Lib.byteCells l) w) (h0 : l ≠ []) :
    Calls Tryz.prog 38 #[.pointer (some ⟨b, 0, none⟩)] w fun e w' => e = .returned (.string ⟨l.toArray⟩) ∧ (Lib.IsBuilderF 52 5 B b (Lib.byteCells l) w' ∧ Below B w w') := Any.Builder_String_f Tryz.lays169 Tryz.Builder_Extra_169 B b l w h h0
open Go.RowKit in
/-- (*strings.Builder).String OF A BUILDER THAT HOLDS NO BYTE: the empty string; THE FORM '_f': a builder still. (LAID: no walk: one application.) -/
theorem Tryz.Builder_String_empty_f (B b : Nat) (w : World) (h : Lib.IsBuilderF 52 5 B b [] w) (hBw : B ≤ w.heap.size) :
    Calls Tryz.prog 38 #[.pointer (some ⟨b, 0, none⟩)] w fun e w' => e = .returned (.string ⟨#[]⟩) ∧ (Lib.IsBuilderF 52 5 B b [] w' ∧ Below B w w') := Any.Builder_String_empty_f Tryz.lays169 Tryz.Builder_Extra_169 B b w h hBw
open Go.RowKit in
/-- (*strings.Builder).String: "String returns the accumulated string.": WHATEVER THE BUILDER HOLDS; THE FORM '_f': OF A BUILDER THAT MAY HAVE BEEN READ BEFORE; AND IT IS A BUILDER STILL, holding the same bytes: it can be written on. (LAID: no walk: one application.) -/
theorem Tryz.Builder_String_any_f (B b : Nat) (l : List UInt8) (w : World) (h : Lib.IsBuilderF 52 5 B b (Lib.byteCells l) w) (hBw : B ≤ w.heap.size) :
    Calls Tryz.prog 38 #[.pointer (some ⟨b, 0, none⟩)] w fun e w' => e = .returned (.string ⟨l.toArray⟩) ∧ (Lib.IsBuilderF 52 5 B b (Lib.byteCells l) w' ∧ Below B w w') := Any.Builder_String_any_f Tryz.lays169 Tryz.Builder_Extra_169 B b l w h hBw
open Go.RowKit in
/-- (*strings.Builder).String: "String returns the accumulated string.": OF A BUILDER THAT HOLDS AT LEAST ONE BYTE. ✋ THE MODEL FREEZES THOSE BYTES IN THE BUFFER (unsafe.String): a later write INTO them ends the model's run without an answer; a later append BEHIND them goes on. The statement's order of evaluation is drawn: one draw. THE FORM '_k': OVER 'Lib.IsBuilderF' (a builder that 'String()' may have read), AND WITH THE FRAME THAT REACHES ABOVE THE BUILDER: 'Lib.OthersKept': every block that is not b and is no row of uint8's stands as it stood: the iterator of a range among them. (LAID: no walk: one application.) -/
theorem Tryz.Builder_String_k (B b : Nat) (l : List UInt8) (w : World) (h : Lib.IsBuilderF 52 5 B b (Lib.byteCells l) w) (h0 : l ≠ []) :
    Calls Tryz.prog 38 #[.pointer (some ⟨b, 0, none⟩)] w fun e w' => e = .returned (.string ⟨l.toArray⟩) ∧ (Lib.IsBuilderF 52 5 B b (Lib.byteCells l) w' ∧ Below B w w' ∧ Lib.OthersKept 5 (some b) w w') := Any.Builder_String_k Tryz.lays169 Tryz.Builder_Extra_169 B b l w h h0
open Go.RowKit in
/-- (*strings.Builder).String OF A BUILDER THAT HOLDS NO BYTE: the empty string; THE FORM '_k': OVER 'Lib.IsBuilderF' (a builder that 'String()' may have read), AND WITH THE FRAME THAT REACHES ABOVE THE BUILDER: 'Lib.OthersKept': every block that is not b and is no row of uint8's stands as it stood: the iterator of a range among them. (LAID: no walk: one application.) -/
theorem Tryz.Builder_String_empty_k (B b : Nat) (w : World) (h : Lib.IsBuilderF 52 5 B b [] w) (hBw : B ≤ w.heap.size) :
    Calls Tryz.prog 38 #[.pointer (some ⟨b, 0, none⟩)] w fun e w' => e = .returned (.string ⟨#[]⟩) ∧ (Lib.IsBuilderF 52 5 B b [] w' ∧ Below B w w' ∧ Lib.OthersKept 5 (some b) w w') := Any.Builder_String_empty_k Tryz.lays169 Tryz.Builder_Extra_169 B b w h hBw
open Go.RowKit in
/-- (*strings.Builder).String: "String returns the accumulated string.": WHATEVER THE BUILDER HOLDS; THE FORM '_k': OVER 'Lib.IsBuilderF' (a builder that 'String()' may have read), AND WITH THE FRAME THAT REACHES ABOVE THE BUILDER: 'Lib.OthersKept': every block that is not b and is no row of uint8's stands as it stood: the iterator of a range among them. (LAID: no walk: one application.) -/
theorem Tryz.Builder_String_any_k (B b : Nat) (l : List UInt8) (w : World) (h : Lib.IsBuilderF 52 5 B b (Lib.byteCells l) w) (hBw : B ≤ w.heap.size) :
    Calls Tryz.prog 38 #[.pointer (some ⟨b, 0, none⟩)] w fun e w' => e = .returned (.string ⟨l.toArray⟩) ∧ (Lib.IsBuilderF 52 5 B b (Lib.byteCells l) w' ∧ Below B w w' ∧ Lib.OthersKept 5 (some b) w w') := Any.Builder_String_any_k Tryz.lays169 Tryz.Builder_Extra_169 B b l w h hBw
def Tryz.lays195_ren : Go.Shelf.Ren := ⟨fun | 195 => 91 | n => n, fun | 9 => 9 | 3 => 3 | 0 => 0 | 4 => 4 | n => n, fun | n => n⟩
theorem Tryz.lays195 : Go.Proofs.Lays.n195 Tryz.prog Tryz.lays195_ren := {
  mixed := by kernel_rfl
  f195 := Tryz.func91.trans (congrArg some (by kernel_rfl))
  t0 := Tryz.underlying0
  a0 := Tryz.isAgg0
  z0 := Tryz.sizeOf0
  v0 := Tryz.zeroValue0
  t3 := Tryz.underlying3
  a3 := Tryz.isAgg3
  z3 := Tryz.sizeOf3
  v3 := Tryz.zeroValue3
  t4 := Tryz.underlying4
  a4 := Tryz.isAgg4
  z4 := Tryz.sizeOf4
  v4 := Tryz.zeroValue4
  t9 := Tryz.underlying9
  a9 := Tryz.isAgg9
  z9 := Tryz.sizeOf9
  v9 := Tryz.zeroValue9 }
open Go.RowKit in
/-- unicode/utf8.RuneCountInString: "RuneCountInString is like RuneCount but its input is a string." ("RuneCount returns the number of runes in p. Erroneous and short encodings are treated as single runes of width 1 byte."): EVERY STRING, valid UTF-8 or not: 'Lib.runeCount s' (plain Lean over the model's own 'Utf8.decode'; 'Lib.runeCount_le': at most len(s); 'Lib.runeCount_ascii': on ASCII: len(s)). THE ONE CONDITION: len(s) below 2^63 - 1 (the counter does not wrap): the form's reach pays it. THE WORLD BEHIND THE CALL: ONE BLOCK MORE: the model's iterator over s, at its end: all else as it was. (LAID: no walk: one application.) -/
theorem Tryz.utf8_RuneCountInString (s : ByteArray) (w : World) (hs : s.size < 9223372036854775807) :
    Calls Tryz.prog 91 #[.string s] w fun e w' => e = .returned (.int .i64 (Lib.runeCount s)) ∧ ∃ pos, w' = w.iter s pos := Any.utf8_RuneCountInString Tryz.lays195 s w hs
open Go.RowKit in
/-- (*strings.Builder).grow (no doc but "grow copies the buffer to a new, larger buffer so that there are at least n bytes of capacity beyond len(b.buf)."): AT A BUILDER WITHOUT A BUFFER: a new row of whatever bytes for its buffer, none of them its own yet. Three draws. (LAID: no walk: one application.) -/
theorem Tryz.Builder_grow_fresh_cap (B b n : Nat) (w : World) (hB : B ≤ b) (hbk : w.heap[b]? = some (.cells #[.pointer (some ⟨b, 0, none⟩), .slice none 0 0] 52 (0, 0))) (hBw : B ≤ w.heap.size) (hn : n ≤ 281474976710656) :
    Calls Tryz.prog 93 #[.pointer (some ⟨b, 0, none⟩), .int .i64 n] w fun e w' => e = .returned (.tuple #[]) ∧ (Lib.BuilderAt 52 5 B b (.pointer (some ⟨b, 0, none⟩)) [] w' ∧ Below B w w') ∧ ∃ p cap, w'.cell? ⟨b, 1, none⟩ = some (.slice p 0 cap) ∧ n ≤ cap := Any.Builder_grow_fresh_cap Tryz.lays241 Tryz.Builder_Extra_241 B b n w hB hbk hBw hn
open Go.RowKit in
/-- (*strings.Builder).Grow AT A BUILDER THAT HAS NOT BEEN WRITTEN ('var b strings.Builder; b.Grow(n)'): "Grow grows b's capacity, if necessary, to guarantee space for another n bytes.": it holds no byte behind it as before it. (LAID: no walk: one application.) -/
theorem Tryz.Builder_Grow_fresh_cap (B b n : Nat) (w : World) (hB : B ≤ b) (hbk : w.heap[b]? = some (.cells #[.pointer none, .slice none 0 0] 52 (0, 0))) (hBw : B ≤ w.heap.size) (hn : n ≤ 281474976710656) :
    Calls Tryz.prog 77 #[.pointer (some ⟨b, 0, none⟩), .int .i64 n] w fun e w' => e = .returned (.tuple #[]) ∧ (Lib.BuilderAt 52 5 B b (.pointer (some ⟨b, 0, none⟩)) [] w' ∧ Below B w w') ∧ ∃ p cap, w'.cell? ⟨b, 1, none⟩ = some (.slice p 0 cap) ∧ n ≤ cap := Any.Builder_Grow_fresh_cap Tryz.lays165 Tryz.Builder_Extra_165 B b n w hB hbk hBw hn
def Tryz.laysM316_ren : Go.Shelf.Ren := ⟨fun | 316 => 107 | n => n, fun | 9 => 9 | 3 => 3 | 4 => 4 | 37 => 50 | 0 => 0 | 127 => 64 | 5 => 5 | n => n, fun | n => n⟩
theorem Tryz.laysM316 : Go.Proofs.LaysM.n316 Tryz.prog Tryz.laysM316_ren := {
  mixed := by kernel_rfl
  f316 := Tryz.func107.trans (congrArg some (by kernel_rfl))
  t0 := Tryz.underlying0
  a0 := Tryz.isAgg0
  z0 := Tryz.sizeOf0
  v0 := Tryz.zeroValue0
  t3 := Tryz.underlying3
  a3 := Tryz.isAgg3
  z3 := Tryz.sizeOf3
  v3 := Tryz.zeroValue3
  t4 := Tryz.underlying4
  a4 := Tryz.isAgg4
  z4 := Tryz.sizeOf4
  v4 := Tryz.zeroValue4
  t9 := Tryz.underlying9
  a9 := Tryz.isAgg9
  z9 := Tryz.sizeOf9
  v9 := Tryz.zeroValue9
  t37 := Tryz.underlying50
  a37 := Tryz.isAgg50
  z37 := Tryz.sizeOf50
  v37 := Tryz.zeroValue50
  t127 := Tryz.underlying64
  a127 := Tryz.isAgg64
  z127 := Tryz.sizeOf64
  v127 := Tryz.zeroValue64
  t5 := Tryz.underlying5
  a5 := Tryz.isAgg5
  z5 := Tryz.sizeOf5
  v5 := Tryz.zeroValue5
  i0 := by kernel_rfl
  i3 := by kernel_rfl
  i4 := by kernel_rfl
  i5 := by kernel_rfl
  i9 := by kernel_rfl
  i37 := by kernel_rfl
  i127 := by kernel_rfl }
open Go.RowKit in
/-- internal/stringslite.Clone (what strings.Clone calls): "Clone returns a fresh copy of s.": THE SAME BYTES. Of what was there nothing has turned (a new row is laid, and frozen, where s is not empty). (LAID: no walk: one application.) -/
theorem Tryz.stringslite_Clone (s : ByteArray) (w : World) (hlim : s.size ≤ 281474976710656) :
    Calls Tryz.prog 107 #[.string s] w fun e w' => e = .returned (.string s) ∧ Below w.heap.size w w' := Any.stringslite_Clone Tryz.laysM316 s w hlim
def Tryz.laysC245_ren : Go.Shelf.Ren := ⟨fun | 245 => 98 | 279 => 103 | 280 => 104 | 281 => 105 | 282 => 106 | 316 => 107 | 171 => 109 | 205 => 108 | 243 => 110 | 246 => 111 | 283 => 112 | 284 => 113 | 285 => 114 | 286 => 115 | 129 => 117 | 317 => 116 | 318 => 118 | 319 => 119 | 320 => 120 | 337 => 121 | 338 => 122 | n => n, fun | 9 => 9 | 3 => 3 | 75 => 55 | 167 => 111 | 4 => 4 | 168 => 113 | 210 => 117 | 37 => 50 | 0 => 0 | 127 => 64 | 145 => 121 | 143 => 119 | 2 => 2 | 171 => 123 | 53 => 100 | 5 => 5 | 173 => 126 | 212 => 129 | 51 => 93 | 20 => 20 | 213 => 130 | 46 => 75 | 232 => 133 | 233 => 134 | 80 => 58 | n => n, fun | 15 => 3 | 16 => 4 | 17 => 5 | 18 => 6 | 19 => 7 | n => n⟩
theorem Tryz.laysC245 : Go.Proofs.LaysC.n245 Tryz.prog Tryz.laysC245_ren := {
  mixed := by kernel_rfl
  f129 := Tryz.func117.trans (congrArg some (by kernel_rfl))
  f171 := Tryz.func109.trans (congrArg some (by kernel_rfl))
  f205 := Tryz.func108.trans (congrArg some (by kernel_rfl))
  f243 := Tryz.func110.trans (congrArg some (by kernel_rfl))
  f245 := Tryz.func98.trans (congrArg some (by kernel_rfl))
  f246 := Tryz.func111.trans (congrArg some (by kernel_rfl))
  f279 := Tryz.func103.trans (congrArg some (by kernel_rfl))
  f280 := Tryz.func104.trans (congrArg some (by kernel_rfl))
  f281 := Tryz.func105.trans (congrArg some (by kernel_rfl))
  f282 := Tryz.func106.trans (congrArg some (by kernel_rfl))
  f283 := Tryz.func112.trans (congrArg some (by kernel_rfl))
  f284 := Tryz.func113.trans (congrArg some (by kernel_rfl))
  f285 := Tryz.func114.trans (congrArg some (by kernel_rfl))
  f286 := Tryz.func115.trans (congrArg some (by kernel_rfl))
  f316 := Tryz.func107.trans (congrArg some (by kernel_rfl))
  f317 := Tryz.func116.trans (congrArg some (by kernel_rfl))
  f318 := Tryz.func118.trans (congrArg some (by kernel_rfl))
  f319 := Tryz.func119.trans (congrArg some (by kernel_rfl))
  f320 := Tryz.func120.trans (congrArg some (by kernel_rfl))
  f337 := Tryz.func121.trans (congrArg some (by kernel_rfl))
  f338 := Tryz.func122.trans (congrArg some (by kernel_rfl))
  t0 := Tryz.underlying0
  a0 := Tryz.isAgg0
  z0 := Tryz.sizeOf0
  v0 := Tryz.zeroValue0
  t2 := Tryz.underlying2
  a2 := Tryz.isAgg2
  z2 := Tryz.sizeOf2
  v2 := Tryz.zeroValue2
  t3 := Tryz.underlying3
  a3 := Tryz.isAgg3
  z3 := Tryz.sizeOf3
  v3 := Tryz.zeroValue3
  t4 := Tryz.underlying4
  a4 := Tryz.isAgg4
  z4 := Tryz.sizeOf4
  v4 := Tryz.zeroValue4
  t5 := Tryz.underlying5
  a5 := Tryz.isAgg5
  z5 := Tryz.sizeOf5
  v5 := Tryz.zeroValue5
  t9 := Tryz.underlying9
  a9 := Tryz.isAgg9
  z9 := Tryz.sizeOf9
  v9 := Tryz.zeroValue9
  t20 := Tryz.underlying20
  a20 := Tryz.isAgg20
  z20 := Tryz.sizeOf20
  v20 := Tryz.zeroValue20
  t37 := Tryz.underlying50
  a37 := Tryz.isAgg50
  z37 := Tryz.sizeOf50
  v37 := Tryz.zeroValue50
  t46 := Tryz.underlying75
  a46 := Tryz.isAgg75
  z46 := Tryz.sizeOf75
  v46 := Tryz.zeroValue75
  t51 := Tryz.underlying93
  a51 := Tryz.isAgg93
  z51 := Tryz.sizeOf93
  v51 := Tryz.zeroValue93
  t53 := Tryz.underlying100
  a53 := Tryz.isAgg100
  z53 := Tryz.sizeOf100
  v53 := Tryz.zeroValue100
  t75 := Tryz.underlying55
  a75 := Tryz.isAgg55
  z75 := Tryz.sizeOf55
  v75 := Tryz.zeroValue55
  t127 := Tryz.underlying64
  a127 := Tryz.isAgg64
  z127 := Tryz.sizeOf64
  v127 := Tryz.zeroValue64
  t143 := Tryz.underlying119
  a143 := Tryz.isAgg119
  z143 := Tryz.sizeOf119
  v143 := Tryz.zeroValue119
  t145 := Tryz.underlying121
  a145 := Tryz.isAgg121
  z145 := Tryz.sizeOf121
  v145 := Tryz.zeroValue121
  t167 := Tryz.underlying111
  a167 := Tryz.isAgg111
  z167 := Tryz.sizeOf111
  v167 := Tryz.zeroValue111
  t168 := Tryz.underlying113
  a168 := Tryz.isAgg113
  z168 := Tryz.sizeOf113
  v168 := Tryz.zeroValue113
  t171 := Tryz.underlying123
  a171 := Tryz.isAgg123
  z171 := Tryz.sizeOf123
  v171 := Tryz.zeroValue123
  t173 := Tryz.underlying126
  a173 := Tryz.isAgg126
  z173 := Tryz.sizeOf126
  v173 := Tryz.zeroValue126
  t210 := Tryz.underlying117
  a210 := Tryz.isAgg117
  z210 := Tryz.sizeOf117
  v210 := Tryz.zeroValue117
  t212 := Tryz.underlying129
  a212 := Tryz.isAgg129
  z212 := Tryz.sizeOf129
  v212 := Tryz.zeroValue129
  t213 := Tryz.underlying130
  a213 := Tryz.isAgg130
  z213 := Tryz.sizeOf130
  t232 := Tryz.underlying133
  a232 := Tryz.isAgg133
  z232 := Tryz.sizeOf133
  v232 := Tryz.zeroValue133
  t233 := Tryz.underlying134
  a233 := Tryz.isAgg134
  z233 := Tryz.sizeOf134
  v233 := Tryz.zeroValue134
  g15 := by kernel_rfl
  g16 := by kernel_rfl
  g17 := by kernel_rfl
  g18 := by kernel_rfl
  g19 := by kernel_rfl
  t80 := Tryz.underlying58
  a80 := Tryz.isAgg58
  z80 := Tryz.sizeOf58
  v80 := Tryz.zeroValue58
  i0 := by kernel_rfl
  i2 := by kernel_rfl
  i3 := by kernel_rfl
  i4 := by kernel_rfl
  i5 := by kernel_rfl
  i9 := by kernel_rfl
  i20 := by kernel_rfl
  i37 := by kernel_rfl
  i46 := by kernel_rfl
  i51 := by kernel_rfl
  i53 := by kernel_rfl
  i75 := by kernel_rfl
  i80 := by kernel_rfl
  i127 := by kernel_rfl
  i143 := by kernel_rfl
  i145 := by kernel_rfl
  i167 := by kernel_rfl
  i168 := by kernel_rfl
  i171 := by kernel_rfl
  i173 := by kernel_rfl
  i210 := by kernel_rfl
  i212 := by kernel_rfl
  i232 := by kernel_rfl
  i233 := by kernel_rfl
  m15 := by kernel_rfl
  m16 := by kernel_rfl
  m17 := by kernel_rfl
  m18 := by kernel_rfl
  m19 := by kernel_rfl
  c0 := by kernel_rfl
  c2 := by kernel_rfl
  c3 := by kernel_rfl
  c4 := by kernel_rfl
  c5 := by kernel_rfl
  c9 := by kernel_rfl
  c20 := by kernel_rfl
  c37 := by kernel_rfl
  c46 := by kernel_rfl
  c51 := by kernel_rfl
  c53 := by kernel_rfl
  c75 := by kernel_rfl
  c80 := by kernel_rfl
  c127 := by kernel_rfl
  c143 := by kernel_rfl
  c145 := by kernel_rfl
  c167 := by kernel_rfl
  c168 := by kernel_rfl
  c171 := by kernel_rfl
  c173 := by kernel_rfl
  c210 := by kernel_rfl
  c212 := by kernel_rfl
  c213 := by kernel_rfl
  c232 := by kernel_rfl
  c233 := by kernel_rfl }
open Go.RowKit in
/-- strconv.toError, at the inner package's ErrSyntax: 'syntaxError(fn, s)' as an error: A *NumError IN A NEW BLOCK. (LAID: no walk: one application.) -/
theorem Tryz.strconv_toError_syntax (fn s : ByteArray) (base bits : Int) (ev : Value) (w : World) (hlim : s.size ≤ 281474976710656) (hv : w.cell? ⟨3, 0, none⟩ = some ev) (hev : ev = .nilIface ∨ ∃ te pe, ev = .iface te pe) :
    Calls Tryz.prog 98 #[.string fn, .string s, .int .i64 base, .int .i64 bits, .iface 111 (.int .i64 2)] w fun e w' => ∃ N, e = .returned (.iface 113 (.pointer (some ⟨N, 0, none⟩))) ∧ w.heap.size ≤ N ∧ w'.heap[N]? = some (.cells #[.string fn, .string s, ev] 117 (0, 0)) ∧ Below w.heap.size w w' := Any.strconv_toError_syntax Tryz.laysC245 fn s base bits ev w hlim hv hev
def Tryz.lays321_ren : Go.Shelf.Ren := ⟨fun | 321 => 101 | n => n, fun | 5 => 5 | n => n, fun | n => n⟩
theorem Tryz.lays321 : Go.Proofs.Lays.n321 Tryz.prog Tryz.lays321_ren := {
  mixed := by kernel_rfl
  f321 := Tryz.func101.trans (congrArg some (by kernel_rfl))
  t5 := Tryz.underlying5
  a5 := Tryz.isAgg5
  z5 := Tryz.sizeOf5
  v5 := Tryz.zeroValue5 }
open Go.RowKit in
/-- internal/strconv.lower: 'c | ('x' - 'X')': the bit 32 set. The world is as it was. (LAID: no walk: one application.) -/
theorem Tryz.internal_strconv_lower (c : Int) (w : World) :
    Calls Tryz.prog 101 #[.int .u8 c] w fun e w' => e = .returned (.int .u8 (bits .or .u8 c 32)) ∧ w' = w := Any.internal_strconv_lower Tryz.lays321 c w
def Tryz.lays287_ren : Go.Shelf.Ren := ⟨fun | 287 => 97 | 321 => 101 | 322 => 102 | n => n, fun | 9 => 9 | 3 => 3 | 53 => 100 | 75 => 55 | 4 => 4 | 167 => 111 | 5 => 5 | 46 => 75 | 37 => 50 | 0 => 0 | 21 => 21 | 80 => 58 | n => n, fun | n => n⟩
theorem Tryz.lays287 : Go.Proofs.Lays.n287 Tryz.prog Tryz.lays287_ren := {
  mixed := by kernel_rfl
  f287 := Tryz.func97.trans (congrArg some (by kernel_rfl))
  f321 := Tryz.func101.trans (congrArg some (by kernel_rfl))
  f322 := Tryz.func102.trans (congrArg some (by kernel_rfl))
  t0 := Tryz.underlying0
  a0 := Tryz.isAgg0
  z0 := Tryz.sizeOf0
  v0 := Tryz.zeroValue0
  t3 := Tryz.underlying3
  a3 := Tryz.isAgg3
  z3 := Tryz.sizeOf3
  v3 := Tryz.zeroValue3
  t4 := Tryz.underlying4
  a4 := Tryz.isAgg4
  z4 := Tryz.sizeOf4
  v4 := Tryz.zeroValue4
  t5 := Tryz.underlying5
  a5 := Tryz.isAgg5
  z5 := Tryz.sizeOf5
  v5 := Tryz.zeroValue5
  t9 := Tryz.underlying9
  a9 := Tryz.isAgg9
  z9 := Tryz.sizeOf9
  v9 := Tryz.zeroValue9
  t21 := Tryz.underlying21
  a21 := Tryz.isAgg21
  z21 := Tryz.sizeOf21
  v21 := Tryz.zeroValue21
  t37 := Tryz.underlying50
  a37 := Tryz.isAgg50
  z37 := Tryz.sizeOf50
  v37 := Tryz.zeroValue50
  t46 := Tryz.underlying75
  a46 := Tryz.isAgg75
  z46 := Tryz.sizeOf75
  v46 := Tryz.zeroValue75
  t53 := Tryz.underlying100
  a53 := Tryz.isAgg100
  z53 := Tryz.sizeOf100
  v53 := Tryz.zeroValue100
  t75 := Tryz.underlying55
  a75 := Tryz.isAgg55
  z75 := Tryz.sizeOf55
  v75 := Tryz.zeroValue55
  t167 := Tryz.underlying111
  a167 := Tryz.isAgg111
  z167 := Tryz.sizeOf111
  v167 := Tryz.zeroValue111 }
open Go.RowKit in
/-- internal/strconv.ParseUint("", base, bitSize): (0, ErrSyntax): the first test of the text. The world is as it was. (LAID: no walk: one application.) -/
theorem Tryz.internal_strconv_ParseUint_empty (base bits : Int) (w : World) :
    Calls Tryz.prog 97 #[.string ⟨#[]⟩, .int .i64 base, .int .i64 bits] w fun e w' => e = .returned (.tuple #[.int .u64 0, .iface 111 (.int .i64 2)]) ∧ w' = w := Any.internal_strconv_ParseUint_empty Tryz.lays287 base bits w
def Tryz.lays217_ren : Go.Shelf.Ren := ⟨fun | 217 => 46 | 266 => 63 | n => n, fun | 9 => 9 | 5 => 5 | 3 => 3 | n => n, fun | n => n⟩
theorem Tryz.lays217 : Go.Proofs.Lays.n217 Tryz.prog Tryz.lays217_ren := {
  mixed := by kernel_rfl
  f217 := Tryz.func46.trans (congrArg some (by kernel_rfl))
  f266 := Tryz.func63.trans (congrArg some (by kernel_rfl))
  t3 := Tryz.underlying3
  a3 := Tryz.isAgg3
  z3 := Tryz.sizeOf3
  v3 := Tryz.zeroValue3
  t5 := Tryz.underlying5
  a5 := Tryz.isAgg5
  z5 := Tryz.sizeOf5
  v5 := Tryz.zeroValue5
  t9 := Tryz.underlying9
  a9 := Tryz.isAgg9
  z9 := Tryz.sizeOf9
  v9 := Tryz.zeroValue9 }
open Go.RowKit Go.Lib in
/-- internal/stringslite.IndexByte (what strings.IndexByte calls): IT RETURNS 'Lib.indexByte s c'; the world is as it was. (LAID: no walk: one application.) -/
theorem Tryz.stringslite_IndexByte (s : ByteArray) (c : Int) (w : World) :
    Calls Tryz.prog 46 #[.string s, .int .u8 c] w fun e w' => e = .returned (.int .i64 (Lib.indexByte s.data.toList c.toNat.toUInt8)) ∧ w' = w := Any.stringslite_IndexByte Tryz.lays217 s c w
def Tryz.lays224_ren : Go.Shelf.Ren := ⟨fun | 224 => 61 | n => n, fun | 3 => 3 | n => n, fun | n => n⟩
theorem Tryz.lays224 : Go.Proofs.Lays.n224 Tryz.prog Tryz.lays224_ren := {
  mixed := by kernel_rfl
  f224 := Tryz.func61.trans (congrArg some (by kernel_rfl))
  t3 := Tryz.underlying3
  a3 := Tryz.isAgg3
  z3 := Tryz.sizeOf3
  v3 := Tryz.zeroValue3 }
open Go.RowKit Go.Lib in
/-- internal/bytealg.Cutover: "Cutover reports the number of failures of IndexByte we should tolerate before switching over to Index. n is the number of bytes processed so far.": on amd64: (n + 16) / 8. (LAID: no walk: one application.) -/
theorem Tryz.bytealg_Cutover (n : Int) (h0 : 0 ≤ n) (h1 : n < 4611686018427387904) (w : World) :
    Calls Tryz.prog 61 #[.int .i64 n] w fun e w' => e = .returned (.int .i64 ((n + 16) / 8)) ∧ w' = w := Any.bytealg_Cutover Tryz.lays224 n h0 h1 w
def Tryz.lays314_ren : Go.Shelf.Ren := ⟨fun | 314 => 84 | n => n, fun | 9 => 9 | 51 => 93 | 3 => 3 | 4 => 4 | 5 => 5 | 46 => 75 | n => n, fun | n => n⟩
theorem Tryz.lays314 : Go.Proofs.Lays.n314 Tryz.prog Tryz.lays314_ren := {
  mixed := by kernel_rfl
  f314 := Tryz.func84.trans (congrArg some (by kernel_rfl))
  t3 := Tryz.underlying3
  a3 := Tryz.isAgg3
  z3 := Tryz.sizeOf3
  v3 := Tryz.zeroValue3
  t4 := Tryz.underlying4
  a4 := Tryz.isAgg4
  z4 := Tryz.sizeOf4
  v4 := Tryz.zeroValue4
  t5 := Tryz.underlying5
  a5 := Tryz.isAgg5
  z5 := Tryz.sizeOf5
  v5 := Tryz.zeroValue5
  t9 := Tryz.underlying9
  a9 := Tryz.isAgg9
  z9 := Tryz.sizeOf9
  v9 := Tryz.zeroValue9
  t46 := Tryz.underlying75
  a46 := Tryz.isAgg75
  z46 := Tryz.sizeOf75
  v46 := Tryz.zeroValue75
  t51 := Tryz.underlying93
  a51 := Tryz.isAgg93
  z51 := Tryz.sizeOf93
  v51 := Tryz.zeroValue93 }
open Go.RowKit Go.Lib in
/-- hashStr: "returns the hash and the appropriate multiplicative factor for use in Rabin-Karp algorithm": THE HASH OF ALL OF sep, AND 16777619 ^ len(sep), both in uint32. (LAID: no walk: one application.) -/
theorem Tryz.bytealg_hashStr (sep : ByteArray) (hs : sep.size < 4294967281) (w : World) :
    Calls Tryz.prog 84 #[.string sep] w fun e w' => e = .returned (.tuple #[.int .u32 (RK.H sep.data.toList % 4294967296), .int .u32 (16777619 ^ sep.size % 4294967296)]) ∧ w' = w := Any.bytealg_hashStr Tryz.lays314 sep hs w
def Tryz.lays267_ren : Go.Shelf.Ren := ⟨fun | 267 => 62 | 314 => 84 | n => n, fun | 9 => 9 | 3 => 3 | 146 => 94 | 51 => 93 | 4 => 4 | 5 => 5 | 46 => 75 | n => n, fun | n => n⟩
theorem Tryz.lays267 : Go.Proofs.Lays.n267 Tryz.prog Tryz.lays267_ren := {
  mixed := by kernel_rfl
  f267 := Tryz.func62.trans (congrArg some (by kernel_rfl))
  f314 := Tryz.func84.trans (congrArg some (by kernel_rfl))
  t3 := Tryz.underlying3
  a3 := Tryz.isAgg3
  z3 := Tryz.sizeOf3
  v3 := Tryz.zeroValue3
  t4 := Tryz.underlying4
  a4 := Tryz.isAgg4
  z4 := Tryz.sizeOf4
  v4 := Tryz.zeroValue4
  t5 := Tryz.underlying5
  a5 := Tryz.isAgg5
  z5 := Tryz.sizeOf5
  v5 := Tryz.zeroValue5
  t9 := Tryz.underlying9
  a9 := Tryz.isAgg9
  z9 := Tryz.sizeOf9
  v9 := Tryz.zeroValue9
  t46 := Tryz.underlying75
  a46 := Tryz.isAgg75
  z46 := Tryz.sizeOf75
  v46 := Tryz.zeroValue75
  t51 := Tryz.underlying93
  a51 := Tryz.isAgg93
  z51 := Tryz.sizeOf93
  v51 := Tryz.zeroValue93
  t146 := Tryz.underlying94
  a146 := Tryz.isAgg94
  z146 := Tryz.sizeOf94
  v146 := Tryz.zeroValue94 }
open Go.RowKit Go.Lib in
theorem Tryz.bytealg_IndexRabinKarp (s sep : ByteArray) (h1 : 1 ≤ sep.size) (h2 : sep.size ≤ s.size) (hs : s.size < 4294967281) (w : World) :
    Calls Tryz.prog 62 #[.string s, .string sep] w fun e w' => e = .returned (.int .i64 (Lib.index s.data.toList sep.data.toList)) ∧ w' = w := Any.bytealg_IndexRabinKarp Tryz.lays267 s sep h1 h2 hs w
def Tryz.lays219_ren : Go.Shelf.Ren := ⟨fun | 219 => 45 | 217 => 46 | 225 => 60 | 224 => 61 | 267 => 62 | 266 => 63 | 314 => 84 | n => n, fun | 9 => 9 | 3 => 3 | 4 => 4 | 5 => 5 | 46 => 75 | 146 => 94 | 51 => 93 | n => n, fun | 1 => 0 | n => n⟩
theorem Tryz.lays219 : Go.Proofs.Lays.n219 Tryz.prog Tryz.lays219_ren := {
  mixed := by kernel_rfl
  f217 := Tryz.func46.trans (congrArg some (by kernel_rfl))
  f219 := Tryz.func45.trans (congrArg some (by kernel_rfl))
  f224 := Tryz.func61.trans (congrArg some (by kernel_rfl))
  f225 := Tryz.func60.trans (congrArg some (by kernel_rfl))
  f266 := Tryz.func63.trans (congrArg some (by kernel_rfl))
  f267 := Tryz.func62.trans (congrArg some (by kernel_rfl))
  f314 := Tryz.func84.trans (congrArg some (by kernel_rfl))
  t3 := Tryz.underlying3
  a3 := Tryz.isAgg3
  z3 := Tryz.sizeOf3
  v3 := Tryz.zeroValue3
  t4 := Tryz.underlying4
  a4 := Tryz.isAgg4
  z4 := Tryz.sizeOf4
  v4 := Tryz.zeroValue4
  t5 := Tryz.underlying5
  a5 := Tryz.isAgg5
  z5 := Tryz.sizeOf5
  v5 := Tryz.zeroValue5
  t9 := Tryz.underlying9
  a9 := Tryz.isAgg9
  z9 := Tryz.sizeOf9
  v9 := Tryz.zeroValue9
  t46 := Tryz.underlying75
  a46 := Tryz.isAgg75
  z46 := Tryz.sizeOf75
  v46 := Tryz.zeroValue75
  t51 := Tryz.underlying93
  a51 := Tryz.isAgg93
  z51 := Tryz.sizeOf93
  v51 := Tryz.zeroValue93
  t146 := Tryz.underlying94
  a146 := Tryz.isAgg94
  z146 := Tryz.sizeOf94
  v146 := Tryz.zeroValue94
  g1 := by kernel_rfl }
open Go.RowKit Go.Lib in
/-- internal/stringslite.Index (what strings.Index calls) AT A substr OF ONE BYTE c: IT RETURNS 'Lib.indexByte s c'; the world is as it was. (LAID: no walk: one application.) -/
theorem Tryz.stringslite_Index_one (s : ByteArray) (c : UInt8) (w : World) :
    Calls Tryz.prog 45 #[.string s, .string ⟨#[c]⟩] w fun e w' => e = .returned (.int .i64 (Lib.indexByte s.data.toList c)) ∧ w' = w := Any.stringslite_Index_one Tryz.lays219 s c w
open Go.RowKit Go.Lib in
/-- internal/stringslite.Index (what strings.Index calls) AT A substr OF WHATEVER LENGTH: IT RETURNS 'Lib.index s substr'; the world is as it was. 'm': what internal/bytealg.MaxLen holds: whatever. (LAID: no walk: one application.) -/
theorem Tryz.stringslite_Index (s sub : ByteArray) (m : Int) (w : World) (hs : s.size < 4294967281) (hm : w.cell? ⟨0, 0, none⟩ = some (.int .i64 m)) :
    Calls Tryz.prog 45 #[.string s, .string sub] w fun e w' => e = .returned (.int .i64 (Lib.index s.data.toList sub.data.toList)) ∧ w' = w := Any.stringslite_Index Tryz.lays219 s sub m w hs hm
def Tryz.lays143_ren : Go.Shelf.Ren := ⟨fun | 143 => 35 | 219 => 45 | 217 => 46 | 225 => 60 | 224 => 61 | 267 => 62 | 266 => 63 | 314 => 84 | n => n, fun | 9 => 9 | 3 => 3 | 4 => 4 | 5 => 5 | 46 => 75 | 146 => 94 | 51 => 93 | n => n, fun | 1 => 0 | n => n⟩
theorem Tryz.lays143 : Go.Proofs.Lays.n143 Tryz.prog Tryz.lays143_ren := {
  mixed := by kernel_rfl
  f143 := Tryz.func35.trans (congrArg some (by kernel_rfl))
  f217 := Tryz.func46.trans (congrArg some (by kernel_rfl))
  f219 := Tryz.func45.trans (congrArg some (by kernel_rfl))
  f224 := Tryz.func61.trans (congrArg some (by kernel_rfl))
  f225 := Tryz.func60.trans (congrArg some (by kernel_rfl))
  f266 := Tryz.func63.trans (congrArg some (by kernel_rfl))
  f267 := Tryz.func62.trans (congrArg some (by kernel_rfl))
  f314 := Tryz.func84.trans (congrArg some (by kernel_rfl))
  t3 := Tryz.underlying3
  a3 := Tryz.isAgg3
  z3 := Tryz.sizeOf3
  v3 := Tryz.zeroValue3
  t4 := Tryz.underlying4
  a4 := Tryz.isAgg4
  z4 := Tryz.sizeOf4
  v4 := Tryz.zeroValue4
  t5 := Tryz.underlying5
  a5 := Tryz.isAgg5
  z5 := Tryz.sizeOf5
  v5 := Tryz.zeroValue5
  t9 := Tryz.underlying9
  a9 := Tryz.isAgg9
  z9 := Tryz.sizeOf9
  v9 := Tryz.zeroValue9
  t46 := Tryz.underlying75
  a46 := Tryz.isAgg75
  z46 := Tryz.sizeOf75
  v46 := Tryz.zeroValue75
  t51 := Tryz.underlying93
  a51 := Tryz.isAgg93
  z51 := Tryz.sizeOf93
  v51 := Tryz.zeroValue93
  t146 := Tryz.underlying94
  a146 := Tryz.isAgg94
  z146 := Tryz.sizeOf94
  v146 := Tryz.zeroValue94
  g1 := by kernel_rfl }
open Go.RowKit Go.Lib in
/-- strings.Index: "Index returns the index of the first instance of substr in s, or -1 if substr is not present in s.": AT A substr OF ONE BYTE c: IT RETURNS 'Lib.indexByte s c'; the world is as it was. (LAID: no walk: one application.) -/
theorem Tryz.strings_Index_one (s : ByteArray) (c : UInt8) (w : World) :
    Calls Tryz.prog 35 #[.string s, .string ⟨#[c]⟩] w fun e w' => e = .returned (.int .i64 (Lib.indexByte s.data.toList c)) ∧ w' = w := Any.strings_Index_one Tryz.lays143 s c w
open Go.RowKit Go.Lib in
/-- strings.Index: "Index returns the index of the first instance of substr in s, or -1 if substr is not present in s.": IT RETURNS 'Lib.index s substr'; the world is as it was. (LAID: no walk: one application.) -/
theorem Tryz.strings_Index (s sub : ByteArray) (m : Int) (w : World) (hs : s.size < 4294967281) (hm : w.cell? ⟨0, 0, none⟩ = some (.int .i64 m)) :
    Calls Tryz.prog 35 #[.string s, .string sub] w fun e w' => e = .returned (.int .i64 (Lib.index s.data.toList sub.data.toList)) ∧ w' = w := Any.strings_Index Tryz.lays143 s sub m w hs hm
def Tryz.lays220_ren : Go.Shelf.Ren := ⟨fun | 220 => 87 | 219 => 45 | 217 => 46 | 225 => 60 | 224 => 61 | 267 => 62 | 266 => 63 | 314 => 84 | n => n, fun | 9 => 9 | 4 => 4 | 3 => 3 | 5 => 5 | 46 => 75 | 146 => 94 | 51 => 93 | n => n, fun | 1 => 0 | n => n⟩
theorem Tryz.lays220 : Go.Proofs.Lays.n220 Tryz.prog Tryz.lays220_ren := {
  mixed := by kernel_rfl
  f217 := Tryz.func46.trans (congrArg some (by kernel_rfl))
  f219 := Tryz.func45.trans (congrArg some (by kernel_rfl))
  f220 := Tryz.func87.trans (congrArg some (by kernel_rfl))
  f224 := Tryz.func61.trans (congrArg some (by kernel_rfl))
  f225 := Tryz.func60.trans (congrArg some (by kernel_rfl))
  f266 := Tryz.func63.trans (congrArg some (by kernel_rfl))
  f267 := Tryz.func62.trans (congrArg some (by kernel_rfl))
  f314 := Tryz.func84.trans (congrArg some (by kernel_rfl))
  t3 := Tryz.underlying3
  a3 := Tryz.isAgg3
  z3 := Tryz.sizeOf3
  v3 := Tryz.zeroValue3
  t4 := Tryz.underlying4
  a4 := Tryz.isAgg4
  z4 := Tryz.sizeOf4
  v4 := Tryz.zeroValue4
  t5 := Tryz.underlying5
  a5 := Tryz.isAgg5
  z5 := Tryz.sizeOf5
  v5 := Tryz.zeroValue5
  t9 := Tryz.underlying9
  a9 := Tryz.isAgg9
  z9 := Tryz.sizeOf9
  v9 := Tryz.zeroValue9
  t46 := Tryz.underlying75
  a46 := Tryz.isAgg75
  z46 := Tryz.sizeOf75
  v46 := Tryz.zeroValue75
  t51 := Tryz.underlying93
  a51 := Tryz.isAgg93
  z51 := Tryz.sizeOf93
  v51 := Tryz.zeroValue93
  t146 := Tryz.underlying94
  a146 := Tryz.isAgg94
  z146 := Tryz.sizeOf94
  v146 := Tryz.zeroValue94
  g1 := by kernel_rfl }
open Go.RowKit Go.Lib in
/-- internal/stringslite.Cut (what strings.Cut calls): IT RETURNS 'Lib.cut s sep'; the world is as it was but for the count of draws. (LAID: no walk: one application.) -/
theorem Tryz.stringslite_Cut (s sep : ByteArray) (m : Int) (w : World) (hs : s.size < 4294967281) (hm : w.cell? ⟨0, 0, none⟩ = some (.int .i64 m)) :
    Calls Tryz.prog 87 #[.string s, .string sep] w fun e w' => e = .returned (.tuple #[.string ⟨(Lib.cut s.data.toList sep.data.toList).1.toArray⟩, .string ⟨(Lib.cut s.data.toList sep.data.toList).2.1.toArray⟩, .bool (Lib.cut s.data.toList sep.data.toList).2.2]) ∧ ∃ n, w' = w.drewN n := Any.stringslite_Cut Tryz.lays220 s sep m w hs hm
def Tryz.lays145_ren : Go.Shelf.Ren := ⟨fun | 145 => 71 | 220 => 87 | 219 => 45 | 217 => 46 | 225 => 60 | 224 => 61 | 267 => 62 | 266 => 63 | 314 => 84 | n => n, fun | 9 => 9 | 4 => 4 | 59 => 83 | 3 => 3 | 5 => 5 | 46 => 75 | 146 => 94 | 51 => 93 | n => n, fun | 1 => 0 | n => n⟩
theorem Tryz.lays145 : Go.Proofs.Lays.n145 Tryz.prog Tryz.lays145_ren := {
  mixed := by kernel_rfl
  f145 := Tryz.func71.trans (congrArg some (by kernel_rfl))
  f217 := Tryz.func46.trans (congrArg some (by kernel_rfl))
  f219 := Tryz.func45.trans (congrArg some (by kernel_rfl))
  f220 := Tryz.func87.trans (congrArg some (by kernel_rfl))
  f224 := Tryz.func61.trans (congrArg some (by kernel_rfl))
  f225 := Tryz.func60.trans (congrArg some (by kernel_rfl))
  f266 := Tryz.func63.trans (congrArg some (by kernel_rfl))
  f267 := Tryz.func62.trans (congrArg some (by kernel_rfl))
  f314 := Tryz.func84.trans (congrArg some (by kernel_rfl))
  t3 := Tryz.underlying3
  a3 := Tryz.isAgg3
  z3 := Tryz.sizeOf3
  v3 := Tryz.zeroValue3
  t4 := Tryz.underlying4
  a4 := Tryz.isAgg4
  z4 := Tryz.sizeOf4
  v4 := Tryz.zeroValue4
  t5 := Tryz.underlying5
  a5 := Tryz.isAgg5
  z5 := Tryz.sizeOf5
  v5 := Tryz.zeroValue5
  t9 := Tryz.underlying9
  a9 := Tryz.isAgg9
  z9 := Tryz.sizeOf9
  v9 := Tryz.zeroValue9
  t46 := Tryz.underlying75
  a46 := Tryz.isAgg75
  z46 := Tryz.sizeOf75
  v46 := Tryz.zeroValue75
  t51 := Tryz.underlying93
  a51 := Tryz.isAgg93
  z51 := Tryz.sizeOf93
  v51 := Tryz.zeroValue93
  t59 := Tryz.underlying83
  a59 := Tryz.isAgg83
  z59 := Tryz.sizeOf83
  v59 := Tryz.zeroValue83
  t146 := Tryz.underlying94
  a146 := Tryz.isAgg94
  z146 := Tryz.sizeOf94
  v146 := Tryz.zeroValue94
  g1 := by kernel_rfl }
open Go.RowKit Go.Lib in
/-- strings.Cut: "Cut slices s around the first instance of sep, returning the text before and after sep. The found result reports whether sep appears in s. If sep does not appear in s, cut returns s, "", false.": IT RETURNS 'Lib.cut s sep'; the world is as it was but for the count of draws. (LAID: no walk: one application.) -/
theorem Tryz.strings_Cut (s sep : ByteArray) (m : Int) (w : World) (hs : s.size < 4294967281) (hm : w.cell? ⟨0, 0, none⟩ = some (.int .i64 m)) :
    Calls Tryz.prog 71 #[.string s, .string sep] w fun e w' => e = .returned (.tuple #[.string ⟨(Lib.cut s.data.toList sep.data.toList).1.toArray⟩, .string ⟨(Lib.cut s.data.toList sep.data.toList).2.1.toArray⟩, .bool (Lib.cut s.data.toList sep.data.toList).2.2]) ∧ ∃ n, w' = w.drewN n := Any.strings_Cut Tryz.lays145 s sep m w hs hm
def Tryz.lays138_ren : Go.Shelf.Ren := ⟨fun | 138 => 76 | 195 => 91 | 218 => 92 | 143 => 35 | 219 => 45 | 217 => 46 | 225 => 60 | 224 => 61 | 267 => 62 | 266 => 63 | 314 => 84 | n => n, fun | 9 => 9 | 3 => 3 | 4 => 4 | 5 => 5 | 0 => 0 | 46 => 75 | 146 => 94 | 51 => 93 | n => n, fun | 1 => 0 | n => n⟩
theorem Tryz.lays138 : Go.Proofs.Lays.n138 Tryz.prog Tryz.lays138_ren := {
  mixed := by kernel_rfl
  f138 := Tryz.func76.trans (congrArg some (by kernel_rfl))
  f143 := Tryz.func35.trans (congrArg some (by kernel_rfl))
  f195 := Tryz.func91.trans (congrArg some (by kernel_rfl))
  f217 := Tryz.func46.trans (congrArg some (by kernel_rfl))
  f218 := Tryz.func92.trans (congrArg some (by kernel_rfl))
  f219 := Tryz.func45.trans (congrArg some (by kernel_rfl))
  f224 := Tryz.func61.trans (congrArg some (by kernel_rfl))
  f225 := Tryz.func60.trans (congrArg some (by kernel_rfl))
  f266 := Tryz.func63.trans (congrArg some (by kernel_rfl))
  f267 := Tryz.func62.trans (congrArg some (by kernel_rfl))
  f314 := Tryz.func84.trans (congrArg some (by kernel_rfl))
  t0 := Tryz.underlying0
  a0 := Tryz.isAgg0
  z0 := Tryz.sizeOf0
  v0 := Tryz.zeroValue0
  t3 := Tryz.underlying3
  a3 := Tryz.isAgg3
  z3 := Tryz.sizeOf3
  v3 := Tryz.zeroValue3
  t4 := Tryz.underlying4
  a4 := Tryz.isAgg4
  z4 := Tryz.sizeOf4
  v4 := Tryz.zeroValue4
  t5 := Tryz.underlying5
  a5 := Tryz.isAgg5
  z5 := Tryz.sizeOf5
  v5 := Tryz.zeroValue5
  t9 := Tryz.underlying9
  a9 := Tryz.isAgg9
  z9 := Tryz.sizeOf9
  v9 := Tryz.zeroValue9
  t46 := Tryz.underlying75
  a46 := Tryz.isAgg75
  z46 := Tryz.sizeOf75
  v46 := Tryz.zeroValue75
  t51 := Tryz.underlying93
  a51 := Tryz.isAgg93
  z51 := Tryz.sizeOf93
  v51 := Tryz.zeroValue93
  t146 := Tryz.underlying94
  a146 := Tryz.isAgg94
  z146 := Tryz.sizeOf94
  v146 := Tryz.zeroValue94
  g1 := by kernel_rfl }
open Go.RowKit Go.Lib in
/-- strings.Count AT A substr OF ONE BYTE ('hp'): "Count counts the number of non-overlapping instances of substr in s.": IT RETURNS 'Lib.countByte s (that byte)'; the world is as it was. ✋ NO CONTRACT HERE YET at an empty substr (utf8.RuneCountInString) or at a longer one (a loop over strings.Index). (LAID: no walk: one application.) -/
theorem Tryz.strings_Count_one (s : ByteArray) (c : UInt8) (w : World) :
    Calls Tryz.prog 76 #[.string s, .string ⟨#[c]⟩] w fun e w' => e = .returned (.int .i64 (Lib.countByte s.data.toList c)) ∧ w' = w := Any.strings_Count_one Tryz.lays138 s c w
open Go.RowKit Go.Lib in
/-- strings.Count AT A substr OF TWO BYTES OR MORE: "Count counts the number of non-overlapping instances of substr in s.": IT RETURNS 'Lib.count s substr'; the world is as it was. (LAID: no walk: one application.) -/
theorem Tryz.strings_Count (s sub : ByteArray) (m : Int) (w : World) (hs : s.size < 4294967281) (hm : w.cell? ⟨0, 0, none⟩ = some (.int .i64 m)) (h2 : 2 ≤ sub.size) :
    Calls Tryz.prog 76 #[.string s, .string sub] w fun e w' => e = .returned (.int .i64 (Lib.countB s sub)) ∧ w' = w := Any.strings_Count Tryz.lays138 s sub m w hs hm h2
def Tryz.laysM219_ren : Go.Shelf.Ren := ⟨fun | 219 => 45 | 217 => 46 | 225 => 60 | 224 => 61 | 267 => 62 | 266 => 63 | 314 => 84 | n => n, fun | 9 => 9 | 3 => 3 | 4 => 4 | 5 => 5 | 46 => 75 | 146 => 94 | 51 => 93 | n => n, fun | 1 => 0 | n => n⟩
theorem Tryz.laysM219 : Go.Proofs.LaysM.n219 Tryz.prog Tryz.laysM219_ren := {
  mixed := by kernel_rfl
  f217 := Tryz.func46.trans (congrArg some (by kernel_rfl))
  f219 := Tryz.func45.trans (congrArg some (by kernel_rfl))
  f224 := Tryz.func61.trans (congrArg some (by kernel_rfl))
  f225 := Tryz.func60.trans (congrArg some (by kernel_rfl))
  f266 := Tryz.func63.trans (congrArg some (by kernel_rfl))
  f267 := Tryz.func62.trans (congrArg some (by kernel_rfl))
  f314 := Tryz.func84.trans (congrArg some (by kernel_rfl))
  t3 := Tryz.underlying3
  a3 := Tryz.isAgg3
  z3 := Tryz.sizeOf3
  v3 := Tryz.zeroValue3
  t4 := Tryz.underlying4
  a4 := Tryz.isAgg4
  z4 := Tryz.sizeOf4
  v4 := Tryz.zeroValue4
  t5 := Tryz.underlying5
  a5 := Tryz.isAgg5
  z5 := Tryz.sizeOf5
  v5 := Tryz.zeroValue5
  t9 := Tryz.underlying9
  a9 := Tryz.isAgg9
  z9 := Tryz.sizeOf9
  v9 := Tryz.zeroValue9
  t46 := Tryz.underlying75
  a46 := Tryz.isAgg75
  z46 := Tryz.sizeOf75
  v46 := Tryz.zeroValue75
  t51 := Tryz.underlying93
  a51 := Tryz.isAgg93
  z51 := Tryz.sizeOf93
  v51 := Tryz.zeroValue93
  t146 := Tryz.underlying94
  a146 := Tryz.isAgg94
  z146 := Tryz.sizeOf94
  v146 := Tryz.zeroValue94
  g1 := by kernel_rfl
  i3 := by kernel_rfl
  i4 := by kernel_rfl
  i5 := by kernel_rfl
  i9 := by kernel_rfl
  i46 := by kernel_rfl
  i51 := by kernel_rfl
  i146 := by kernel_rfl
  m1 := by kernel_rfl
  s1_3 := fun w h => Go.Proofs.cell_of_shapedOpen_int (zero := #[.int .i64 0]) (t := 3) h (of_decide_eq_true (by kernel_rfl)) (by kernel_rfl) rfl (by kernel_rfl) (by kernel_rfl) Tryz.underlying3 }
open Go.RowKit Go.Lib in
theorem Tryz.stringslite_Index_shaped (s sub : ByteArray) (w : World) (h : w.ShapedOpen Tryz.prog) (hs : s.size < 4294967281) :
    Calls Tryz.prog 45 #[.string s, .string sub] w fun e w' => e = .returned (.int .i64 (Lib.index s.data.toList sub.data.toList)) ∧ w' = w := Any.stringslite_Index_shaped Tryz.laysM219 s sub w h hs
def Tryz.laysM143_ren : Go.Shelf.Ren := ⟨fun | 143 => 35 | 219 => 45 | 217 => 46 | 225 => 60 | 224 => 61 | 267 => 62 | 266 => 63 | 314 => 84 | n => n, fun | 9 => 9 | 3 => 3 | 4 => 4 | 5 => 5 | 46 => 75 | 146 => 94 | 51 => 93 | n => n, fun | 1 => 0 | n => n⟩
theorem Tryz.laysM143 : Go.Proofs.LaysM.n143 Tryz.prog Tryz.laysM143_ren := {
  mixed := by kernel_rfl
  f143 := Tryz.func35.trans (congrArg some (by kernel_rfl))
  f217 := Tryz.func46.trans (congrArg some (by kernel_rfl))
  f219 := Tryz.func45.trans (congrArg some (by kernel_rfl))
  f224 := Tryz.func61.trans (congrArg some (by kernel_rfl))
  f225 := Tryz.func60.trans (congrArg some (by kernel_rfl))
  f266 := Tryz.func63.trans (congrArg some (by kernel_rfl))
  f267 := Tryz.func62.trans (congrArg some (by kernel_rfl))
  f314 := Tryz.func84.trans (congrArg some (by kernel_rfl))
  t3 := Tryz.underlying3
  a3 := Tryz.isAgg3
  z3 := Tryz.sizeOf3
  v3 := Tryz.zeroValue3
  t4 := Tryz.underlying4
  a4 := Tryz.isAgg4
  z4 := Tryz.sizeOf4
  v4 := Tryz.zeroValue4
  t5 := Tryz.underlying5
  a5 := Tryz.isAgg5
  z5 := Tryz.sizeOf5
  v5 := Tryz.zeroValue5
  t9 := Tryz.underlying9
  a9 := Tryz.isAgg9
  z9 := Tryz.sizeOf9
  v9 := Tryz.zeroValue9
  t46 := Tryz.underlying75
  a46 := Tryz.isAgg75
  z46 := Tryz.sizeOf75
  v46 := Tryz.zeroValue75
  t51 := Tryz.underlying93
  a51 := Tryz.isAgg93
  z51 := Tryz.sizeOf93
  v51 := Tryz.zeroValue93
  t146 := Tryz.underlying94
  a146 := Tryz.isAgg94
  z146 := Tryz.sizeOf94
  v146 := Tryz.zeroValue94
  g1 := by kernel_rfl
  i3 := by kernel_rfl
  i4 := by kernel_rfl
  i5 := by kernel_rfl
  i9 := by kernel_rfl
  i46 := by kernel_rfl
  i51 := by kernel_rfl
  i146 := by kernel_rfl
  m1 := by kernel_rfl
  s1_3 := fun w h => Go.Proofs.cell_of_shapedOpen_int (zero := #[.int .i64 0]) (t := 3) h (of_decide_eq_true (by kernel_rfl)) (by kernel_rfl) rfl (by kernel_rfl) (by kernel_rfl) Tryz.underlying3 }
open Go.RowKit Go.Lib in
theorem Tryz.strings_Index_shaped (s sub : ByteArray) (w : World) (h : w.ShapedOpen Tryz.prog) (hs : s.size < 4294967281) :
    Calls Tryz.prog 35 #[.string s, .string sub] w fun e w' => e = .returned (.int .i64 (Lib.index s.data.toList sub.data.toList)) ∧ w' = w := Any.strings_Index_shaped Tryz.laysM143 s sub w h hs
def Tryz.laysM220_ren : Go.Shelf.Ren := ⟨fun | 220 => 87 | 219 => 45 | 217 => 46 | 225 => 60 | 224 => 61 | 267 => 62 | 266 => 63 | 314 => 84 | n => n, fun | 9 => 9 | 4 => 4 | 3 => 3 | 5 => 5 | 46 => 75 | 146 => 94 | 51 => 93 | n => n, fun | 1 => 0 | n => n⟩
theorem Tryz.laysM220 : Go.Proofs.LaysM.n220 Tryz.prog Tryz.laysM220_ren := {
  mixed := by kernel_rfl
  f217 := Tryz.func46.trans (congrArg some (by kernel_rfl))
  f219 := Tryz.func45.trans (congrArg some (by kernel_rfl))
  f220 := Tryz.func87.trans (congrArg some (by kernel_rfl))
  f224 := Tryz.func61.trans (congrArg some (by kernel_rfl))
  f225 := Tryz.func60.trans (congrArg some (by kernel_rfl))
  f266 := Tryz.func63.trans (congrArg some (by kernel_rfl))
  f267 := Tryz.func62.trans (congrArg some (by kernel_rfl))
  f314 := Tryz.func84.trans (congrArg some (by kernel_rfl))
  t3 := Tryz.underlying3
  a3 := Tryz.isAgg3
  z3 := Tryz.sizeOf3
  v3 := Tryz.zeroValue3
  t4 := Tryz.underlying4
  a4 := Tryz.isAgg4
  z4 := Tryz.sizeOf4
  v4 := Tryz.zeroValue4
  t5 := Tryz.underlying5
  a5 := Tryz.isAgg5
  z5 := Tryz.sizeOf5
  v5 := Tryz.zeroValue5
  t9 := Tryz.underlying9
  a9 := Tryz.isAgg9
  z9 := Tryz.sizeOf9
  v9 := Tryz.zeroValue9
  t46 := Tryz.underlying75
  a46 := Tryz.isAgg75
  z46 := Tryz.sizeOf75
  v46 := Tryz.zeroValue75
  t51 := Tryz.underlying93
  a51 := Tryz.isAgg93
  z51 := Tryz.sizeOf93
  v51 := Tryz.zeroValue93
  t146 := Tryz.underlying94
  a146 := Tryz.isAgg94
  z146 := Tryz.sizeOf94
  v146 := Tryz.zeroValue94
  g1 := by kernel_rfl
  i3 := by kernel_rfl
  i4 := by kernel_rfl
  i5 := by kernel_rfl
  i9 := by kernel_rfl
  i46 := by kernel_rfl
  i51 := by kernel_rfl
  i146 := by kernel_rfl
  m1 := by kernel_rfl
  s1_3 := fun w h => Go.Proofs.cell_of_shapedOpen_int (zero := #[.int .i64 0]) (t := 3) h (of_decide_eq_true (by kernel_rfl)) (by kernel_rfl) rfl (by kernel_rfl) (by kernel_rfl) Tryz.underlying3 }
open Go.RowKit Go.Lib in
theorem Tryz.stringslite_Cut_shaped (s sep : ByteArray) (w : World) (h : w.ShapedOpen Tryz.prog) (hs : s.size < 4294967281) :
    Calls Tryz.prog 87 #[.string s, .string sep] w fun e w' => e = .returned (.tuple #[.string ⟨(Lib.cut s.data.toList sep.data.toList).1.toArray⟩, .string ⟨(Lib.cut s.data.toList sep.data.toList).2.1.toArray⟩, .bool (Lib.cut s.data.toList sep.data.toList).2.2]) ∧ ∃ n, w' = w.drewN n := Any.stringslite_Cut_shaped Tryz.laysM220 s sep w h hs
def Tryz.laysM145_ren : Go.Shelf.Ren := ⟨fun | 145 => 71 | 220 => 87 | 219 => 45 | 217 => 46 | 225 => 60 | 224 => 61 | 267 => 62 | 266 => 63 | 314 => 84 | n => n, fun | 9 => 9 | 4 => 4 | 59 => 83 | 3 => 3 | 5 => 5 | 46 => 75 | 146 => 94 | 51 => 93 | n => n, fun | 1 => 0 | n => n⟩
theorem Tryz.laysM145 : Go.Proofs.LaysM.n145 Tryz.prog Tryz.laysM145_ren := {
  mixed := by kernel_rfl
  f145 := Tryz.func71.trans (congrArg some (by kernel_rfl))
  f217 := Tryz.func46.trans (congrArg some (by kernel_rfl))
  f219 := Tryz.func45.trans (congrArg some (by kernel_rfl))
  f220 := Tryz.func87.trans (congrArg some (by kernel_rfl))
  f224 := Tryz.func61.trans (congrArg some (by kernel_rfl))
  f225 := Tryz.func60.trans (congrArg some (by kernel_rfl))
  f266 := Tryz.func63.trans (congrArg some (by kernel_rfl))
  f267 := Tryz.func62.trans (congrArg some (by kernel_rfl))
  f314 := Tryz.func84.trans (congrArg some (by kernel_rfl))
  t3 := Tryz.underlying3
  a3 := Tryz.isAgg3
  z3 := Tryz.sizeOf3
  v3 := Tryz.zeroValue3
  t4 := Tryz.underlying4
  a4 := Tryz.isAgg4
  z4 := Tryz.sizeOf4
  v4 := Tryz.zeroValue4
  t5 := Tryz.underlying5
  a5 := Tryz.isAgg5
  z5 := Tryz.sizeOf5
  v5 := Tryz.zeroValue5
  t9 := Tryz.underlying9
  a9 := Tryz.isAgg9
  z9 := Tryz.sizeOf9
  v9 := Tryz.zeroValue9
  t46 := Tryz.underlying75
  a46 := Tryz.isAgg75
  z46 := Tryz.sizeOf75
  v46 := Tryz.zeroValue75
  t51 := Tryz.underlying93
  a51 := Tryz.isAgg93
  z51 := Tryz.sizeOf93
  v51 := Tryz.zeroValue93
  t59 := Tryz.underlying83
  a59 := Tryz.isAgg83
  z59 := Tryz.sizeOf83
  v59 := Tryz.zeroValue83
  t146 := Tryz.underlying94
  a146 := Tryz.isAgg94
  z146 := Tryz.sizeOf94
  v146 := Tryz.zeroValue94
  g1 := by kernel_rfl
  i3 := by kernel_rfl
  i4 := by kernel_rfl
  i5 := by kernel_rfl
  i9 := by kernel_rfl
  i46 := by kernel_rfl
  i51 := by kernel_rfl
  i59 := by kernel_rfl
  i146 := by kernel_rfl
  m1 := by kernel_rfl
  s1_3 := fun w h => Go.Proofs.cell_of_shapedOpen_int (zero := #[.int .i64 0]) (t := 3) h (of_decide_eq_true (by kernel_rfl)) (by kernel_rfl) rfl (by kernel_rfl) (by kernel_rfl) Tryz.underlying3 }
open Go.RowKit Go.Lib in
theorem Tryz.strings_Cut_shaped (s sep : ByteArray) (w : World) (h : w.ShapedOpen Tryz.prog) (hs : s.size < 4294967281) :
    Calls Tryz.prog 71 #[.string s, .string sep] w fun e w' => e = .returned (.tuple #[.string ⟨(Lib.cut s.data.toList sep.data.toList).1.toArray⟩, .string ⟨(Lib.cut s.data.toList sep.data.toList).2.1.toArray⟩, .bool (Lib.cut s.data.toList sep.data.toList).2.2]) ∧ ∃ n, w' = w.drewN n := Any.strings_Cut_shaped Tryz.laysM145 s sep w h hs
def Tryz.laysM138_ren : Go.Shelf.Ren := ⟨fun | 138 => 76 | 195 => 91 | 218 => 92 | 143 => 35 | 219 => 45 | 217 => 46 | 225 => 60 | 224 => 61 | 267 => 62 | 266 => 63 | 314 => 84 | n => n, fun | 9 => 9 | 3 => 3 | 4 => 4 | 5 => 5 | 0 => 0 | 46 => 75 | 146 => 94 | 51 => 93 | n => n, fun | 1 => 0 | n => n⟩
theorem Tryz.laysM138 : Go.Proofs.LaysM.n138 Tryz.prog Tryz.laysM138_ren := {
  mixed := by kernel_rfl
  f138 := Tryz.func76.trans (congrArg some (by kernel_rfl))
  f143 := Tryz.func35.trans (congrArg some (by kernel_rfl))
  f195 := Tryz.func91.trans (congrArg some (by kernel_rfl))
  f217 := Tryz.func46.trans (congrArg some (by kernel_rfl))
  f218 := Tryz.func92.trans (congrArg some (by kernel_rfl))
  f219 := Tryz.func45.trans (congrArg some (by kernel_rfl))
  f224 := Tryz.func61.trans (congrArg some (by kernel_rfl))
  f225 := Tryz.func60.trans (congrArg some (by kernel_rfl))
  f266 := Tryz.func63.trans (congrArg some (by kernel_rfl))
  f267 := Tryz.func62.trans (congrArg some (by kernel_rfl))
  f314 := Tryz.func84.trans (congrArg some (by kernel_rfl))
  t0 := Tryz.underlying0
  a0 := Tryz.isAgg0
  z0 := Tryz.sizeOf0
  v0 := Tryz.zeroValue0
  t3 := Tryz.underlying3
  a3 := Tryz.isAgg3
  z3 := Tryz.sizeOf3
  v3 := Tryz.zeroValue3
  t4 := Tryz.underlying4
  a4 := Tryz.isAgg4
  z4 := Tryz.sizeOf4
  v4 := Tryz.zeroValue4
  t5 := Tryz.underlying5
  a5 := Tryz.isAgg5
  z5 := Tryz.sizeOf5
  v5 := Tryz.zeroValue5
  t9 := Tryz.underlying9
  a9 := Tryz.isAgg9
  z9 := Tryz.sizeOf9
  v9 := Tryz.zeroValue9
  t46 := Tryz.underlying75
  a46 := Tryz.isAgg75
  z46 := Tryz.sizeOf75
  v46 := Tryz.zeroValue75
  t51 := Tryz.underlying93
  a51 := Tryz.isAgg93
  z51 := Tryz.sizeOf93
  v51 := Tryz.zeroValue93
  t146 := Tryz.underlying94
  a146 := Tryz.isAgg94
  z146 := Tryz.sizeOf94
  v146 := Tryz.zeroValue94
  g1 := by kernel_rfl
  i0 := by kernel_rfl
  i3 := by kernel_rfl
  i4 := by kernel_rfl
  i5 := by kernel_rfl
  i9 := by kernel_rfl
  i46 := by kernel_rfl
  i51 := by kernel_rfl
  i146 := by kernel_rfl
  m1 := by kernel_rfl
  s1_3 := fun w h => Go.Proofs.cell_of_shapedOpen_int (zero := #[.int .i64 0]) (t := 3) h (of_decide_eq_true (by kernel_rfl)) (by kernel_rfl) rfl (by kernel_rfl) (by kernel_rfl) Tryz.underlying3 }
open Go.RowKit Go.Lib in
theorem Tryz.strings_Count_shaped (s sub : ByteArray) (w : World) (h : w.ShapedOpen Tryz.prog) (hs : s.size < 4294967281) (h2 : 2 ≤ sub.size) :
    Calls Tryz.prog 76 #[.string s, .string sub] w fun e w' => e = .returned (.int .i64 (Lib.countB s sub)) ∧ w' = w := Any.strings_Count_shaped Tryz.laysM138 s sub w h hs h2
def Tryz.lays222_ren : Go.Shelf.Ren := ⟨fun | 222 => 100 | n => n, fun | 9 => 9 | 5 => 5 | 3 => 3 | 4 => 4 | n => n, fun | n => n⟩
theorem Tryz.lays222 : Go.Proofs.Lays.n222 Tryz.prog Tryz.lays222_ren := {
  mixed := by kernel_rfl
  f222 := Tryz.func100.trans (congrArg some (by kernel_rfl))
  t3 := Tryz.underlying3
  a3 := Tryz.isAgg3
  z3 := Tryz.sizeOf3
  v3 := Tryz.zeroValue3
  t4 := Tryz.underlying4
  a4 := Tryz.isAgg4
  z4 := Tryz.sizeOf4
  v4 := Tryz.zeroValue4
  t5 := Tryz.underlying5
  a5 := Tryz.isAgg5
  z5 := Tryz.sizeOf5
  v5 := Tryz.zeroValue5
  t9 := Tryz.underlying9
  a9 := Tryz.isAgg9
  z9 := Tryz.sizeOf9
  v9 := Tryz.zeroValue9 }
open Go.RowKit Go.Lib in
/-- internal/bytealg.LastIndexByteString: 'for i := len(s) - 1; i >= 0; i-- { if s[i] == c { return i } }; return -1'. (LAID: no walk: one application.) -/
theorem Tryz.bytealg_LastIndexByteString_nm (s : ByteArray) (c : Int) (hs : s.size < 4611686018427387904) (w : World) :
    Calls Tryz.prog 100 #[.string s, .int .u8 c] w fun e w' => e = .returned (.int .i64 (Lib.lastIndexByte s c)) ∧ w' = w := Any.bytealg_LastIndexByteString_nm Tryz.lays222 s c hs w
def Tryz.lays149_ren : Go.Shelf.Ren := ⟨fun | 149 => 96 | 222 => 100 | n => n, fun | 9 => 9 | 5 => 5 | 3 => 3 | 4 => 4 | n => n, fun | n => n⟩
theorem Tryz.lays149 : Go.Proofs.Lays.n149 Tryz.prog Tryz.lays149_ren := {
  mixed := by kernel_rfl
  f149 := Tryz.func96.trans (congrArg some (by kernel_rfl))
  f222 := Tryz.func100.trans (congrArg some (by kernel_rfl))
  t3 := Tryz.underlying3
  a3 := Tryz.isAgg3
  z3 := Tryz.sizeOf3
  v3 := Tryz.zeroValue3
  t4 := Tryz.underlying4
  a4 := Tryz.isAgg4
  z4 := Tryz.sizeOf4
  v4 := Tryz.zeroValue4
  t5 := Tryz.underlying5
  a5 := Tryz.isAgg5
  z5 := Tryz.sizeOf5
  v5 := Tryz.zeroValue5
  t9 := Tryz.underlying9
  a9 := Tryz.isAgg9
  z9 := Tryz.sizeOf9
  v9 := Tryz.zeroValue9 }
open Go.RowKit Go.Lib in
/-- strings.LastIndexByte: "LastIndexByte returns the index of the last instance of c in s, or -1 if c is not present in s." (LAID: no walk: one application.) -/
theorem Tryz.strings_LastIndexByte (s : ByteArray) (c : Int) (hs : s.size < 4611686018427387904) (w : World) :
    Calls Tryz.prog 96 #[.string s, .int .u8 c] w fun e w' => e = .returned (.int .i64 (Lib.lastIndexByte s c)) ∧ w' = w := Any.strings_LastIndexByte Tryz.lays149 s c hs w
def Tryz.lays207_ren : Go.Shelf.Ren := ⟨fun | 207 => 89 | n => n, fun | 9 => 9 | 4 => 4 | 3 => 3 | n => n, fun | n => n⟩
theorem Tryz.lays207 : Go.Proofs.Lays.n207 Tryz.prog Tryz.lays207_ren := {
  mixed := by kernel_rfl
  f207 := Tryz.func89.trans (congrArg some (by kernel_rfl))
  t3 := Tryz.underlying3
  a3 := Tryz.isAgg3
  z3 := Tryz.sizeOf3
  v3 := Tryz.zeroValue3
  t4 := Tryz.underlying4
  a4 := Tryz.isAgg4
  z4 := Tryz.sizeOf4
  v4 := Tryz.zeroValue4
  t9 := Tryz.underlying9
  a9 := Tryz.isAgg9
  z9 := Tryz.sizeOf9
  v9 := Tryz.zeroValue9 }
open Go.RowKit Go.Lib in
/-- internal/stringslite.HasSuffix (what strings.HasSuffix calls). (LAID: no walk: one application.) -/
theorem Tryz.stringslite_HasSuffix (s p : ByteArray) (w : World) (hs : s.size ≤ 9223372036854775807) :
    Calls Tryz.prog 89 #[.string s, .string p] w fun e w' => e = .returned (.bool (Lib.hasSuffix s.data.toList p.data.toList)) ∧ w' = w := Any.stringslite_HasSuffix Tryz.lays207 s p w hs
def Tryz.lays100_ren : Go.Shelf.Ren := ⟨fun | 100 => 73 | 207 => 89 | n => n, fun | 9 => 9 | 4 => 4 | 3 => 3 | n => n, fun | n => n⟩
theorem Tryz.lays100 : Go.Proofs.Lays.n100 Tryz.prog Tryz.lays100_ren := {
  mixed := by kernel_rfl
  f100 := Tryz.func73.trans (congrArg some (by kernel_rfl))
  f207 := Tryz.func89.trans (congrArg some (by kernel_rfl))
  t3 := Tryz.underlying3
  a3 := Tryz.isAgg3
  z3 := Tryz.sizeOf3
  v3 := Tryz.zeroValue3
  t4 := Tryz.underlying4
  a4 := Tryz.isAgg4
  z4 := Tryz.sizeOf4
  v4 := Tryz.zeroValue4
  t9 := Tryz.underlying9
  a9 := Tryz.isAgg9
  z9 := Tryz.sizeOf9
  v9 := Tryz.zeroValue9 }
open Go.RowKit Go.Lib in
/-- strings.HasSuffix: "HasSuffix reports whether the string s ends with suffix.": IT RETURNS 'Lib.hasSuffix s suffix'; the world is as it was. ('hs': no Go string is longer: a caller has it of every string that it was handed.) (LAID: no walk: one application.) -/
theorem Tryz.strings_HasSuffix (s p : ByteArray) (w : World) (hs : s.size ≤ 9223372036854775807) :
    Calls Tryz.prog 73 #[.string s, .string p] w fun e w' => e = .returned (.bool (Lib.hasSuffix s.data.toList p.data.toList)) ∧ w' = w := Any.strings_HasSuffix Tryz.lays100 s p w hs
open Go.RowKit Go.Lib in
/-- strings.Count at whatever sep that is not empty: the two roads under one statement. (LAID: no walk: one application.) -/
theorem Tryz.strings_Count_any (s sep : ByteArray) (m : Int) (w : World) (hs : s.size < 4294967281) (hm : w.cell? ⟨0, 0, none⟩ = some (.int .i64 m)) (h1 : 1 ≤ sep.size) :
    Calls Tryz.prog 76 #[.string s, .string sep] w fun e w' => e = .returned (.int .i64 (Lib.countB s sep)) ∧ w' = w := Any.strings_Count_any Tryz.lays138 s sep m w hs hm h1
def Tryz.lays154_ren : Go.Shelf.Ren := ⟨fun | 154 => 54 | 138 => 76 | 165 => 77 | 143 => 35 | 166 => 37 | 197 => 78 | 169 => 38 | 195 => 91 | 218 => 92 | 240 => 47 | 241 => 93 | 219 => 45 | 260 => 94 | 276 => 64 | 277 => 99 | 217 => 46 | 225 => 60 | 224 => 61 | 267 => 62 | 266 => 63 | 314 => 84 | n => n, fun | 9 => 9 | 3 => 3 | 4 => 4 | 72 => 52 | 0 => 0 | 76 => 56 | 105 => 89 | 21 => 21 | 5 => 5 | 70 => 49 | 20 => 20 | 37 => 50 | 75 => 55 | 127 => 64 | 164 => 76 | 46 => 75 | 119 => 107 | 139 => 110 | 138 => 109 | 146 => 94 | 51 => 93 | 80 => 58 | n => n, fun | 1 => 0 | 3 => 1 | 4 => 2 | n => n⟩
theorem Tryz.lays154 : Go.Proofs.Lays.n154 Tryz.prog Tryz.lays154_ren := {
  mixed := by kernel_rfl
  f138 := Tryz.func76.trans (congrArg some (by kernel_rfl))
  f143 := Tryz.func35.trans (congrArg some (by kernel_rfl))
  f154 := Tryz.func54.trans (congrArg some (by kernel_rfl))
  f165 := Tryz.func77.trans (congrArg some (by kernel_rfl))
  f166 := Tryz.func37.trans (congrArg some (by kernel_rfl))
  f169 := Tryz.func38.trans (congrArg some (by kernel_rfl))
  f195 := Tryz.func91.trans (congrArg some (by kernel_rfl))
  f197 := Tryz.func78.trans (congrArg some (by kernel_rfl))
  f217 := Tryz.func46.trans (congrArg some (by kernel_rfl))
  f218 := Tryz.func92.trans (congrArg some (by kernel_rfl))
  f219 := Tryz.func45.trans (congrArg some (by kernel_rfl))
  f224 := Tryz.func61.trans (congrArg some (by kernel_rfl))
  f225 := Tryz.func60.trans (congrArg some (by kernel_rfl))
  f240 := Tryz.func47.trans (congrArg some (by kernel_rfl))
  f241 := Tryz.func93.trans (congrArg some (by kernel_rfl))
  f260 := Tryz.func94.trans (congrArg some (by kernel_rfl))
  f266 := Tryz.func63.trans (congrArg some (by kernel_rfl))
  f267 := Tryz.func62.trans (congrArg some (by kernel_rfl))
  f276 := Tryz.func64.trans (congrArg some (by kernel_rfl))
  f277 := Tryz.func99.trans (congrArg some (by kernel_rfl))
  f314 := Tryz.func84.trans (congrArg some (by kernel_rfl))
  t0 := Tryz.underlying0
  a0 := Tryz.isAgg0
  z0 := Tryz.sizeOf0
  v0 := Tryz.zeroValue0
  t3 := Tryz.underlying3
  a3 := Tryz.isAgg3
  z3 := Tryz.sizeOf3
  v3 := Tryz.zeroValue3
  t4 := Tryz.underlying4
  a4 := Tryz.isAgg4
  z4 := Tryz.sizeOf4
  v4 := Tryz.zeroValue4
  t5 := Tryz.underlying5
  a5 := Tryz.isAgg5
  z5 := Tryz.sizeOf5
  v5 := Tryz.zeroValue5
  t9 := Tryz.underlying9
  a9 := Tryz.isAgg9
  z9 := Tryz.sizeOf9
  v9 := Tryz.zeroValue9
  t20 := Tryz.underlying20
  a20 := Tryz.isAgg20
  z20 := Tryz.sizeOf20
  v20 := Tryz.zeroValue20
  t21 := Tryz.underlying21
  a21 := Tryz.isAgg21
  z21 := Tryz.sizeOf21
  v21 := Tryz.zeroValue21
  t37 := Tryz.underlying50
  a37 := Tryz.isAgg50
  z37 := Tryz.sizeOf50
  v37 := Tryz.zeroValue50
  t46 := Tryz.underlying75
  a46 := Tryz.isAgg75
  z46 := Tryz.sizeOf75
  v46 := Tryz.zeroValue75
  t51 := Tryz.underlying93
  a51 := Tryz.isAgg93
  z51 := Tryz.sizeOf93
  v51 := Tryz.zeroValue93
  t70 := Tryz.underlying49
  a70 := Tryz.isAgg49
  z70 := Tryz.sizeOf49
  v70 := Tryz.zeroValue49
  t72 := Tryz.underlying52
  a72 := Tryz.isAgg52
  z72 := Tryz.sizeOf52
  v72 := Tryz.zeroValue52
  t75 := Tryz.underlying55
  a75 := Tryz.isAgg55
  z75 := Tryz.sizeOf55
  v75 := Tryz.zeroValue55
  t76 := Tryz.underlying56
  a76 := Tryz.isAgg56
  z76 := Tryz.sizeOf56
  v76 := Tryz.zeroValue56
  t105 := Tryz.underlying89
  a105 := Tryz.isAgg89
  z105 := Tryz.sizeOf89
  v105 := Tryz.zeroValue89
  t119 := Tryz.underlying107
  a119 := Tryz.isAgg107
  z119 := Tryz.sizeOf107
  t127 := Tryz.underlying64
  a127 := Tryz.isAgg64
  z127 := Tryz.sizeOf64
  v127 := Tryz.zeroValue64
  t138 := Tryz.underlying109
  a138 := Tryz.isAgg109
  z138 := Tryz.sizeOf109
  v138 := Tryz.zeroValue109
  t139 := Tryz.underlying110
  a139 := Tryz.isAgg110
  z139 := Tryz.sizeOf110
  v139 := Tryz.zeroValue110
  t146 := Tryz.underlying94
  a146 := Tryz.isAgg94
  z146 := Tryz.sizeOf94
  v146 := Tryz.zeroValue94
  t164 := Tryz.underlying76
  a164 := Tryz.isAgg76
  z164 := Tryz.sizeOf76
  v164 := Tryz.zeroValue76
  g1 := by kernel_rfl
  g3 := by kernel_rfl
  g4 := by kernel_rfl }
theorem Tryz.Builder_Extra_154 : Builder.Extra Tryz.prog Tryz.lays154_ren := {
  sizeBuilder := by kernel_rfl
  liesBuilder := by kernel_rfl
  t5 := Tryz.underlying5
  a5 := Tryz.isAgg5
  z5 := Tryz.sizeOf5
  v5 := Tryz.zeroValue5
  infoByte := by kernel_rfl
  cellsByte := by kernel_rfl
  sizeByte := by kernel_rfl
  neB5 := by decide }
open Go.RowKit Go.Lib in
/-- WHERE SOMETHING IS REPLACED: old is not new, n is not 0, there is an instance. (LAID: no walk: one application.) -/
theorem Tryz.strings_Replace_some (s old new : ByteArray) (n : Int) (m : Int) (w : World) (hs : s.size < 4294967281) (hm : w.cell? ⟨0, 0, none⟩ = some (.int .i64 m)) (h1 : 1 ≤ old.size) (hne : old ≠ new) (hn0 : n ≠ 0) (hc0 : Lib.countB s old ≠ 0) (hlen : s.size + Lib.countB s old * new.size ≤ 140737488355328) :
    Calls Tryz.prog 54 #[.string s, .string old, .string new, .int .i64 n] w fun e w' =>
      e = .returned (.string ⟨(Lib.replaceK old.data.toList new.data.toList (Lib.replaceNum s.data.toList old.data.toList n) s.data.toList).toArray⟩) ∧ Below w.heap.size w w' := Any.strings_Replace_some Tryz.lays154 Tryz.Builder_Extra_154 s old new n m w hs hm h1 hne hn0 hc0 hlen
open Go.RowKit Go.Lib in
/-- 'if old == new || n == 0 { return s }'. (LAID: no walk: one application.) -/
theorem Tryz.strings_Replace_none (s old new : ByteArray) (n : Int) (w : World) (h : old = new ∨ n = 0) :
    Calls Tryz.prog 54 #[.string s, .string old, .string new, .int .i64 n] w fun e w' => e = .returned (.string s) ∧ w' = w := Any.strings_Replace_none Tryz.lays154 s old new n w h
open Go.RowKit Go.Lib in
/-- 'if m := Count(s, old); m == 0 { return s }'. (LAID: no walk: one application.) -/
theorem Tryz.strings_Replace_absent (s old new : ByteArray) (n : Int) (m : Int) (w : World) (hs : s.size < 4294967281) (hm : w.cell? ⟨0, 0, none⟩ = some (.int .i64 m)) (h1 : 1 ≤ old.size) (hne : old ≠ new) (hn0 : n ≠ 0) (hc0 : Lib.countB s old = 0) :
    Calls Tryz.prog 54 #[.string s, .string old, .string new, .int .i64 n] w fun e w' => e = .returned (.string s) ∧ w' = w := Any.strings_Replace_absent Tryz.lays154 s old new n m w hs hm h1 hne hn0 hc0
open Go.RowKit Go.Lib in
/-- strings.Replace: "Replace returns a copy of the string s with the first n non-overlapping instances of old replaced by new. .. If n < 0, there is no limit on the number of replacements.": AT AN old THAT IS NOT EMPTY: IT RETURNS 'Lib.replace s old new n'. Below the heap's end the world is as it was. IT ASKS, as strings.Index's contract: 'len(s) < 4294967281', 'hm'; and that what comes out has room: 'len(s) + Count(s, old) * len(new) ≤ 2^47'. (LAID: no walk: one application.) -/
theorem Tryz.strings_Replace (s old new : ByteArray) (n : Int) (m : Int) (w : World) (hs : s.size < 4294967281) (hm : w.cell? ⟨0, 0, none⟩ = some (.int .i64 m)) (h1 : 1 ≤ old.size) (hlen : s.size + Lib.countB s old * new.size ≤ 140737488355328) :
    Calls Tryz.prog 54 #[.string s, .string old, .string new, .int .i64 n] w fun e w' =>
      e = .returned (.string ⟨(Lib.replace s.data.toList old.data.toList new.data.toList n).toArray⟩) ∧ Below w.heap.size w w' := Any.strings_Replace Tryz.lays154 Tryz.Builder_Extra_154 s old new n m w hs hm h1 hlen
def Tryz.lays155_ren : Go.Shelf.Ren := ⟨fun | 155 => 40 | 154 => 54 | 138 => 76 | 165 => 77 | 143 => 35 | 166 => 37 | 197 => 78 | 169 => 38 | 195 => 91 | 218 => 92 | 240 => 47 | 241 => 93 | 219 => 45 | 260 => 94 | 276 => 64 | 277 => 99 | 217 => 46 | 225 => 60 | 224 => 61 | 267 => 62 | 266 => 63 | 314 => 84 | n => n, fun | 9 => 9 | 3 => 3 | 4 => 4 | 72 => 52 | 0 => 0 | 76 => 56 | 105 => 89 | 21 => 21 | 5 => 5 | 70 => 49 | 20 => 20 | 37 => 50 | 75 => 55 | 127 => 64 | 164 => 76 | 46 => 75 | 119 => 107 | 139 => 110 | 138 => 109 | 146 => 94 | 51 => 93 | 80 => 58 | n => n, fun | 1 => 0 | 3 => 1 | 4 => 2 | n => n⟩
theorem Tryz.lays155 : Go.Proofs.Lays.n155 Tryz.prog Tryz.lays155_ren := {
  mixed := by kernel_rfl
  f138 := Tryz.func76.trans (congrArg some (by kernel_rfl))
  f143 := Tryz.func35.trans (congrArg some (by kernel_rfl))
  f154 := Tryz.func54.trans (congrArg some (by kernel_rfl))
  f155 := Tryz.func40.trans (congrArg some (by kernel_rfl))
  f165 := Tryz.func77.trans (congrArg some (by kernel_rfl))
  f166 := Tryz.func37.trans (congrArg some (by kernel_rfl))
  f169 := Tryz.func38.trans (congrArg some (by kernel_rfl))
  f195 := Tryz.func91.trans (congrArg some (by kernel_rfl))
  f197 := Tryz.func78.trans (congrArg some (by kernel_rfl))
  f217 := Tryz.func46.trans (congrArg some (by kernel_rfl))
  f218 := Tryz.func92.trans (congrArg some (by kernel_rfl))
  f219 := Tryz.func45.trans (congrArg some (by kernel_rfl))
  f224 := Tryz.func61.trans (congrArg some (by kernel_rfl))
  f225 := Tryz.func60.trans (congrArg some (by kernel_rfl))
  f240 := Tryz.func47.trans (congrArg some (by kernel_rfl))
  f241 := Tryz.func93.trans (congrArg some (by kernel_rfl))
  f260 := Tryz.func94.trans (congrArg some (by kernel_rfl))
  f266 := Tryz.func63.trans (congrArg some (by kernel_rfl))
  f267 := Tryz.func62.trans (congrArg some (by kernel_rfl))
  f276 := Tryz.func64.trans (congrArg some (by kernel_rfl))
  f277 := Tryz.func99.trans (congrArg some (by kernel_rfl))
  f314 := Tryz.func84.trans (congrArg some (by kernel_rfl))
  t0 := Tryz.underlying0
  a0 := Tryz.isAgg0
  z0 := Tryz.sizeOf0
  v0 := Tryz.zeroValue0
  t3 := Tryz.underlying3
  a3 := Tryz.isAgg3
  z3 := Tryz.sizeOf3
  v3 := Tryz.zeroValue3
  t4 := Tryz.underlying4
  a4 := Tryz.isAgg4
  z4 := Tryz.sizeOf4
  v4 := Tryz.zeroValue4
  t5 := Tryz.underlying5
  a5 := Tryz.isAgg5
  z5 := Tryz.sizeOf5
  v5 := Tryz.zeroValue5
  t9 := Tryz.underlying9
  a9 := Tryz.isAgg9
  z9 := Tryz.sizeOf9
  v9 := Tryz.zeroValue9
  t20 := Tryz.underlying20
  a20 := Tryz.isAgg20
  z20 := Tryz.sizeOf20
  v20 := Tryz.zeroValue20
  t21 := Tryz.underlying21
  a21 := Tryz.isAgg21
  z21 := Tryz.sizeOf21
  v21 := Tryz.zeroValue21
  t37 := Tryz.underlying50
  a37 := Tryz.isAgg50
  z37 := Tryz.sizeOf50
  v37 := Tryz.zeroValue50
  t46 := Tryz.underlying75
  a46 := Tryz.isAgg75
  z46 := Tryz.sizeOf75
  v46 := Tryz.zeroValue75
  t51 := Tryz.underlying93
  a51 := Tryz.isAgg93
  z51 := Tryz.sizeOf93
  v51 := Tryz.zeroValue93
  t70 := Tryz.underlying49
  a70 := Tryz.isAgg49
  z70 := Tryz.sizeOf49
  v70 := Tryz.zeroValue49
  t72 := Tryz.underlying52
  a72 := Tryz.isAgg52
  z72 := Tryz.sizeOf52
  v72 := Tryz.zeroValue52
  t75 := Tryz.underlying55
  a75 := Tryz.isAgg55
  z75 := Tryz.sizeOf55
  v75 := Tryz.zeroValue55
  t76 := Tryz.underlying56
  a76 := Tryz.isAgg56
  z76 := Tryz.sizeOf56
  v76 := Tryz.zeroValue56
  t105 := Tryz.underlying89
  a105 := Tryz.isAgg89
  z105 := Tryz.sizeOf89
  v105 := Tryz.zeroValue89
  t119 := Tryz.underlying107
  a119 := Tryz.isAgg107
  z119 := Tryz.sizeOf107
  t127 := Tryz.underlying64
  a127 := Tryz.isAgg64
  z127 := Tryz.sizeOf64
  v127 := Tryz.zeroValue64
  t138 := Tryz.underlying109
  a138 := Tryz.isAgg109
  z138 := Tryz.sizeOf109
  v138 := Tryz.zeroValue109
  t139 := Tryz.underlying110
  a139 := Tryz.isAgg110
  z139 := Tryz.sizeOf110
  v139 := Tryz.zeroValue110
  t146 := Tryz.underlying94
  a146 := Tryz.isAgg94
  z146 := Tryz.sizeOf94
  v146 := Tryz.zeroValue94
  t164 := Tryz.underlying76
  a164 := Tryz.isAgg76
  z164 := Tryz.sizeOf76
  v164 := Tryz.zeroValue76
  g1 := by kernel_rfl
  g3 := by kernel_rfl
  g4 := by kernel_rfl }
theorem Tryz.Builder_Extra_155 : Builder.Extra Tryz.prog Tryz.lays155_ren := {
  sizeBuilder := by kernel_rfl
  liesBuilder := by kernel_rfl
  t5 := Tryz.underlying5
  a5 := Tryz.isAgg5
  z5 := Tryz.sizeOf5
  v5 := Tryz.zeroValue5
  infoByte := by kernel_rfl
  cellsByte := by kernel_rfl
  sizeByte := by kernel_rfl
  neB5 := by decide }
open Go.RowKit Go.Lib in
/-- strings.ReplaceAll: "ReplaceAll returns a copy of the string s with all non-overlapping instances of old replaced by new.": AT AN old THAT IS NOT EMPTY: 'Lib.replaceAll s old new'. (LAID: no walk: one application.) -/
theorem Tryz.strings_ReplaceAll (s old new : ByteArray) (m : Int) (w : World) (hs : s.size < 4294967281) (hm : w.cell? ⟨0, 0, none⟩ = some (.int .i64 m)) (h1 : 1 ≤ old.size) (hlen : s.size + Lib.countB s old * new.size ≤ 140737488355328) :
    Calls Tryz.prog 40 #[.string s, .string old, .string new] w fun e w' =>
      e = .returned (.string ⟨(Lib.replaceAll s.data.toList old.data.toList new.data.toList).toArray⟩) ∧ Below w.heap.size w w' := Any.strings_ReplaceAll Tryz.lays155 Tryz.Builder_Extra_155 s old new m w hs hm h1 hlen
def Tryz.laysM154_ren : Go.Shelf.Ren := ⟨fun | 154 => 54 | 138 => 76 | 165 => 77 | 143 => 35 | 166 => 37 | 197 => 78 | 169 => 38 | 195 => 91 | 218 => 92 | 240 => 47 | 241 => 93 | 219 => 45 | 260 => 94 | 276 => 64 | 277 => 99 | 217 => 46 | 225 => 60 | 224 => 61 | 267 => 62 | 266 => 63 | 314 => 84 | n => n, fun | 9 => 9 | 3 => 3 | 4 => 4 | 72 => 52 | 0 => 0 | 76 => 56 | 105 => 89 | 21 => 21 | 5 => 5 | 70 => 49 | 20 => 20 | 37 => 50 | 75 => 55 | 127 => 64 | 164 => 76 | 46 => 75 | 119 => 107 | 139 => 110 | 138 => 109 | 146 => 94 | 51 => 93 | 80 => 58 | n => n, fun | 1 => 0 | 3 => 1 | 4 => 2 | n => n⟩
theorem Tryz.laysM154 : Go.Proofs.LaysM.n154 Tryz.prog Tryz.laysM154_ren := {
  mixed := by kernel_rfl
  f138 := Tryz.func76.trans (congrArg some (by kernel_rfl))
  f143 := Tryz.func35.trans (congrArg some (by kernel_rfl))
  f154 := Tryz.func54.trans (congrArg some (by kernel_rfl))
  f165 := Tryz.func77.trans (congrArg some (by kernel_rfl))
  f166 := Tryz.func37.trans (congrArg some (by kernel_rfl))
  f169 := Tryz.func38.trans (congrArg some (by kernel_rfl))
  f195 := Tryz.func91.trans (congrArg some (by kernel_rfl))
  f197 := Tryz.func78.trans (congrArg some (by kernel_rfl))
  f217 := Tryz.func46.trans (congrArg some (by kernel_rfl))
  f218 := Tryz.func92.trans (congrArg some (by kernel_rfl))
  f219 := Tryz.func45.trans (congrArg some (by kernel_rfl))
  f224 := Tryz.func61.trans (congrArg some (by kernel_rfl))
  f225 := Tryz.func60.trans (congrArg some (by kernel_rfl))
  f240 := Tryz.func47.trans (congrArg some (by kernel_rfl))
  f241 := Tryz.func93.trans (congrArg some (by kernel_rfl))
  f260 := Tryz.func94.trans (congrArg some (by kernel_rfl))
  f266 := Tryz.func63.trans (congrArg some (by kernel_rfl))
  f267 := Tryz.func62.trans (congrArg some (by kernel_rfl))
  f276 := Tryz.func64.trans (congrArg some (by kernel_rfl))
  f277 := Tryz.func99.trans (congrArg some (by kernel_rfl))
  f314 := Tryz.func84.trans (congrArg some (by kernel_rfl))
  t0 := Tryz.underlying0
  a0 := Tryz.isAgg0
  z0 := Tryz.sizeOf0
  v0 := Tryz.zeroValue0
  t3 := Tryz.underlying3
  a3 := Tryz.isAgg3
  z3 := Tryz.sizeOf3
  v3 := Tryz.zeroValue3
  t4 := Tryz.underlying4
  a4 := Tryz.isAgg4
  z4 := Tryz.sizeOf4
  v4 := Tryz.zeroValue4
  t5 := Tryz.underlying5
  a5 := Tryz.isAgg5
  z5 := Tryz.sizeOf5
  v5 := Tryz.zeroValue5
  t9 := Tryz.underlying9
  a9 := Tryz.isAgg9
  z9 := Tryz.sizeOf9
  v9 := Tryz.zeroValue9
  t20 := Tryz.underlying20
  a20 := Tryz.isAgg20
  z20 := Tryz.sizeOf20
  v20 := Tryz.zeroValue20
  t21 := Tryz.underlying21
  a21 := Tryz.isAgg21
  z21 := Tryz.sizeOf21
  v21 := Tryz.zeroValue21
  t37 := Tryz.underlying50
  a37 := Tryz.isAgg50
  z37 := Tryz.sizeOf50
  v37 := Tryz.zeroValue50
  t46 := Tryz.underlying75
  a46 := Tryz.isAgg75
  z46 := Tryz.sizeOf75
  v46 := Tryz.zeroValue75
  t51 := Tryz.underlying93
  a51 := Tryz.isAgg93
  z51 := Tryz.sizeOf93
  v51 := Tryz.zeroValue93
  t70 := Tryz.underlying49
  a70 := Tryz.isAgg49
  z70 := Tryz.sizeOf49
  v70 := Tryz.zeroValue49
  t72 := Tryz.underlying52
  a72 := Tryz.isAgg52
  z72 := Tryz.sizeOf52
  v72 := Tryz.zeroValue52
  t75 := Tryz.underlying55
  a75 := Tryz.isAgg55
  z75 := Tryz.sizeOf55
  v75 := Tryz.zeroValue55
  t76 := Tryz.underlying56
  a76 := Tryz.isAgg56
  z76 := Tryz.sizeOf56
  v76 := Tryz.zeroValue56
  t105 := Tryz.underlying89
  a105 := Tryz.isAgg89
  z105 := Tryz.sizeOf89
  v105 := Tryz.zeroValue89
  t119 := Tryz.underlying107
  a119 := Tryz.isAgg107
  z119 := Tryz.sizeOf107
  t127 := Tryz.underlying64
  a127 := Tryz.isAgg64
  z127 := Tryz.sizeOf64
  v127 := Tryz.zeroValue64
  t138 := Tryz.underlying109
  a138 := Tryz.isAgg109
  z138 := Tryz.sizeOf109
  v138 := Tryz.zeroValue109
  t139 := Tryz.underlying110
  a139 := Tryz.isAgg110
  z139 := Tryz.sizeOf110
  v139 := Tryz.zeroValue110
  t146 := Tryz.underlying94
  a146 := Tryz.isAgg94
  z146 := Tryz.sizeOf94
  v146 := Tryz.zeroValue94
  t164 := Tryz.underlying76
  a164 := Tryz.isAgg76
  z164 := Tryz.sizeOf76
  v164 := Tryz.zeroValue76
  g1 := by kernel_rfl
  g3 := by kernel_rfl
  g4 := by kernel_rfl
  t80 := Tryz.underlying58
  a80 := Tryz.isAgg58
  z80 := Tryz.sizeOf58
  v80 := Tryz.zeroValue58
  i0 := by kernel_rfl
  i3 := by kernel_rfl
  i4 := by kernel_rfl
  i5 := by kernel_rfl
  i9 := by kernel_rfl
  i20 := by kernel_rfl
  i21 := by kernel_rfl
  i37 := by kernel_rfl
  i46 := by kernel_rfl
  i51 := by kernel_rfl
  i70 := by kernel_rfl
  i72 := by kernel_rfl
  i75 := by kernel_rfl
  i76 := by kernel_rfl
  i80 := by kernel_rfl
  i105 := by kernel_rfl
  i127 := by kernel_rfl
  i138 := by kernel_rfl
  i139 := by kernel_rfl
  i146 := by kernel_rfl
  i164 := by kernel_rfl
  m1 := by kernel_rfl
  s1_3 := fun w h => Go.Proofs.cell_of_shapedOpen_int (zero := #[.int .i64 0]) (t := 3) h (of_decide_eq_true (by kernel_rfl)) (by kernel_rfl) rfl (by kernel_rfl) (by kernel_rfl) Tryz.underlying3
  m3 := by kernel_rfl
  m4 := by kernel_rfl }
theorem Tryz.Builder_Extra_M154 : Builder.Extra Tryz.prog Tryz.laysM154_ren := {
  sizeBuilder := by kernel_rfl
  liesBuilder := by kernel_rfl
  t5 := Tryz.underlying5
  a5 := Tryz.isAgg5
  z5 := Tryz.sizeOf5
  v5 := Tryz.zeroValue5
  infoByte := by kernel_rfl
  cellsByte := by kernel_rfl
  sizeByte := by kernel_rfl
  neB5 := by decide }
open Go.RowKit Go.Lib in
/-- strings.Replace, old not empty. (LAID: no walk: one application.) -/
theorem Tryz.strings_Replace_shaped (s old new : ByteArray) (n : Int) (w : World) (h : w.ShapedOpen Tryz.prog) (hs : s.size < 4294967281) (h1 : 1 ≤ old.size) (hlen : s.size + Lib.countB s old * new.size ≤ 140737488355328) :
    Calls Tryz.prog 54 #[.string s, .string old, .string new, .int .i64 n] w fun e w' =>
      e = .returned (.string ⟨(Lib.replace s.data.toList old.data.toList new.data.toList n).toArray⟩) ∧ Below w.heap.size w w' := Any.strings_Replace_shaped Tryz.laysM154 Tryz.Builder_Extra_M154 s old new n w h hs h1 hlen
def Tryz.laysM155_ren : Go.Shelf.Ren := ⟨fun | 155 => 40 | 154 => 54 | 138 => 76 | 165 => 77 | 143 => 35 | 166 => 37 | 197 => 78 | 169 => 38 | 195 => 91 | 218 => 92 | 240 => 47 | 241 => 93 | 219 => 45 | 260 => 94 | 276 => 64 | 277 => 99 | 217 => 46 | 225 => 60 | 224 => 61 | 267 => 62 | 266 => 63 | 314 => 84 | n => n, fun | 9 => 9 | 3 => 3 | 4 => 4 | 72 => 52 | 0 => 0 | 76 => 56 | 105 => 89 | 21 => 21 | 5 => 5 | 70 => 49 | 20 => 20 | 37 => 50 | 75 => 55 | 127 => 64 | 164 => 76 | 46 => 75 | 119 => 107 | 139 => 110 | 138 => 109 | 146 => 94 | 51 => 93 | 80 => 58 | n => n, fun | 1 => 0 | 3 => 1 | 4 => 2 | n => n⟩
theorem Tryz.laysM155 : Go.Proofs.LaysM.n155 Tryz.prog Tryz.laysM155_ren := {
  mixed := by kernel_rfl
  f138 := Tryz.func76.trans (congrArg some (by kernel_rfl))
  f143 := Tryz.func35.trans (congrArg some (by kernel_rfl))
  f154 := Tryz.func54.trans (congrArg some (by kernel_rfl))
  f155 := Tryz.func40.trans (congrArg some (by kernel_rfl))
  f165 := Tryz.func77.trans (congrArg some (by kernel_rfl))
  f166 := Tryz.func37.trans (congrArg some (by kernel_rfl))
  f169 := Tryz.func38.trans (congrArg some (by kernel_rfl))
  f195 := Tryz.func91.trans (congrArg some (by kernel_rfl))
  f197 := Tryz.func78.trans (congrArg some (by kernel_rfl))
  f217 := Tryz.func46.trans (congrArg some (by kernel_rfl))
  f218 := Tryz.func92.trans (congrArg some (by kernel_rfl))
  f219 := Tryz.func45.trans (congrArg some (by kernel_rfl))
  f224 := Tryz.func61.trans (congrArg some (by kernel_rfl))
  f225 := Tryz.func60.trans (congrArg some (by kernel_rfl))
  f240 := Tryz.func47.trans (congrArg some (by kernel_rfl))
  f241 := Tryz.func93.trans (congrArg some (by kernel_rfl))
  f260 := Tryz.func94.trans (congrArg some (by kernel_rfl))
  f266 := Tryz.func63.trans (congrArg some (by kernel_rfl))
  f267 := Tryz.func62.trans (congrArg some (by kernel_rfl))
  f276 := Tryz.func64.trans (congrArg some (by kernel_rfl))
  f277 := Tryz.func99.trans (congrArg some (by kernel_rfl))
  f314 := Tryz.func84.trans (congrArg some (by kernel_rfl))
  t0 := Tryz.underlying0
  a0 := Tryz.isAgg0
  z0 := Tryz.sizeOf0
  v0 := Tryz.zeroValue0
  t3 := Tryz.underlying3
  a3 := Tryz.isAgg3
  z3 := Tryz.sizeOf3
  v3 := Tryz.zeroValue3
  t4 := Tryz.underlying4
  a4 := Tryz.isAgg4
  z4 := Tryz.sizeOf4
  v4 := Tryz.zeroValue4
  t5 := Tryz.underlying5
  a5 := Tryz.isAgg5
  z5 := Tryz.sizeOf5
  v5 := Tryz.zeroValue5
  t9 := Tryz.underlying9
  a9 := Tryz.isAgg9
  z9 := Tryz.sizeOf9
  v9 := Tryz.zeroValue9
  t20 := Tryz.underlying20
  a20 := Tryz.isAgg20
  z20 := Tryz.sizeOf20
  v20 := Tryz.zeroValue20
  t21 := Tryz.underlying21
  a21 := Tryz.isAgg21
  z21 := Tryz.sizeOf21
  v21 := Tryz.zeroValue21
  t37 := Tryz.underlying50
  a37 := Tryz.isAgg50
  z37 := Tryz.sizeOf50
  v37 := Tryz.zeroValue50
  t46 := Tryz.underlying75
  a46 := Tryz.isAgg75
  z46 := Tryz.sizeOf75
  v46 := Tryz.zeroValue75
  t51 := Tryz.underlying93
  a51 := Tryz.isAgg93
  z51 := Tryz.sizeOf93
  v51 := Tryz.zeroValue93
  t70 := Tryz.underlying49
  a70 := Tryz.isAgg49
  z70 := Tryz.sizeOf49
  v70 := Tryz.zeroValue49
  t72 := Tryz.underlying52
  a72 := Tryz.isAgg52
  z72 := Tryz.sizeOf52
  v72 := Tryz.zeroValue52
  t75 := Tryz.underlying55
  a75 := Tryz.isAgg55
  z75 := Tryz.sizeOf55
  v75 := Tryz.zeroValue55
  t76 := Tryz.underlying56
  a76 := Tryz.isAgg56
  z76 := Tryz.sizeOf56
  v76 := Tryz.zeroValue56
  t105 := Tryz.underlying89
  a105 := Tryz.isAgg89
  z105 := Tryz.sizeOf89
  v105 := Tryz.zeroValue89
  t119 := Tryz.underlying107
  a119 := Tryz.isAgg107
  z119 := Tryz.sizeOf107
  t127 := Tryz.underlying64
  a127 := Tryz.isAgg64
  z127 := Tryz.sizeOf64
  v127 := Tryz.zeroValue64
  t138 := Tryz.underlying109
  a138 := Tryz.isAgg109
  z138 := Tryz.sizeOf109
  v138 := Tryz.zeroValue109
  t139 := Tryz.underlying110
  a139 := Tryz.isAgg110
  z139 := Tryz.sizeOf110
  v139 := Tryz.zeroValue110
  t146 := Tryz.underlying94
  a146 := Tryz.isAgg94
  z146 := Tryz.sizeOf94
  v146 := Tryz.zeroValue94
  t164 := Tryz.underlying76
  a164 := Tryz.isAgg76
  z164 := Tryz.sizeOf76
  v164 := Tryz.zeroValue76
  g1 := by kernel_rfl
  g3 := by kernel_rfl
  g4 := by kernel_rfl
  t80 := Tryz.underlying58
  a80 := Tryz.isAgg58
  z80 := Tryz.sizeOf58
  v80 := Tryz.zeroValue58
  i0 := by kernel_rfl
  i3 := by kernel_rfl
  i4 := by kernel_rfl
  i5 := by kernel_rfl
  i9 := by kernel_rfl
  i20 := by kernel_rfl
  i21 := by kernel_rfl
  i37 := by kernel_rfl
  i46 := by kernel_rfl
  i51 := by kernel_rfl
  i70 := by kernel_rfl
  i72 := by kernel_rfl
  i75 := by kernel_rfl
  i76 := by kernel_rfl
  i80 := by kernel_rfl
  i105 := by kernel_rfl
  i127 := by kernel_rfl
  i138 := by kernel_rfl
  i139 := by kernel_rfl
  i146 := by kernel_rfl
  i164 := by kernel_rfl
  m1 := by kernel_rfl
  s1_3 := fun w h => Go.Proofs.cell_of_shapedOpen_int (zero := #[.int .i64 0]) (t := 3) h (of_decide_eq_true (by kernel_rfl)) (by kernel_rfl) rfl (by kernel_rfl) (by kernel_rfl) Tryz.underlying3
  m3 := by kernel_rfl
  m4 := by kernel_rfl }
theorem Tryz.Builder_Extra_M155 : Builder.Extra Tryz.prog Tryz.laysM155_ren := {
  sizeBuilder := by kernel_rfl
  liesBuilder := by kernel_rfl
  t5 := Tryz.underlying5
  a5 := Tryz.isAgg5
  z5 := Tryz.sizeOf5
  v5 := Tryz.zeroValue5
  infoByte := by kernel_rfl
  cellsByte := by kernel_rfl
  sizeByte := by kernel_rfl
  neB5 := by decide }
open Go.RowKit Go.Lib in
/-- strings.ReplaceAll, old not empty. (LAID: no walk: one application.) -/
theorem Tryz.strings_ReplaceAll_shaped (s old new : ByteArray) (w : World) (h : w.ShapedOpen Tryz.prog) (hs : s.size < 4294967281) (h1 : 1 ≤ old.size) (hlen : s.size + Lib.countB s old * new.size ≤ 140737488355328) :
    Calls Tryz.prog 40 #[.string s, .string old, .string new] w fun e w' =>
      e = .returned (.string ⟨(Lib.replaceAll s.data.toList old.data.toList new.data.toList).toArray⟩) ∧ Below w.heap.size w w' := Any.strings_ReplaceAll_shaped Tryz.laysM155 Tryz.Builder_Extra_M155 s old new w h hs h1 hlen
def Tryz.lays197_ren : Go.Shelf.Ren := ⟨fun | 197 => 78 | 260 => 94 | n => n, fun | 9 => 9 | 21 => 21 | 3 => 3 | 4 => 4 | 5 => 5 | 105 => 89 | 119 => 107 | 0 => 0 | 46 => 75 | 139 => 110 | 138 => 109 | n => n, fun | 3 => 1 | 4 => 2 | n => n⟩
theorem Tryz.lays197 : Go.Proofs.Lays.n197 Tryz.prog Tryz.lays197_ren := {
  mixed := by kernel_rfl
  f197 := Tryz.func78.trans (congrArg some (by kernel_rfl))
  f260 := Tryz.func94.trans (congrArg some (by kernel_rfl))
  t0 := Tryz.underlying0
  a0 := Tryz.isAgg0
  z0 := Tryz.sizeOf0
  v0 := Tryz.zeroValue0
  t3 := Tryz.underlying3
  a3 := Tryz.isAgg3
  z3 := Tryz.sizeOf3
  v3 := Tryz.zeroValue3
  t4 := Tryz.underlying4
  a4 := Tryz.isAgg4
  z4 := Tryz.sizeOf4
  v4 := Tryz.zeroValue4
  t5 := Tryz.underlying5
  a5 := Tryz.isAgg5
  z5 := Tryz.sizeOf5
  v5 := Tryz.zeroValue5
  t9 := Tryz.underlying9
  a9 := Tryz.isAgg9
  z9 := Tryz.sizeOf9
  v9 := Tryz.zeroValue9
  t21 := Tryz.underlying21
  a21 := Tryz.isAgg21
  z21 := Tryz.sizeOf21
  v21 := Tryz.zeroValue21
  t46 := Tryz.underlying75
  a46 := Tryz.isAgg75
  z46 := Tryz.sizeOf75
  v46 := Tryz.zeroValue75
  t105 := Tryz.underlying89
  a105 := Tryz.isAgg89
  z105 := Tryz.sizeOf89
  v105 := Tryz.zeroValue89
  t119 := Tryz.underlying107
  a119 := Tryz.isAgg107
  z119 := Tryz.sizeOf107
  t138 := Tryz.underlying109
  a138 := Tryz.isAgg109
  z138 := Tryz.sizeOf109
  v138 := Tryz.zeroValue109
  t139 := Tryz.underlying110
  a139 := Tryz.isAgg110
  z139 := Tryz.sizeOf110
  v139 := Tryz.zeroValue110
  g3 := by kernel_rfl
  g4 := by kernel_rfl }
open Go.RowKit Go.Lib in
/-- unicode/utf8.DecodeRuneInString: "DecodeRuneInString is like DecodeRune but its input is a string.": ("DecodeRune unpacks the first UTF-8 encoding in p and returns the rune and its width in bytes."): WHERE s BEGINS WITH AN ASCII BYTE x: (x, 1). (LAID: no walk: one application.) -/
theorem Tryz.utf8_DecodeRuneInString_ascii (s : ByteArray) (x : UInt8) (w : World) (h0 : s.data.toList[0]? = some x) (hx : x.toNat < 128) :
    Calls Tryz.prog 78 #[.string s] w fun e w' => e = .returned (.tuple #[.int .i32 x.toNat, .int .i64 1]) ∧ w' = w := Any.utf8_DecodeRuneInString_ascii Tryz.lays197 s x w h0 hx
open Go.RowKit Go.Lib in
theorem Tryz.utf8_RuneCountInString_ascii (s : ByteArray) (w : World) (hs : s.size < 4294967281) (hascii : ∀ (j : Nat) b, s.data.toList[j]? = some b → b.toNat < 128) :
    Calls Tryz.prog 91 #[.string s] w fun e w' => e = .returned (.int .i64 s.size) ∧ w' = w.iter s s.size := Any.utf8_RuneCountInString_ascii Tryz.lays195 s w hs hascii
def Tryz.lays260_ren : Go.Shelf.Ren := ⟨fun | 260 => 94 | n => n, fun | 9 => 9 | 21 => 21 | 3 => 3 | 4 => 4 | 5 => 5 | 119 => 107 | 0 => 0 | 46 => 75 | 139 => 110 | 138 => 109 | n => n, fun | 3 => 1 | 4 => 2 | n => n⟩
theorem Tryz.lays260 : Go.Proofs.Lays.n260 Tryz.prog Tryz.lays260_ren := {
  mixed := by kernel_rfl
  f260 := Tryz.func94.trans (congrArg some (by kernel_rfl))
  t0 := Tryz.underlying0
  a0 := Tryz.isAgg0
  z0 := Tryz.sizeOf0
  v0 := Tryz.zeroValue0
  t3 := Tryz.underlying3
  a3 := Tryz.isAgg3
  z3 := Tryz.sizeOf3
  v3 := Tryz.zeroValue3
  t4 := Tryz.underlying4
  a4 := Tryz.isAgg4
  z4 := Tryz.sizeOf4
  v4 := Tryz.zeroValue4
  t5 := Tryz.underlying5
  a5 := Tryz.isAgg5
  z5 := Tryz.sizeOf5
  v5 := Tryz.zeroValue5
  t9 := Tryz.underlying9
  a9 := Tryz.isAgg9
  z9 := Tryz.sizeOf9
  v9 := Tryz.zeroValue9
  t21 := Tryz.underlying21
  a21 := Tryz.isAgg21
  z21 := Tryz.sizeOf21
  v21 := Tryz.zeroValue21
  t46 := Tryz.underlying75
  a46 := Tryz.isAgg75
  z46 := Tryz.sizeOf75
  v46 := Tryz.zeroValue75
  t119 := Tryz.underlying107
  a119 := Tryz.isAgg107
  z119 := Tryz.sizeOf107
  t138 := Tryz.underlying109
  a138 := Tryz.isAgg109
  z138 := Tryz.sizeOf109
  v138 := Tryz.zeroValue109
  t139 := Tryz.underlying110
  a139 := Tryz.isAgg110
  z139 := Tryz.sizeOf110
  v139 := Tryz.zeroValue110
  g3 := by kernel_rfl
  g4 := by kernel_rfl }
open Go.RowKit Go.Lib in
theorem Tryz.utf8_decodeRuneInStringSlow (s : ByteArray) (w : World) (hT : Lib.Utf8Tabs 1 2 w) :
    Calls Tryz.prog 94 #[.string s] w fun e w' => e = .returned (.tuple #[.int .i32 (Lib.decodeGo s).1, .int .i64 (Lib.decodeGo s).2]) ∧ Below w.heap.size w w' := Any.utf8_decodeRuneInStringSlow Tryz.lays260 s w hT
open Go.RowKit Go.Lib in
/-- **unicode/utf8.DecodeRuneInString AT EVERY STRING.** (LAID: no walk: one application.) -/
theorem Tryz.utf8_DecodeRuneInString (s : ByteArray) (w : World) (hT : Lib.Utf8Tabs 1 2 w) :
    Calls Tryz.prog 78 #[.string s] w fun e w' => e = .returned (.tuple #[.int .i32 (Lib.decodeGo s).1, .int .i64 (Lib.decodeGo s).2]) ∧ Below w.heap.size w w' := Any.utf8_DecodeRuneInString Tryz.lays197 s w hT
def Tryz.laysPa45_ren : Go.Shelf.Ren := ⟨fun | 45 => 100 | n => n, fun | 9 => 9 | 5 => 5 | 3 => 3 | 4 => 4 | n => n, fun | n => n⟩
theorem Tryz.laysPa45 : Go.Proofs.Lays.p45 Tryz.prog Tryz.laysPa45_ren := {
  mixed := by kernel_rfl
  f45 := Tryz.func100.trans (congrArg some (by kernel_rfl))
  t3 := Tryz.underlying3
  a3 := Tryz.isAgg3
  z3 := Tryz.sizeOf3
  v3 := Tryz.zeroValue3
  t4 := Tryz.underlying4
  a4 := Tryz.isAgg4
  z4 := Tryz.sizeOf4
  v4 := Tryz.zeroValue4
  t5 := Tryz.underlying5
  a5 := Tryz.isAgg5
  z5 := Tryz.sizeOf5
  v5 := Tryz.zeroValue5
  t9 := Tryz.underlying9
  a9 := Tryz.isAgg9
  z9 := Tryz.sizeOf9
  v9 := Tryz.zeroValue9 }
open Go.RowKit Go.Lib in
/-- internal/bytealg.LastIndexByteString (what strings.LastIndexByte calls: "LastIndexByte returns the index of the last instance of c in s, or -1 if c is not present in s."): IT RETURNS 'Pa.lastIndexByte s c'; the world is as it was. (LAID: no walk: one application.) -/
theorem Tryz.bytealg_LastIndexByteString (s : ByteArray) (c : UInt8) (w : World) (hs : s.size ≤ 9223372036854775807) :
    Calls Tryz.prog 100 #[.string s, .int .u8 c.toNat] w fun e w' => e = .returned (.int .i64 (Pa.lastIndexByte s.data.toList c)) ∧ w' = w := Any.bytealg_LastIndexByteString Tryz.laysPa45 s c w hs
end Go.Proofs
