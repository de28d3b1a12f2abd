/-
  DERIVED: THE SHELF's CONTRACTS AT THIS DUMP, IN PLAIN WORDS (tools/lay-plain.mjs out of 'TrydShelf.lean', which tools/lay-shelf.mjs wrote): THE SAME DECLARATIONS UNDER THE SAME NAMES: 'import', 'namespace', 'open', 'def', 'theorem' AND NOTHING ELSE: no command of the shelf's: FOR A HAND-IN. Each laying: the table of numbers ('.._ren') and one theorem, a field a fact of the dump's own or the kernel's comparison; each contract: ONE APPLICATION.
-/
import Derived.Shelf.Strings.Builder1
import Derived.Shelf.Small.Strs
import Derived.Shelf.LaysM
import Derived.Shelf.Strconv.Clone
import Derived.Shelf.Strconv.SyntaxError
import Derived.Shelf.LaysC
import Derived.Shelf.Strconv.ToError
import Derived.Shelf.Strconv.Lower
import Derived.Shelf.Strconv.ParseUintEmpty
import Derived.Shelf.Strings.Search1
import Derived.Shelf.Strings.Search2
import Derived.Shelf.Strings.Cut
import Derived.Shelf.Strings.Shaped
import Derived.Shelf.Strings.LastIndex
import Derived.Shelf.Strings.Prefix
import Derived.Test.YthmaiolfpinfmaaDoorProg
namespace Go.Proofs
open Go.Shelf
def Tryd.lays169_ren : Go.Shelf.Ren := ⟨fun | 169 => 46 | n => n, fun | 70 => 63 | 9 => 9 | 0 => 0 | 72 => 65 | 37 => 33 | 127 => 88 | 3 => 3 | 5 => 5 | n => n, fun | n => n⟩
theorem Tryd.lays169 : Go.Proofs.Lays.n169 Tryd.prog Tryd.lays169_ren := {
  mixed := by kernel_rfl
  f169 := Tryd.func46.trans (congrArg some (by kernel_rfl))
  t0 := Tryd.underlying0
  a0 := Tryd.isAgg0
  z0 := Tryd.sizeOf0
  v0 := Tryd.zeroValue0
  t3 := Tryd.underlying3
  a3 := Tryd.isAgg3
  z3 := Tryd.sizeOf3
  v3 := Tryd.zeroValue3
  t9 := Tryd.underlying9
  a9 := Tryd.isAgg9
  z9 := Tryd.sizeOf9
  v9 := Tryd.zeroValue9
  t37 := Tryd.underlying33
  a37 := Tryd.isAgg33
  z37 := Tryd.sizeOf33
  v37 := Tryd.zeroValue33
  t70 := Tryd.underlying63
  a70 := Tryd.isAgg63
  z70 := Tryd.sizeOf63
  v70 := Tryd.zeroValue63
  t72 := Tryd.underlying65
  a72 := Tryd.isAgg65
  z72 := Tryd.sizeOf65
  v72 := Tryd.zeroValue65
  t127 := Tryd.underlying88
  a127 := Tryd.isAgg88
  z127 := Tryd.sizeOf88
  v127 := Tryd.zeroValue88 }
theorem Tryd.Builder_Extra_169 : Builder.Extra Tryd.prog Tryd.lays169_ren := {
  sizeBuilder := by kernel_rfl
  liesBuilder := by kernel_rfl
  t5 := Tryd.underlying5
  a5 := Tryd.isAgg5
  z5 := Tryd.sizeOf5
  v5 := Tryd.zeroValue5
  infoByte := by kernel_rfl
  cellsByte := by kernel_rfl
  sizeByte := by kernel_rfl
  neB5 := by decide }
open Go.RowKit in
/-- (*strings.Builder).String: "String returns the accumulated string.": OF A BUILDER THAT HOLDS AT LEAST ONE BYTE. ✋ THE MODEL FREEZES THOSE BYTES IN THE BUFFER (unsafe.String): a later write INTO them ends the model's run without an answer; a later append BEHIND them goes on. The statement's order of evaluation is drawn: one draw. (LAID: no walk: one application.) -/
theorem Tryd.Builder_String (B b : Nat) (l : List UInt8) (w : World) (h : Lib.IsBuilder 65 5 B b (Lib.byteCells l) w) (h0 : l ≠ []) :
    Calls Tryd.prog 46 #[.pointer (some ⟨b, 0, none⟩)] w fun e w' => e = .returned (.string ⟨l.toArray⟩) ∧ Below B w w' := Any.Builder_String Tryd.lays169 Tryd.Builder_Extra_169 B b l w h h0
open Go.RowKit in
/-- (*strings.Builder).String OF A BUILDER THAT HOLDS NO BYTE: the empty string. (Its buffer is nil, or a row of which it has taken nothing yet; where that row has NO capacity the model lays one new block for unsafe.SliceData's 'some address'.) One draw. (LAID: no walk: one application.) -/
theorem Tryd.Builder_String_empty (B b : Nat) (w : World) (h : Lib.IsBuilder 65 5 B b [] w) (hBw : B ≤ w.heap.size) :
    Calls Tryd.prog 46 #[.pointer (some ⟨b, 0, none⟩)] w fun e w' => e = .returned (.string ⟨#[]⟩) ∧ Below B w w' := Any.Builder_String_empty Tryd.lays169 Tryd.Builder_Extra_169 B b w h hBw
open Go.RowKit in
/-- (*strings.Builder).String: "String returns the accumulated string.": WHATEVER THE BUILDER HOLDS. (LAID: no walk: one application.) -/
theorem Tryd.Builder_String_any (B b : Nat) (l : List UInt8) (w : World) (h : Lib.IsBuilder 65 5 B b (Lib.byteCells l) w) (hBw : B ≤ w.heap.size) :
    Calls Tryd.prog 46 #[.pointer (some ⟨b, 0, none⟩)] w fun e w' => e = .returned (.string ⟨l.toArray⟩) ∧ Below B w w' := Any.Builder_String_any Tryd.lays169 Tryd.Builder_Extra_169 B b l w h hBw
def Tryd.lays137_ren : Go.Shelf.Ren := ⟨fun | 137 => 44 | 217 => 62 | 266 => 71 | n => n, fun | 9 => 9 | 5 => 5 | 3 => 3 | n => n, fun | n => n⟩
theorem Tryd.lays137 : Go.Proofs.Lays.n137 Tryd.prog Tryd.lays137_ren := {
  mixed := by kernel_rfl
  f137 := Tryd.func44.trans (congrArg some (by kernel_rfl))
  f217 := Tryd.func62.trans (congrArg some (by kernel_rfl))
  f266 := Tryd.func71.trans (congrArg some (by kernel_rfl))
  t3 := Tryd.underlying3
  a3 := Tryd.isAgg3
  z3 := Tryd.sizeOf3
  v3 := Tryd.zeroValue3
  t5 := Tryd.underlying5
  a5 := Tryd.isAgg5
  z5 := Tryd.sizeOf5
  v5 := Tryd.zeroValue5
  t9 := Tryd.underlying9
  a9 := Tryd.isAgg9
  z9 := Tryd.sizeOf9
  v9 := Tryd.zeroValue9 }
open Go.RowKit in
/-- strings.IndexByte: "IndexByte returns the index of the first instance of c in s, or -1 if c is not present in s.": IT RETURNS 'Lib.indexByte s c'; the world is as it was. (LAID: no walk: one application.) -/
theorem Tryd.strings_IndexByte (s : ByteArray) (c : Int) (w : World) :
    Calls Tryd.prog 44 #[.string s, .int .u8 c] w fun e w' => e = .returned (.int .i64 (Lib.indexByte s.data.toList c.toNat.toUInt8)) ∧ w' = w := Any.strings_IndexByte Tryd.lays137 s c w
def Tryd.laysM316_ren : Go.Shelf.Ren := ⟨fun | 316 => 84 | n => n, fun | 9 => 9 | 3 => 3 | 4 => 4 | 37 => 33 | 0 => 0 | 127 => 88 | 5 => 5 | n => n, fun | n => n⟩
theorem Tryd.laysM316 : Go.Proofs.LaysM.n316 Tryd.prog Tryd.laysM316_ren := {
  mixed := by kernel_rfl
  f316 := Tryd.func84.trans (congrArg some (by kernel_rfl))
  t0 := Tryd.underlying0
  a0 := Tryd.isAgg0
  z0 := Tryd.sizeOf0
  v0 := Tryd.zeroValue0
  t3 := Tryd.underlying3
  a3 := Tryd.isAgg3
  z3 := Tryd.sizeOf3
  v3 := Tryd.zeroValue3
  t4 := Tryd.underlying4
  a4 := Tryd.isAgg4
  z4 := Tryd.sizeOf4
  v4 := Tryd.zeroValue4
  t9 := Tryd.underlying9
  a9 := Tryd.isAgg9
  z9 := Tryd.sizeOf9
  v9 := Tryd.zeroValue9
  t37 := Tryd.underlying33
  a37 := Tryd.isAgg33
  z37 := Tryd.sizeOf33
  v37 := Tryd.zeroValue33
  t127 := Tryd.underlying88
  a127 := Tryd.isAgg88
  z127 := Tryd.sizeOf88
  v127 := Tryd.zeroValue88
  t5 := Tryd.underlying5
  a5 := Tryd.isAgg5
  z5 := Tryd.sizeOf5
  v5 := Tryd.zeroValue5
  i0 := by kernel_rfl
  i3 := by kernel_rfl
  i4 := by kernel_rfl
  i5 := by kernel_rfl
  i9 := by kernel_rfl
  i37 := by kernel_rfl
  i127 := by kernel_rfl }
open Go.RowKit in
/-- internal/stringslite.Clone (what strings.Clone calls): "Clone returns a fresh copy of s.": THE SAME BYTES. Of what was there nothing has turned (a new row is laid, and frozen, where s is not empty). (LAID: no walk: one application.) -/
theorem Tryd.stringslite_Clone (s : ByteArray) (w : World) (hlim : s.size ≤ 281474976710656) :
    Calls Tryd.prog 84 #[.string s] w fun e w' => e = .returned (.string s) ∧ Below w.heap.size w w' := Any.stringslite_Clone Tryd.laysM316 s w hlim
def Tryd.laysC245_ren : Go.Shelf.Ren := ⟨fun | 245 => 70 | 279 => 79 | 280 => 80 | 281 => 81 | 282 => 82 | 316 => 84 | 171 => 86 | 205 => 85 | 243 => 87 | 246 => 88 | 283 => 89 | 284 => 90 | 285 => 91 | 286 => 92 | 129 => 94 | 317 => 93 | 318 => 95 | 319 => 96 | 320 => 97 | 337 => 98 | 338 => 99 | n => n, fun | 9 => 9 | 3 => 3 | 75 => 67 | 167 => 98 | 4 => 4 | 168 => 100 | 210 => 106 | 37 => 33 | 0 => 0 | 127 => 88 | 145 => 110 | 143 => 108 | 2 => 2 | 171 => 112 | 53 => 81 | 5 => 5 | 173 => 115 | 212 => 118 | 51 => 38 | 20 => 20 | 213 => 119 | 46 => 97 | 232 => 122 | 233 => 123 | 80 => 70 | n => n, fun | 15 => 1 | 16 => 2 | 17 => 3 | 18 => 4 | 19 => 5 | n => n⟩
theorem Tryd.laysC245 : Go.Proofs.LaysC.n245 Tryd.prog Tryd.laysC245_ren := {
  mixed := by kernel_rfl
  f129 := Tryd.func94.trans (congrArg some (by kernel_rfl))
  f171 := Tryd.func86.trans (congrArg some (by kernel_rfl))
  f205 := Tryd.func85.trans (congrArg some (by kernel_rfl))
  f243 := Tryd.func87.trans (congrArg some (by kernel_rfl))
  f245 := Tryd.func70.trans (congrArg some (by kernel_rfl))
  f246 := Tryd.func88.trans (congrArg some (by kernel_rfl))
  f279 := Tryd.func79.trans (congrArg some (by kernel_rfl))
  f280 := Tryd.func80.trans (congrArg some (by kernel_rfl))
  f281 := Tryd.func81.trans (congrArg some (by kernel_rfl))
  f282 := Tryd.func82.trans (congrArg some (by kernel_rfl))
  f283 := Tryd.func89.trans (congrArg some (by kernel_rfl))
  f284 := Tryd.func90.trans (congrArg some (by kernel_rfl))
  f285 := Tryd.func91.trans (congrArg some (by kernel_rfl))
  f286 := Tryd.func92.trans (congrArg some (by kernel_rfl))
  f316 := Tryd.func84.trans (congrArg some (by kernel_rfl))
  f317 := Tryd.func93.trans (congrArg some (by kernel_rfl))
  f318 := Tryd.func95.trans (congrArg some (by kernel_rfl))
  f319 := Tryd.func96.trans (congrArg some (by kernel_rfl))
  f320 := Tryd.func97.trans (congrArg some (by kernel_rfl))
  f337 := Tryd.func98.trans (congrArg some (by kernel_rfl))
  f338 := Tryd.func99.trans (congrArg some (by kernel_rfl))
  t0 := Tryd.underlying0
  a0 := Tryd.isAgg0
  z0 := Tryd.sizeOf0
  v0 := Tryd.zeroValue0
  t2 := Tryd.underlying2
  a2 := Tryd.isAgg2
  z2 := Tryd.sizeOf2
  v2 := Tryd.zeroValue2
  t3 := Tryd.underlying3
  a3 := Tryd.isAgg3
  z3 := Tryd.sizeOf3
  v3 := Tryd.zeroValue3
  t4 := Tryd.underlying4
  a4 := Tryd.isAgg4
  z4 := Tryd.sizeOf4
  v4 := Tryd.zeroValue4
  t5 := Tryd.underlying5
  a5 := Tryd.isAgg5
  z5 := Tryd.sizeOf5
  v5 := Tryd.zeroValue5
  t9 := Tryd.underlying9
  a9 := Tryd.isAgg9
  z9 := Tryd.sizeOf9
  v9 := Tryd.zeroValue9
  t20 := Tryd.underlying20
  a20 := Tryd.isAgg20
  z20 := Tryd.sizeOf20
  v20 := Tryd.zeroValue20
  t37 := Tryd.underlying33
  a37 := Tryd.isAgg33
  z37 := Tryd.sizeOf33
  v37 := Tryd.zeroValue33
  t46 := Tryd.underlying97
  a46 := Tryd.isAgg97
  z46 := Tryd.sizeOf97
  v46 := Tryd.zeroValue97
  t51 := Tryd.underlying38
  a51 := Tryd.isAgg38
  z51 := Tryd.sizeOf38
  v51 := Tryd.zeroValue38
  t53 := Tryd.underlying81
  a53 := Tryd.isAgg81
  z53 := Tryd.sizeOf81
  v53 := Tryd.zeroValue81
  t75 := Tryd.underlying67
  a75 := Tryd.isAgg67
  z75 := Tryd.sizeOf67
  v75 := Tryd.zeroValue67
  t127 := Tryd.underlying88
  a127 := Tryd.isAgg88
  z127 := Tryd.sizeOf88
  v127 := Tryd.zeroValue88
  t143 := Tryd.underlying108
  a143 := Tryd.isAgg108
  z143 := Tryd.sizeOf108
  v143 := Tryd.zeroValue108
  t145 := Tryd.underlying110
  a145 := Tryd.isAgg110
  z145 := Tryd.sizeOf110
  v145 := Tryd.zeroValue110
  t167 := Tryd.underlying98
  a167 := Tryd.isAgg98
  z167 := Tryd.sizeOf98
  v167 := Tryd.zeroValue98
  t168 := Tryd.underlying100
  a168 := Tryd.isAgg100
  z168 := Tryd.sizeOf100
  v168 := Tryd.zeroValue100
  t171 := Tryd.underlying112
  a171 := Tryd.isAgg112
  z171 := Tryd.sizeOf112
  v171 := Tryd.zeroValue112
  t173 := Tryd.underlying115
  a173 := Tryd.isAgg115
  z173 := Tryd.sizeOf115
  v173 := Tryd.zeroValue115
  t210 := Tryd.underlying106
  a210 := Tryd.isAgg106
  z210 := Tryd.sizeOf106
  v210 := Tryd.zeroValue106
  t212 := Tryd.underlying118
  a212 := Tryd.isAgg118
  z212 := Tryd.sizeOf118
  v212 := Tryd.zeroValue118
  t213 := Tryd.underlying119
  a213 := Tryd.isAgg119
  z213 := Tryd.sizeOf119
  t232 := Tryd.underlying122
  a232 := Tryd.isAgg122
  z232 := Tryd.sizeOf122
  v232 := Tryd.zeroValue122
  t233 := Tryd.underlying123
  a233 := Tryd.isAgg123
  z233 := Tryd.sizeOf123
  v233 := Tryd.zeroValue123
  g15 := by kernel_rfl
  g16 := by kernel_rfl
  g17 := by kernel_rfl
  g18 := by kernel_rfl
  g19 := by kernel_rfl
  t80 := Tryd.underlying70
  a80 := Tryd.isAgg70
  z80 := Tryd.sizeOf70
  v80 := Tryd.zeroValue70
  i0 := by kernel_rfl
  i2 := by kernel_rfl
  i3 := by kernel_rfl
  i4 := by kernel_rfl
  i5 := by kernel_rfl
  i9 := by kernel_rfl
  i20 := by kernel_rfl
  i37 := by kernel_rfl
  i46 := by kernel_rfl
  i51 := by kernel_rfl
  i53 := by kernel_rfl
  i75 := by kernel_rfl
  i80 := by kernel_rfl
  i127 := by kernel_rfl
  i143 := by kernel_rfl
  i145 := by kernel_rfl
  i167 := by kernel_rfl
  i168 := by kernel_rfl
  i171 := by kernel_rfl
  i173 := by kernel_rfl
  i210 := by kernel_rfl
  i212 := by kernel_rfl
  i232 := by kernel_rfl
  i233 := by kernel_rfl
  m15 := by kernel_rfl
  m16 := by kernel_rfl
  m17 := by kernel_rfl
  m18 := by kernel_rfl
  m19 := by kernel_rfl
  c0 := by kernel_rfl
  c2 := by kernel_rfl
  c3 := by kernel_rfl
  c4 := by kernel_rfl
  c5 := by kernel_rfl
  c9 := by kernel_rfl
  c20 := by kernel_rfl
  c37 := by kernel_rfl
  c46 := by kernel_rfl
  c51 := by kernel_rfl
  c53 := by kernel_rfl
  c75 := by kernel_rfl
  c80 := by kernel_rfl
  c127 := by kernel_rfl
  c143 := by kernel_rfl
  c145 := by kernel_rfl
  c167 := by kernel_rfl
  c168 := by kernel_rfl
  c171 := by kernel_rfl
  c173 := by kernel_rfl
  c210 := by kernel_rfl
  c212 := by kernel_rfl
  c213 := by kernel_rfl
  c232 := by kernel_rfl
  c233 := by kernel_rfl }
open Go.RowKit in
/-- strconv.toError, at the inner package's ErrSyntax: 'syntaxError(fn, s)' as an error: A *NumError IN A NEW BLOCK. (LAID: no walk: one application.) -/
theorem Tryd.strconv_toError_syntax (fn s : ByteArray) (base bits : Int) (ev : Value) (w : World) (hlim : s.size ≤ 281474976710656) (hv : w.cell? ⟨1, 0, none⟩ = some ev) (hev : ev = .nilIface ∨ ∃ te pe, ev = .iface te pe) :
    Calls Tryd.prog 70 #[.string fn, .string s, .int .i64 base, .int .i64 bits, .iface 98 (.int .i64 2)] w fun e w' => ∃ N, e = .returned (.iface 100 (.pointer (some ⟨N, 0, none⟩))) ∧ w.heap.size ≤ N ∧ w'.heap[N]? = some (.cells #[.string fn, .string s, ev] 106 (0, 0)) ∧ Below w.heap.size w w' := Any.strconv_toError_syntax Tryd.laysC245 fn s base bits ev w hlim hv hev
def Tryd.lays321_ren : Go.Shelf.Ren := ⟨fun | 321 => 77 | n => n, fun | 5 => 5 | n => n, fun | n => n⟩
theorem Tryd.lays321 : Go.Proofs.Lays.n321 Tryd.prog Tryd.lays321_ren := {
  mixed := by kernel_rfl
  f321 := Tryd.func77.trans (congrArg some (by kernel_rfl))
  t5 := Tryd.underlying5
  a5 := Tryd.isAgg5
  z5 := Tryd.sizeOf5
  v5 := Tryd.zeroValue5 }
open Go.RowKit in
/-- internal/strconv.lower: 'c | ('x' - 'X')': the bit 32 set. The world is as it was. (LAID: no walk: one application.) -/
theorem Tryd.internal_strconv_lower (c : Int) (w : World) :
    Calls Tryd.prog 77 #[.int .u8 c] w fun e w' => e = .returned (.int .u8 (bits .or .u8 c 32)) ∧ w' = w := Any.internal_strconv_lower Tryd.lays321 c w
def Tryd.lays287_ren : Go.Shelf.Ren := ⟨fun | 287 => 69 | 321 => 77 | 322 => 78 | n => n, fun | 9 => 9 | 3 => 3 | 53 => 81 | 75 => 67 | 4 => 4 | 167 => 98 | 5 => 5 | 46 => 97 | 37 => 33 | 0 => 0 | 21 => 21 | 80 => 70 | n => n, fun | n => n⟩
theorem Tryd.lays287 : Go.Proofs.Lays.n287 Tryd.prog Tryd.lays287_ren := {
  mixed := by kernel_rfl
  f287 := Tryd.func69.trans (congrArg some (by kernel_rfl))
  f321 := Tryd.func77.trans (congrArg some (by kernel_rfl))
  f322 := Tryd.func78.trans (congrArg some (by kernel_rfl))
  t0 := Tryd.underlying0
  a0 := Tryd.isAgg0
  z0 := Tryd.sizeOf0
  v0 := Tryd.zeroValue0
  t3 := Tryd.underlying3
  a3 := Tryd.isAgg3
  z3 := Tryd.sizeOf3
  v3 := Tryd.zeroValue3
  t4 := Tryd.underlying4
  a4 := Tryd.isAgg4
  z4 := Tryd.sizeOf4
  v4 := Tryd.zeroValue4
  t5 := Tryd.underlying5
  a5 := Tryd.isAgg5
  z5 := Tryd.sizeOf5
  v5 := Tryd.zeroValue5
  t9 := Tryd.underlying9
  a9 := Tryd.isAgg9
  z9 := Tryd.sizeOf9
  v9 := Tryd.zeroValue9
  t21 := Tryd.underlying21
  a21 := Tryd.isAgg21
  z21 := Tryd.sizeOf21
  v21 := Tryd.zeroValue21
  t37 := Tryd.underlying33
  a37 := Tryd.isAgg33
  z37 := Tryd.sizeOf33
  v37 := Tryd.zeroValue33
  t46 := Tryd.underlying97
  a46 := Tryd.isAgg97
  z46 := Tryd.sizeOf97
  v46 := Tryd.zeroValue97
  t53 := Tryd.underlying81
  a53 := Tryd.isAgg81
  z53 := Tryd.sizeOf81
  v53 := Tryd.zeroValue81
  t75 := Tryd.underlying67
  a75 := Tryd.isAgg67
  z75 := Tryd.sizeOf67
  v75 := Tryd.zeroValue67
  t167 := Tryd.underlying98
  a167 := Tryd.isAgg98
  z167 := Tryd.sizeOf98
  v167 := Tryd.zeroValue98 }
open Go.RowKit in
/-- internal/strconv.ParseUint("", base, bitSize): (0, ErrSyntax): the first test of the text. The world is as it was. (LAID: no walk: one application.) -/
theorem Tryd.internal_strconv_ParseUint_empty (base bits : Int) (w : World) :
    Calls Tryd.prog 69 #[.string ⟨#[]⟩, .int .i64 base, .int .i64 bits] w fun e w' => e = .returned (.tuple #[.int .u64 0, .iface 98 (.int .i64 2)]) ∧ w' = w := Any.internal_strconv_ParseUint_empty Tryd.lays287 base bits w
def Tryd.lays217_ren : Go.Shelf.Ren := ⟨fun | 217 => 62 | 266 => 71 | n => n, fun | 9 => 9 | 5 => 5 | 3 => 3 | n => n, fun | n => n⟩
theorem Tryd.lays217 : Go.Proofs.Lays.n217 Tryd.prog Tryd.lays217_ren := {
  mixed := by kernel_rfl
  f217 := Tryd.func62.trans (congrArg some (by kernel_rfl))
  f266 := Tryd.func71.trans (congrArg some (by kernel_rfl))
  t3 := Tryd.underlying3
  a3 := Tryd.isAgg3
  z3 := Tryd.sizeOf3
  v3 := Tryd.zeroValue3
  t5 := Tryd.underlying5
  a5 := Tryd.isAgg5
  z5 := Tryd.sizeOf5
  v5 := Tryd.zeroValue5
  t9 := Tryd.underlying9
  a9 := Tryd.isAgg9
  z9 := Tryd.sizeOf9
  v9 := Tryd.zeroValue9 }
open Go.RowKit Go.Lib in
/-- internal/stringslite.IndexByte (what strings.IndexByte calls): IT RETURNS 'Lib.indexByte s c'; the world is as it was. (LAID: no walk: one application.) -/
theorem Tryd.stringslite_IndexByte (s : ByteArray) (c : Int) (w : World) :
    Calls Tryd.prog 62 #[.string s, .int .u8 c] w fun e w' => e = .returned (.int .i64 (Lib.indexByte s.data.toList c.toNat.toUInt8)) ∧ w' = w := Any.stringslite_IndexByte Tryd.lays217 s c w
def Tryd.lays224_ren : Go.Shelf.Ren := ⟨fun | 224 => 75 | n => n, fun | 3 => 3 | n => n, fun | n => n⟩
theorem Tryd.lays224 : Go.Proofs.Lays.n224 Tryd.prog Tryd.lays224_ren := {
  mixed := by kernel_rfl
  f224 := Tryd.func75.trans (congrArg some (by kernel_rfl))
  t3 := Tryd.underlying3
  a3 := Tryd.isAgg3
  z3 := Tryd.sizeOf3
  v3 := Tryd.zeroValue3 }
open Go.RowKit Go.Lib in
/-- internal/bytealg.Cutover: "Cutover reports the number of failures of IndexByte we should tolerate before switching over to Index. n is the number of bytes processed so far.": on amd64: (n + 16) / 8. (LAID: no walk: one application.) -/
theorem Tryd.bytealg_Cutover (n : Int) (h0 : 0 ≤ n) (h1 : n < 4611686018427387904) (w : World) :
    Calls Tryd.prog 75 #[.int .i64 n] w fun e w' => e = .returned (.int .i64 ((n + 16) / 8)) ∧ w' = w := Any.bytealg_Cutover Tryd.lays224 n h0 h1 w
def Tryd.lays314_ren : Go.Shelf.Ren := ⟨fun | 314 => 83 | n => n, fun | 9 => 9 | 51 => 38 | 3 => 3 | 4 => 4 | 5 => 5 | 46 => 97 | n => n, fun | n => n⟩
theorem Tryd.lays314 : Go.Proofs.Lays.n314 Tryd.prog Tryd.lays314_ren := {
  mixed := by kernel_rfl
  f314 := Tryd.func83.trans (congrArg some (by kernel_rfl))
  t3 := Tryd.underlying3
  a3 := Tryd.isAgg3
  z3 := Tryd.sizeOf3
  v3 := Tryd.zeroValue3
  t4 := Tryd.underlying4
  a4 := Tryd.isAgg4
  z4 := Tryd.sizeOf4
  v4 := Tryd.zeroValue4
  t5 := Tryd.underlying5
  a5 := Tryd.isAgg5
  z5 := Tryd.sizeOf5
  v5 := Tryd.zeroValue5
  t9 := Tryd.underlying9
  a9 := Tryd.isAgg9
  z9 := Tryd.sizeOf9
  v9 := Tryd.zeroValue9
  t46 := Tryd.underlying97
  a46 := Tryd.isAgg97
  z46 := Tryd.sizeOf97
  v46 := Tryd.zeroValue97
  t51 := Tryd.underlying38
  a51 := Tryd.isAgg38
  z51 := Tryd.sizeOf38
  v51 := Tryd.zeroValue38 }
open Go.RowKit Go.Lib in
/-- hashStr: "returns the hash and the appropriate multiplicative factor for use in Rabin-Karp algorithm": THE HASH OF ALL OF sep, AND 16777619 ^ len(sep), both in uint32. (LAID: no walk: one application.) -/
theorem Tryd.bytealg_hashStr (sep : ByteArray) (hs : sep.size < 4294967281) (w : World) :
    Calls Tryd.prog 83 #[.string sep] w fun e w' => e = .returned (.tuple #[.int .u32 (RK.H sep.data.toList % 4294967296), .int .u32 (16777619 ^ sep.size % 4294967296)]) ∧ w' = w := Any.bytealg_hashStr Tryd.lays314 sep hs w
def Tryd.lays267_ren : Go.Shelf.Ren := ⟨fun | 267 => 76 | 314 => 83 | n => n, fun | 9 => 9 | 3 => 3 | 146 => 103 | 51 => 38 | 4 => 4 | 5 => 5 | 46 => 97 | n => n, fun | n => n⟩
theorem Tryd.lays267 : Go.Proofs.Lays.n267 Tryd.prog Tryd.lays267_ren := {
  mixed := by kernel_rfl
  f267 := Tryd.func76.trans (congrArg some (by kernel_rfl))
  f314 := Tryd.func83.trans (congrArg some (by kernel_rfl))
  t3 := Tryd.underlying3
  a3 := Tryd.isAgg3
  z3 := Tryd.sizeOf3
  v3 := Tryd.zeroValue3
  t4 := Tryd.underlying4
  a4 := Tryd.isAgg4
  z4 := Tryd.sizeOf4
  v4 := Tryd.zeroValue4
  t5 := Tryd.underlying5
  a5 := Tryd.isAgg5
  z5 := Tryd.sizeOf5
  v5 := Tryd.zeroValue5
  t9 := Tryd.underlying9
  a9 := Tryd.isAgg9
  z9 := Tryd.sizeOf9
  v9 := Tryd.zeroValue9
  t46 := Tryd.underlying97
  a46 := Tryd.isAgg97
  z46 := Tryd.sizeOf97
  v46 := Tryd.zeroValue97
  t51 := Tryd.underlying38
  a51 := Tryd.isAgg38
  z51 := Tryd.sizeOf38
  v51 := Tryd.zeroValue38
  t146 := Tryd.underlying103
  a146 := Tryd.isAgg103
  z146 := Tryd.sizeOf103
  v146 := Tryd.zeroValue103 }
open Go.RowKit Go.Lib in
theorem Tryd.bytealg_IndexRabinKarp (s sep : ByteArray) (h1 : 1 ≤ sep.size) (h2 : sep.size ≤ s.size) (hs : s.size < 4294967281) (w : World) :
    Calls Tryd.prog 76 #[.string s, .string sep] w fun e w' => e = .returned (.int .i64 (Lib.index s.data.toList sep.data.toList)) ∧ w' = w := Any.bytealg_IndexRabinKarp Tryd.lays267 s sep h1 h2 hs w
def Tryd.lays219_ren : Go.Shelf.Ren := ⟨fun | 219 => 68 | 217 => 62 | 225 => 74 | 224 => 75 | 267 => 76 | 266 => 71 | 314 => 83 | n => n, fun | 9 => 9 | 3 => 3 | 4 => 4 | 5 => 5 | 46 => 97 | 146 => 103 | 51 => 38 | n => n, fun | 1 => 0 | n => n⟩
theorem Tryd.lays219 : Go.Proofs.Lays.n219 Tryd.prog Tryd.lays219_ren := {
  mixed := by kernel_rfl
  f217 := Tryd.func62.trans (congrArg some (by kernel_rfl))
  f219 := Tryd.func68.trans (congrArg some (by kernel_rfl))
  f224 := Tryd.func75.trans (congrArg some (by kernel_rfl))
  f225 := Tryd.func74.trans (congrArg some (by kernel_rfl))
  f266 := Tryd.func71.trans (congrArg some (by kernel_rfl))
  f267 := Tryd.func76.trans (congrArg some (by kernel_rfl))
  f314 := Tryd.func83.trans (congrArg some (by kernel_rfl))
  t3 := Tryd.underlying3
  a3 := Tryd.isAgg3
  z3 := Tryd.sizeOf3
  v3 := Tryd.zeroValue3
  t4 := Tryd.underlying4
  a4 := Tryd.isAgg4
  z4 := Tryd.sizeOf4
  v4 := Tryd.zeroValue4
  t5 := Tryd.underlying5
  a5 := Tryd.isAgg5
  z5 := Tryd.sizeOf5
  v5 := Tryd.zeroValue5
  t9 := Tryd.underlying9
  a9 := Tryd.isAgg9
  z9 := Tryd.sizeOf9
  v9 := Tryd.zeroValue9
  t46 := Tryd.underlying97
  a46 := Tryd.isAgg97
  z46 := Tryd.sizeOf97
  v46 := Tryd.zeroValue97
  t51 := Tryd.underlying38
  a51 := Tryd.isAgg38
  z51 := Tryd.sizeOf38
  v51 := Tryd.zeroValue38
  t146 := Tryd.underlying103
  a146 := Tryd.isAgg103
  z146 := Tryd.sizeOf103
  v146 := Tryd.zeroValue103
  g1 := by kernel_rfl }
open Go.RowKit Go.Lib in
/-- internal/stringslite.Index (what strings.Index calls) AT A substr OF ONE BYTE c: IT RETURNS 'Lib.indexByte s c'; the world is as it was. (LAID: no walk: one application.) -/
theorem Tryd.stringslite_Index_one (s : ByteArray) (c : UInt8) (w : World) :
    Calls Tryd.prog 68 #[.string s, .string ⟨#[c]⟩] w fun e w' => e = .returned (.int .i64 (Lib.indexByte s.data.toList c)) ∧ w' = w := Any.stringslite_Index_one Tryd.lays219 s c w
open Go.RowKit Go.Lib in
/-- internal/stringslite.Index (what strings.Index calls) AT A substr OF WHATEVER LENGTH: IT RETURNS 'Lib.index s substr'; the world is as it was. 'm': what internal/bytealg.MaxLen holds: whatever. (LAID: no walk: one application.) -/
theorem Tryd.stringslite_Index (s sub : ByteArray) (m : Int) (w : World) (hs : s.size < 4294967281) (hm : w.cell? ⟨0, 0, none⟩ = some (.int .i64 m)) :
    Calls Tryd.prog 68 #[.string s, .string sub] w fun e w' => e = .returned (.int .i64 (Lib.index s.data.toList sub.data.toList)) ∧ w' = w := Any.stringslite_Index Tryd.lays219 s sub m w hs hm
def Tryd.lays220_ren : Go.Shelf.Ren := ⟨fun | 220 => 53 | 219 => 68 | 217 => 62 | 225 => 74 | 224 => 75 | 267 => 76 | 266 => 71 | 314 => 83 | n => n, fun | 9 => 9 | 4 => 4 | 3 => 3 | 5 => 5 | 46 => 97 | 146 => 103 | 51 => 38 | n => n, fun | 1 => 0 | n => n⟩
theorem Tryd.lays220 : Go.Proofs.Lays.n220 Tryd.prog Tryd.lays220_ren := {
  mixed := by kernel_rfl
  f217 := Tryd.func62.trans (congrArg some (by kernel_rfl))
  f219 := Tryd.func68.trans (congrArg some (by kernel_rfl))
  f220 := Tryd.func53.trans (congrArg some (by kernel_rfl))
  f224 := Tryd.func75.trans (congrArg some (by kernel_rfl))
  f225 := Tryd.func74.trans (congrArg some (by kernel_rfl))
  f266 := Tryd.func71.trans (congrArg some (by kernel_rfl))
  f267 := Tryd.func76.trans (congrArg some (by kernel_rfl))
  f314 := Tryd.func83.trans (congrArg some (by kernel_rfl))
  t3 := Tryd.underlying3
  a3 := Tryd.isAgg3
  z3 := Tryd.sizeOf3
  v3 := Tryd.zeroValue3
  t4 := Tryd.underlying4
  a4 := Tryd.isAgg4
  z4 := Tryd.sizeOf4
  v4 := Tryd.zeroValue4
  t5 := Tryd.underlying5
  a5 := Tryd.isAgg5
  z5 := Tryd.sizeOf5
  v5 := Tryd.zeroValue5
  t9 := Tryd.underlying9
  a9 := Tryd.isAgg9
  z9 := Tryd.sizeOf9
  v9 := Tryd.zeroValue9
  t46 := Tryd.underlying97
  a46 := Tryd.isAgg97
  z46 := Tryd.sizeOf97
  v46 := Tryd.zeroValue97
  t51 := Tryd.underlying38
  a51 := Tryd.isAgg38
  z51 := Tryd.sizeOf38
  v51 := Tryd.zeroValue38
  t146 := Tryd.underlying103
  a146 := Tryd.isAgg103
  z146 := Tryd.sizeOf103
  v146 := Tryd.zeroValue103
  g1 := by kernel_rfl }
open Go.RowKit Go.Lib in
/-- internal/stringslite.Cut (what strings.Cut calls): IT RETURNS 'Lib.cut s sep'; the world is as it was but for the count of draws. (LAID: no walk: one application.) -/
theorem Tryd.stringslite_Cut (s sep : ByteArray) (m : Int) (w : World) (hs : s.size < 4294967281) (hm : w.cell? ⟨0, 0, none⟩ = some (.int .i64 m)) :
    Calls Tryd.prog 53 #[.string s, .string sep] w fun e w' => e = .returned (.tuple #[.string ⟨(Lib.cut s.data.toList sep.data.toList).1.toArray⟩, .string ⟨(Lib.cut s.data.toList sep.data.toList).2.1.toArray⟩, .bool (Lib.cut s.data.toList sep.data.toList).2.2]) ∧ ∃ n, w' = w.drewN n := Any.stringslite_Cut Tryd.lays220 s sep m w hs hm
def Tryd.lays145_ren : Go.Shelf.Ren := ⟨fun | 145 => 33 | 220 => 53 | 219 => 68 | 217 => 62 | 225 => 74 | 224 => 75 | 267 => 76 | 266 => 71 | 314 => 83 | n => n, fun | 9 => 9 | 4 => 4 | 59 => 49 | 3 => 3 | 5 => 5 | 46 => 97 | 146 => 103 | 51 => 38 | n => n, fun | 1 => 0 | n => n⟩
theorem Tryd.lays145 : Go.Proofs.Lays.n145 Tryd.prog Tryd.lays145_ren := {
  mixed := by kernel_rfl
  f145 := Tryd.func33.trans (congrArg some (by kernel_rfl))
  f217 := Tryd.func62.trans (congrArg some (by kernel_rfl))
  f219 := Tryd.func68.trans (congrArg some (by kernel_rfl))
  f220 := Tryd.func53.trans (congrArg some (by kernel_rfl))
  f224 := Tryd.func75.trans (congrArg some (by kernel_rfl))
  f225 := Tryd.func74.trans (congrArg some (by kernel_rfl))
  f266 := Tryd.func71.trans (congrArg some (by kernel_rfl))
  f267 := Tryd.func76.trans (congrArg some (by kernel_rfl))
  f314 := Tryd.func83.trans (congrArg some (by kernel_rfl))
  t3 := Tryd.underlying3
  a3 := Tryd.isAgg3
  z3 := Tryd.sizeOf3
  v3 := Tryd.zeroValue3
  t4 := Tryd.underlying4
  a4 := Tryd.isAgg4
  z4 := Tryd.sizeOf4
  v4 := Tryd.zeroValue4
  t5 := Tryd.underlying5
  a5 := Tryd.isAgg5
  z5 := Tryd.sizeOf5
  v5 := Tryd.zeroValue5
  t9 := Tryd.underlying9
  a9 := Tryd.isAgg9
  z9 := Tryd.sizeOf9
  v9 := Tryd.zeroValue9
  t46 := Tryd.underlying97
  a46 := Tryd.isAgg97
  z46 := Tryd.sizeOf97
  v46 := Tryd.zeroValue97
  t51 := Tryd.underlying38
  a51 := Tryd.isAgg38
  z51 := Tryd.sizeOf38
  v51 := Tryd.zeroValue38
  t59 := Tryd.underlying49
  a59 := Tryd.isAgg49
  z59 := Tryd.sizeOf49
  v59 := Tryd.zeroValue49
  t146 := Tryd.underlying103
  a146 := Tryd.isAgg103
  z146 := Tryd.sizeOf103
  v146 := Tryd.zeroValue103
  g1 := by kernel_rfl }
open Go.RowKit Go.Lib in
/-- strings.Cut: "Cut slices s around the first instance of sep, returning the text before and after sep. The found result reports whether sep appears in s. If sep does not appear in s, cut returns s, "", false.": IT RETURNS 'Lib.cut s sep'; the world is as it was but for the count of draws. (LAID: no walk: one application.) -/
theorem Tryd.strings_Cut (s sep : ByteArray) (m : Int) (w : World) (hs : s.size < 4294967281) (hm : w.cell? ⟨0, 0, none⟩ = some (.int .i64 m)) :
    Calls Tryd.prog 33 #[.string s, .string sep] w fun e w' => e = .returned (.tuple #[.string ⟨(Lib.cut s.data.toList sep.data.toList).1.toArray⟩, .string ⟨(Lib.cut s.data.toList sep.data.toList).2.1.toArray⟩, .bool (Lib.cut s.data.toList sep.data.toList).2.2]) ∧ ∃ n, w' = w.drewN n := Any.strings_Cut Tryd.lays145 s sep m w hs hm
def Tryd.laysM219_ren : Go.Shelf.Ren := ⟨fun | 219 => 68 | 217 => 62 | 225 => 74 | 224 => 75 | 267 => 76 | 266 => 71 | 314 => 83 | n => n, fun | 9 => 9 | 3 => 3 | 4 => 4 | 5 => 5 | 46 => 97 | 146 => 103 | 51 => 38 | n => n, fun | 1 => 0 | n => n⟩
theorem Tryd.laysM219 : Go.Proofs.LaysM.n219 Tryd.prog Tryd.laysM219_ren := {
  mixed := by kernel_rfl
  f217 := Tryd.func62.trans (congrArg some (by kernel_rfl))
  f219 := Tryd.func68.trans (congrArg some (by kernel_rfl))
  f224 := Tryd.func75.trans (congrArg some (by kernel_rfl))
  f225 := Tryd.func74.trans (congrArg some (by kernel_rfl))
  f266 := Tryd.func71.trans (congrArg some (by kernel_rfl))
  f267 := Tryd.func76.trans (congrArg some (by kernel_rfl))
  f314 := Tryd.func83.trans (congrArg some (by kernel_rfl))
  t3 := Tryd.underlying3
  a3 := Tryd.isAgg3
  z3 := Tryd.sizeOf3
  v3 := Tryd.zeroValue3
  t4 := Tryd.underlying4
  a4 := Tryd.isAgg4
  z4 := Tryd.sizeOf4
  v4 := Tryd.zeroValue4
  t5 := Tryd.underlying5
  a5 := Tryd.isAgg5
  z5 := Tryd.sizeOf5
  v5 := Tryd.zeroValue5
  t9 := Tryd.underlying9
  a9 := Tryd.isAgg9
  z9 := Tryd.sizeOf9
  v9 := Tryd.zeroValue9
  t46 := Tryd.underlying97
  a46 := Tryd.isAgg97
  z46 := Tryd.sizeOf97
  v46 := Tryd.zeroValue97
  t51 := Tryd.underlying38
  a51 := Tryd.isAgg38
  z51 := Tryd.sizeOf38
  v51 := Tryd.zeroValue38
  t146 := Tryd.underlying103
  a146 := Tryd.isAgg103
  z146 := Tryd.sizeOf103
  v146 := Tryd.zeroValue103
  g1 := by kernel_rfl
  i3 := by kernel_rfl
  i4 := by kernel_rfl
  i5 := by kernel_rfl
  i9 := by kernel_rfl
  i46 := by kernel_rfl
  i51 := by kernel_rfl
  i146 := by kernel_rfl
  m1 := by kernel_rfl
  s1_3 := fun w h => Go.Proofs.cell_of_shapedOpen_int (zero := #[.int .i64 0]) (t := 3) h (of_decide_eq_true (by kernel_rfl)) (by kernel_rfl) rfl (by kernel_rfl) (by kernel_rfl) Tryd.underlying3 }
open Go.RowKit Go.Lib in
theorem Tryd.stringslite_Index_shaped (s sub : ByteArray) (w : World) (h : w.ShapedOpen Tryd.prog) (hs : s.size < 4294967281) :
    Calls Tryd.prog 68 #[.string s, .string sub] w fun e w' => e = .returned (.int .i64 (Lib.index s.data.toList sub.data.toList)) ∧ w' = w := Any.stringslite_Index_shaped Tryd.laysM219 s sub w h hs
def Tryd.laysM220_ren : Go.Shelf.Ren := ⟨fun | 220 => 53 | 219 => 68 | 217 => 62 | 225 => 74 | 224 => 75 | 267 => 76 | 266 => 71 | 314 => 83 | n => n, fun | 9 => 9 | 4 => 4 | 3 => 3 | 5 => 5 | 46 => 97 | 146 => 103 | 51 => 38 | n => n, fun | 1 => 0 | n => n⟩
theorem Tryd.laysM220 : Go.Proofs.LaysM.n220 Tryd.prog Tryd.laysM220_ren := {
  mixed := by kernel_rfl
  f217 := Tryd.func62.trans (congrArg some (by kernel_rfl))
  f219 := Tryd.func68.trans (congrArg some (by kernel_rfl))
  f220 := Tryd.func53.trans (congrArg some (by kernel_rfl))
  f224 := Tryd.func75.trans (congrArg some (by kernel_rfl))
  f225 := Tryd.func74.trans (congrArg some (by kernel_rfl))
  f266 := Tryd.func71.trans (congrArg some (by kernel_rfl))
  f267 := Tryd.func76.trans (congrArg some (by kernel_rfl))
  f314 := Tryd.func83.trans (congrArg some (by kernel_rfl))
  t3 := Tryd.underlying3
  a3 := Tryd.isAgg3
  z3 := Tryd.sizeOf3
  v3 := Tryd.zeroValue3
  t4 := Tryd.underlying4
  a4 := Tryd.isAgg4
  z4 := Tryd.sizeOf4
  v4 := Tryd.zeroValue4
  t5 := Tryd.underlying5
  a5 := Tryd.isAgg5
  z5 := Tryd.sizeOf5
  v5 := Tryd.zeroValue5
  t9 := Tryd.underlying9
  a9 := Tryd.isAgg9
  z9 := Tryd.sizeOf9
  v9 := Tryd.zeroValue9
  t46 := Tryd.underlying97
  a46 := Tryd.isAgg97
  z46 := Tryd.sizeOf97
  v46 := Tryd.zeroValue97
  t51 := Tryd.underlying38
  a51 := Tryd.isAgg38
  z51 := Tryd.sizeOf38
  v51 := Tryd.zeroValue38
  t146 := Tryd.underlying103
  a146 := Tryd.isAgg103
  z146 := Tryd.sizeOf103
  v146 := Tryd.zeroValue103
  g1 := by kernel_rfl
  i3 := by kernel_rfl
  i4 := by kernel_rfl
  i5 := by kernel_rfl
  i9 := by kernel_rfl
  i46 := by kernel_rfl
  i51 := by kernel_rfl
  i146 := by kernel_rfl
  m1 := by kernel_rfl
  s1_3 := fun w h => Go.Proofs.cell_of_shapedOpen_int (zero := #[.int .i64 0]) (t := 3) h (of_decide_eq_true (by kernel_rfl)) (by kernel_rfl) rfl (by kernel_rfl) (by kernel_rfl) Tryd.underlying3 }
open Go.RowKit Go.Lib in
theorem Tryd.stringslite_Cut_shaped (s sep : ByteArray) (w : World) (h : w.ShapedOpen Tryd.prog) (hs : s.size < 4294967281) :
    Calls Tryd.prog 53 #[.string s, .string sep] w fun e w' => e = .returned (.tuple #[.string ⟨(Lib.cut s.data.toList sep.data.toList).1.toArray⟩, .string ⟨(Lib.cut s.data.toList sep.data.toList).2.1.toArray⟩, .bool (Lib.cut s.data.toList sep.data.toList).2.2]) ∧ ∃ n, w' = w.drewN n := Any.stringslite_Cut_shaped Tryd.laysM220 s sep w h hs
def Tryd.laysM145_ren : Go.Shelf.Ren := ⟨fun | 145 => 33 | 220 => 53 | 219 => 68 | 217 => 62 | 225 => 74 | 224 => 75 | 267 => 76 | 266 => 71 | 314 => 83 | n => n, fun | 9 => 9 | 4 => 4 | 59 => 49 | 3 => 3 | 5 => 5 | 46 => 97 | 146 => 103 | 51 => 38 | n => n, fun | 1 => 0 | n => n⟩
theorem Tryd.laysM145 : Go.Proofs.LaysM.n145 Tryd.prog Tryd.laysM145_ren := {
  mixed := by kernel_rfl
  f145 := Tryd.func33.trans (congrArg some (by kernel_rfl))
  f217 := Tryd.func62.trans (congrArg some (by kernel_rfl))
  f219 := Tryd.func68.trans (congrArg some (by kernel_rfl))
  f220 := Tryd.func53.trans (congrArg some (by kernel_rfl))
  f224 := Tryd.func75.trans (congrArg some (by kernel_rfl))
  f225 := Tryd.func74.trans (congrArg some (by kernel_rfl))
  f266 := Tryd.func71.trans (congrArg some (by kernel_rfl))
  f267 := Tryd.func76.trans (congrArg some (by kernel_rfl))
  f314 := Tryd.func83.trans (congrArg some (by kernel_rfl))
  t3 := Tryd.underlying3
  a3 := Tryd.isAgg3
  z3 := Tryd.sizeOf3
  v3 := Tryd.zeroValue3
  t4 := Tryd.underlying4
  a4 := Tryd.isAgg4
  z4 := Tryd.sizeOf4
  v4 := Tryd.zeroValue4
  t5 := Tryd.underlying5
  a5 := Tryd.isAgg5
  z5 := Tryd.sizeOf5
  v5 := Tryd.zeroValue5
  t9 := Tryd.underlying9
  a9 := Tryd.isAgg9
  z9 := Tryd.sizeOf9
  v9 := Tryd.zeroValue9
  t46 := Tryd.underlying97
  a46 := Tryd.isAgg97
  z46 := Tryd.sizeOf97
  v46 := Tryd.zeroValue97
  t51 := Tryd.underlying38
  a51 := Tryd.isAgg38
  z51 := Tryd.sizeOf38
  v51 := Tryd.zeroValue38
  t59 := Tryd.underlying49
  a59 := Tryd.isAgg49
  z59 := Tryd.sizeOf49
  v59 := Tryd.zeroValue49
  t146 := Tryd.underlying103
  a146 := Tryd.isAgg103
  z146 := Tryd.sizeOf103
  v146 := Tryd.zeroValue103
  g1 := by kernel_rfl
  i3 := by kernel_rfl
  i4 := by kernel_rfl
  i5 := by kernel_rfl
  i9 := by kernel_rfl
  i46 := by kernel_rfl
  i51 := by kernel_rfl
  i59 := by kernel_rfl
  i146 := by kernel_rfl
  m1 := by kernel_rfl
  s1_3 := fun w h => Go.Proofs.cell_of_shapedOpen_int (zero := #[.int .i64 0]) (t := 3) h (of_decide_eq_true (by kernel_rfl)) (by kernel_rfl) rfl (by kernel_rfl) (by kernel_rfl) Tryd.underlying3 }
open Go.RowKit Go.Lib in
theorem Tryd.strings_Cut_shaped (s sep : ByteArray) (w : World) (h : w.ShapedOpen Tryd.prog) (hs : s.size < 4294967281) :
    Calls Tryd.prog 33 #[.string s, .string sep] w fun e w' => e = .returned (.tuple #[.string ⟨(Lib.cut s.data.toList sep.data.toList).1.toArray⟩, .string ⟨(Lib.cut s.data.toList sep.data.toList).2.1.toArray⟩, .bool (Lib.cut s.data.toList sep.data.toList).2.2]) ∧ ∃ n, w' = w.drewN n := Any.strings_Cut_shaped Tryd.laysM145 s sep w h hs
def Tryd.lays222_ren : Go.Shelf.Ren := ⟨fun | 222 => 73 | n => n, fun | 9 => 9 | 5 => 5 | 3 => 3 | 4 => 4 | n => n, fun | n => n⟩
theorem Tryd.lays222 : Go.Proofs.Lays.n222 Tryd.prog Tryd.lays222_ren := {
  mixed := by kernel_rfl
  f222 := Tryd.func73.trans (congrArg some (by kernel_rfl))
  t3 := Tryd.underlying3
  a3 := Tryd.isAgg3
  z3 := Tryd.sizeOf3
  v3 := Tryd.zeroValue3
  t4 := Tryd.underlying4
  a4 := Tryd.isAgg4
  z4 := Tryd.sizeOf4
  v4 := Tryd.zeroValue4
  t5 := Tryd.underlying5
  a5 := Tryd.isAgg5
  z5 := Tryd.sizeOf5
  v5 := Tryd.zeroValue5
  t9 := Tryd.underlying9
  a9 := Tryd.isAgg9
  z9 := Tryd.sizeOf9
  v9 := Tryd.zeroValue9 }
open Go.RowKit Go.Lib in
/-- internal/bytealg.LastIndexByteString: 'for i := len(s) - 1; i >= 0; i-- { if s[i] == c { return i } }; return -1'. (LAID: no walk: one application.) -/
theorem Tryd.bytealg_LastIndexByteString_nm (s : ByteArray) (c : Int) (hs : s.size < 4611686018427387904) (w : World) :
    Calls Tryd.prog 73 #[.string s, .int .u8 c] w fun e w' => e = .returned (.int .i64 (Lib.lastIndexByte s c)) ∧ w' = w := Any.bytealg_LastIndexByteString_nm Tryd.lays222 s c hs w
def Tryd.lays149_ren : Go.Shelf.Ren := ⟨fun | 149 => 67 | 222 => 73 | n => n, fun | 9 => 9 | 5 => 5 | 3 => 3 | 4 => 4 | n => n, fun | n => n⟩
theorem Tryd.lays149 : Go.Proofs.Lays.n149 Tryd.prog Tryd.lays149_ren := {
  mixed := by kernel_rfl
  f149 := Tryd.func67.trans (congrArg some (by kernel_rfl))
  f222 := Tryd.func73.trans (congrArg some (by kernel_rfl))
  t3 := Tryd.underlying3
  a3 := Tryd.isAgg3
  z3 := Tryd.sizeOf3
  v3 := Tryd.zeroValue3
  t4 := Tryd.underlying4
  a4 := Tryd.isAgg4
  z4 := Tryd.sizeOf4
  v4 := Tryd.zeroValue4
  t5 := Tryd.underlying5
  a5 := Tryd.isAgg5
  z5 := Tryd.sizeOf5
  v5 := Tryd.zeroValue5
  t9 := Tryd.underlying9
  a9 := Tryd.isAgg9
  z9 := Tryd.sizeOf9
  v9 := Tryd.zeroValue9 }
open Go.RowKit Go.Lib in
/-- strings.LastIndexByte: "LastIndexByte returns the index of the last instance of c in s, or -1 if c is not present in s." (LAID: no walk: one application.) -/
theorem Tryd.strings_LastIndexByte (s : ByteArray) (c : Int) (hs : s.size < 4611686018427387904) (w : World) :
    Calls Tryd.prog 67 #[.string s, .int .u8 c] w fun e w' => e = .returned (.int .i64 (Lib.lastIndexByte s c)) ∧ w' = w := Any.strings_LastIndexByte Tryd.lays149 s c hs w
def Tryd.lays207_ren : Go.Shelf.Ren := ⟨fun | 207 => 66 | n => n, fun | 9 => 9 | 4 => 4 | 3 => 3 | n => n, fun | n => n⟩
theorem Tryd.lays207 : Go.Proofs.Lays.n207 Tryd.prog Tryd.lays207_ren := {
  mixed := by kernel_rfl
  f207 := Tryd.func66.trans (congrArg some (by kernel_rfl))
  t3 := Tryd.underlying3
  a3 := Tryd.isAgg3
  z3 := Tryd.sizeOf3
  v3 := Tryd.zeroValue3
  t4 := Tryd.underlying4
  a4 := Tryd.isAgg4
  z4 := Tryd.sizeOf4
  v4 := Tryd.zeroValue4
  t9 := Tryd.underlying9
  a9 := Tryd.isAgg9
  z9 := Tryd.sizeOf9
  v9 := Tryd.zeroValue9 }
open Go.RowKit Go.Lib in
/-- internal/stringslite.HasSuffix (what strings.HasSuffix calls). (LAID: no walk: one application.) -/
theorem Tryd.stringslite_HasSuffix (s p : ByteArray) (w : World) (hs : s.size ≤ 9223372036854775807) :
    Calls Tryd.prog 66 #[.string s, .string p] w fun e w' => e = .returned (.bool (Lib.hasSuffix s.data.toList p.data.toList)) ∧ w' = w := Any.stringslite_HasSuffix Tryd.lays207 s p w hs
def Tryd.lays100_ren : Go.Shelf.Ren := ⟨fun | 100 => 51 | 207 => 66 | n => n, fun | 9 => 9 | 4 => 4 | 3 => 3 | n => n, fun | n => n⟩
theorem Tryd.lays100 : Go.Proofs.Lays.n100 Tryd.prog Tryd.lays100_ren := {
  mixed := by kernel_rfl
  f100 := Tryd.func51.trans (congrArg some (by kernel_rfl))
  f207 := Tryd.func66.trans (congrArg some (by kernel_rfl))
  t3 := Tryd.underlying3
  a3 := Tryd.isAgg3
  z3 := Tryd.sizeOf3
  v3 := Tryd.zeroValue3
  t4 := Tryd.underlying4
  a4 := Tryd.isAgg4
  z4 := Tryd.sizeOf4
  v4 := Tryd.zeroValue4
  t9 := Tryd.underlying9
  a9 := Tryd.isAgg9
  z9 := Tryd.sizeOf9
  v9 := Tryd.zeroValue9 }
open Go.RowKit Go.Lib in
/-- strings.HasSuffix: "HasSuffix reports whether the string s ends with suffix.": IT RETURNS 'Lib.hasSuffix s suffix'; the world is as it was. ('hs': no Go string is longer: a caller has it of every string that it was handed.) (LAID: no walk: one application.) -/
theorem Tryd.strings_HasSuffix (s p : ByteArray) (w : World) (hs : s.size ≤ 9223372036854775807) :
    Calls Tryd.prog 51 #[.string s, .string p] w fun e w' => e = .returned (.bool (Lib.hasSuffix s.data.toList p.data.toList)) ∧ w' = w := Any.strings_HasSuffix Tryd.lays100 s p w hs
end Go.Proofs
