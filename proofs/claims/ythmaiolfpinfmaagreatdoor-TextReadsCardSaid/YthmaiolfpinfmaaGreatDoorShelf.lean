/-
  DERIVED: THE SHELF's CONTRACTS AT THIS DUMP, IN PLAIN WORDS (tools/lay-plain.mjs out of 'TryzShelf.lean', which tools/lay-shelf.mjs wrote): THE SAME DECLARATIONS UNDER THE SAME NAMES: 'import', 'namespace', 'open', 'def', 'theorem' AND NOTHING ELSE: no command of the shelf's: FOR A HAND-IN. Each laying: the table of numbers ('.._ren') and one theorem, a field a fact of the dump's own or the kernel's comparison; each contract: ONE APPLICATION.
-/
import Derived.Shelf.Strings.Builder1
import Derived.Shelf.Small.Strs
import Derived.Shelf.LaysM
import Derived.Shelf.Strconv.Clone
import Derived.Shelf.Strconv.SyntaxError
import Derived.Shelf.LaysC
import Derived.Shelf.Strconv.ToError
import Derived.Shelf.Strconv.Lower
import Derived.Shelf.Strconv.ParseUintEmpty
import Derived.Shelf.Strings.Search1
import Derived.Shelf.Strings.Search2
import Derived.Shelf.Strings.Cut
import Derived.Shelf.Strings.Shaped
import Derived.Shelf.Strings.LastIndex
import Derived.Shelf.Strings.Prefix
import Derived.Test.YthmaiolfpinfmaaGreatDoorProg
namespace Go.Proofs
open Go.Shelf
def Tryz.lays169_ren : Go.Shelf.Ren := ⟨fun | 169 => 24 | n => n, fun | 70 => 33 | 9 => 9 | 0 => 0 | 72 => 36 | 37 => 34 | 127 => 48 | 3 => 3 | 5 => 5 | n => n, fun | n => n⟩
theorem Tryz.lays169 : Go.Proofs.Lays.n169 Tryz.prog Tryz.lays169_ren := {
  mixed := by kernel_rfl
  f169 := Tryz.func24.trans (congrArg some (by kernel_rfl))
  t0 := Tryz.underlying0
  a0 := Tryz.isAgg0
  z0 := Tryz.sizeOf0
  v0 := Tryz.zeroValue0
  t3 := Tryz.underlying3
  a3 := Tryz.isAgg3
  z3 := Tryz.sizeOf3
  v3 := Tryz.zeroValue3
  t9 := Tryz.underlying9
  a9 := Tryz.isAgg9
  z9 := Tryz.sizeOf9
  v9 := Tryz.zeroValue9
  t37 := Tryz.underlying34
  a37 := Tryz.isAgg34
  z37 := Tryz.sizeOf34
  v37 := Tryz.zeroValue34
  t70 := Tryz.underlying33
  a70 := Tryz.isAgg33
  z70 := Tryz.sizeOf33
  v70 := Tryz.zeroValue33
  t72 := Tryz.underlying36
  a72 := Tryz.isAgg36
  z72 := Tryz.sizeOf36
  v72 := Tryz.zeroValue36
  t127 := Tryz.underlying48
  a127 := Tryz.isAgg48
  z127 := Tryz.sizeOf48
  v127 := Tryz.zeroValue48 }
theorem Tryz.Builder_Extra_169 : Builder.Extra Tryz.prog Tryz.lays169_ren := {
  sizeBuilder := by kernel_rfl
  liesBuilder := by kernel_rfl
  t5 := Tryz.underlying5
  a5 := Tryz.isAgg5
  z5 := Tryz.sizeOf5
  v5 := Tryz.zeroValue5
  infoByte := by kernel_rfl
  cellsByte := by kernel_rfl
  sizeByte := by kernel_rfl
  neB5 := by decide }
open Go.RowKit in
/-- (*strings.Builder).String: "String returns the accumulated string.": OF A BUILDER THAT HOLDS AT LEAST ONE BYTE. ✋ THE MODEL FREEZES THOSE BYTES IN THE BUFFER (unsafe.String): a later write INTO them ends the model's run without an answer; a later append BEHIND them goes on. The statement's order of evaluation is drawn: one draw. (LAID: no walk: one application.) -/
theorem Tryz.Builder_String (B b : Nat) (l : List UInt8) (w : World) (h : Lib.IsBuilder 36 5 B b (Lib.byteCells l) w) (h0 : l ≠ []) :
    Calls Tryz.prog 24 #[.pointer (some ⟨b, 0, none⟩)] w fun e w' => e = .returned (.string ⟨l.toArray⟩) ∧ Below B w w' := Any.Builder_String Tryz.lays169 Tryz.Builder_Extra_169 B b l w h h0
open Go.RowKit in
/-- (*strings.Builder).String OF A BUILDER THAT HOLDS NO BYTE: the empty string. (Its buffer is nil, or a row of which it has taken nothing yet; where that row has NO capacity the model lays one new block for unsafe.SliceData's 'some address'.) One draw. (LAID: no walk: one application.) -/
theorem Tryz.Builder_String_empty (B b : Nat) (w : World) (h : Lib.IsBuilder 36 5 B b [] w) (hBw : B ≤ w.heap.size) :
    Calls Tryz.prog 24 #[.pointer (some ⟨b, 0, none⟩)] w fun e w' => e = .returned (.string ⟨#[]⟩) ∧ Below B w w' := Any.Builder_String_empty Tryz.lays169 Tryz.Builder_Extra_169 B b w h hBw
open Go.RowKit in
/-- (*strings.Builder).String: "String returns the accumulated string.": WHATEVER THE BUILDER HOLDS. (LAID: no walk: one application.) -/
theorem Tryz.Builder_String_any (B b : Nat) (l : List UInt8) (w : World) (h : Lib.IsBuilder 36 5 B b (Lib.byteCells l) w) (hBw : B ≤ w.heap.size) :
    Calls Tryz.prog 24 #[.pointer (some ⟨b, 0, none⟩)] w fun e w' => e = .returned (.string ⟨l.toArray⟩) ∧ Below B w w' := Any.Builder_String_any Tryz.lays169 Tryz.Builder_Extra_169 B b l w h hBw
def Tryz.lays137_ren : Go.Shelf.Ren := ⟨fun | 137 => 22 | 217 => 33 | 266 => 48 | n => n, fun | 9 => 9 | 5 => 5 | 3 => 3 | n => n, fun | n => n⟩
theorem Tryz.lays137 : Go.Proofs.Lays.n137 Tryz.prog Tryz.lays137_ren := {
  mixed := by kernel_rfl
  f137 := Tryz.func22.trans (congrArg some (by kernel_rfl))
  f217 := Tryz.func33.trans (congrArg some (by kernel_rfl))
  f266 := Tryz.func48.trans (congrArg some (by kernel_rfl))
  t3 := Tryz.underlying3
  a3 := Tryz.isAgg3
  z3 := Tryz.sizeOf3
  v3 := Tryz.zeroValue3
  t5 := Tryz.underlying5
  a5 := Tryz.isAgg5
  z5 := Tryz.sizeOf5
  v5 := Tryz.zeroValue5
  t9 := Tryz.underlying9
  a9 := Tryz.isAgg9
  z9 := Tryz.sizeOf9
  v9 := Tryz.zeroValue9 }
open Go.RowKit in
/-- strings.IndexByte: "IndexByte returns the index of the first instance of c in s, or -1 if c is not present in s.": IT RETURNS 'Lib.indexByte s c'; the world is as it was. (LAID: no walk: one application.) -/
theorem Tryz.strings_IndexByte (s : ByteArray) (c : Int) (w : World) :
    Calls Tryz.prog 22 #[.string s, .int .u8 c] w fun e w' => e = .returned (.int .i64 (Lib.indexByte s.data.toList c.toNat.toUInt8)) ∧ w' = w := Any.strings_IndexByte Tryz.lays137 s c w
def Tryz.laysM316_ren : Go.Shelf.Ren := ⟨fun | 316 => 87 | n => n, fun | 9 => 9 | 3 => 3 | 4 => 4 | 37 => 34 | 0 => 0 | 127 => 48 | 5 => 5 | n => n, fun | n => n⟩
theorem Tryz.laysM316 : Go.Proofs.LaysM.n316 Tryz.prog Tryz.laysM316_ren := {
  mixed := by kernel_rfl
  f316 := Tryz.func87.trans (congrArg some (by kernel_rfl))
  t0 := Tryz.underlying0
  a0 := Tryz.isAgg0
  z0 := Tryz.sizeOf0
  v0 := Tryz.zeroValue0
  t3 := Tryz.underlying3
  a3 := Tryz.isAgg3
  z3 := Tryz.sizeOf3
  v3 := Tryz.zeroValue3
  t4 := Tryz.underlying4
  a4 := Tryz.isAgg4
  z4 := Tryz.sizeOf4
  v4 := Tryz.zeroValue4
  t9 := Tryz.underlying9
  a9 := Tryz.isAgg9
  z9 := Tryz.sizeOf9
  v9 := Tryz.zeroValue9
  t37 := Tryz.underlying34
  a37 := Tryz.isAgg34
  z37 := Tryz.sizeOf34
  v37 := Tryz.zeroValue34
  t127 := Tryz.underlying48
  a127 := Tryz.isAgg48
  z127 := Tryz.sizeOf48
  v127 := Tryz.zeroValue48
  t5 := Tryz.underlying5
  a5 := Tryz.isAgg5
  z5 := Tryz.sizeOf5
  v5 := Tryz.zeroValue5
  i0 := by kernel_rfl
  i3 := by kernel_rfl
  i4 := by kernel_rfl
  i5 := by kernel_rfl
  i9 := by kernel_rfl
  i37 := by kernel_rfl
  i127 := by kernel_rfl }
open Go.RowKit in
/-- internal/stringslite.Clone (what strings.Clone calls): "Clone returns a fresh copy of s.": THE SAME BYTES. Of what was there nothing has turned (a new row is laid, and frozen, where s is not empty). (LAID: no walk: one application.) -/
theorem Tryz.stringslite_Clone (s : ByteArray) (w : World) (hlim : s.size ≤ 281474976710656) :
    Calls Tryz.prog 87 #[.string s] w fun e w' => e = .returned (.string s) ∧ Below w.heap.size w w' := Any.stringslite_Clone Tryz.laysM316 s w hlim
def Tryz.laysC245_ren : Go.Shelf.Ren := ⟨fun | 245 => 75 | 279 => 82 | 280 => 83 | 281 => 84 | 282 => 85 | 316 => 87 | 171 => 89 | 205 => 88 | 243 => 90 | 246 => 91 | 283 => 92 | 284 => 93 | 285 => 94 | 286 => 95 | 129 => 97 | 317 => 96 | 318 => 98 | 319 => 99 | 320 => 100 | 337 => 101 | 338 => 102 | n => n, fun | 9 => 9 | 3 => 3 | 75 => 38 | 167 => 87 | 4 => 4 | 168 => 89 | 210 => 96 | 37 => 34 | 0 => 0 | 127 => 48 | 145 => 100 | 143 => 98 | 2 => 2 | 171 => 102 | 53 => 78 | 5 => 5 | 173 => 105 | 212 => 108 | 51 => 92 | 20 => 20 | 213 => 109 | 46 => 86 | 232 => 112 | 233 => 113 | 80 => 41 | n => n, fun | 15 => 1 | 16 => 2 | 17 => 3 | 18 => 4 | 19 => 5 | n => n⟩
theorem Tryz.laysC245 : Go.Proofs.LaysC.n245 Tryz.prog Tryz.laysC245_ren := {
  mixed := by kernel_rfl
  f129 := Tryz.func97.trans (congrArg some (by kernel_rfl))
  f171 := Tryz.func89.trans (congrArg some (by kernel_rfl))
  f205 := Tryz.func88.trans (congrArg some (by kernel_rfl))
  f243 := Tryz.func90.trans (congrArg some (by kernel_rfl))
  f245 := Tryz.func75.trans (congrArg some (by kernel_rfl))
  f246 := Tryz.func91.trans (congrArg some (by kernel_rfl))
  f279 := Tryz.func82.trans (congrArg some (by kernel_rfl))
  f280 := Tryz.func83.trans (congrArg some (by kernel_rfl))
  f281 := Tryz.func84.trans (congrArg some (by kernel_rfl))
  f282 := Tryz.func85.trans (congrArg some (by kernel_rfl))
  f283 := Tryz.func92.trans (congrArg some (by kernel_rfl))
  f284 := Tryz.func93.trans (congrArg some (by kernel_rfl))
  f285 := Tryz.func94.trans (congrArg some (by kernel_rfl))
  f286 := Tryz.func95.trans (congrArg some (by kernel_rfl))
  f316 := Tryz.func87.trans (congrArg some (by kernel_rfl))
  f317 := Tryz.func96.trans (congrArg some (by kernel_rfl))
  f318 := Tryz.func98.trans (congrArg some (by kernel_rfl))
  f319 := Tryz.func99.trans (congrArg some (by kernel_rfl))
  f320 := Tryz.func100.trans (congrArg some (by kernel_rfl))
  f337 := Tryz.func101.trans (congrArg some (by kernel_rfl))
  f338 := Tryz.func102.trans (congrArg some (by kernel_rfl))
  t0 := Tryz.underlying0
  a0 := Tryz.isAgg0
  z0 := Tryz.sizeOf0
  v0 := Tryz.zeroValue0
  t2 := Tryz.underlying2
  a2 := Tryz.isAgg2
  z2 := Tryz.sizeOf2
  v2 := Tryz.zeroValue2
  t3 := Tryz.underlying3
  a3 := Tryz.isAgg3
  z3 := Tryz.sizeOf3
  v3 := Tryz.zeroValue3
  t4 := Tryz.underlying4
  a4 := Tryz.isAgg4
  z4 := Tryz.sizeOf4
  v4 := Tryz.zeroValue4
  t5 := Tryz.underlying5
  a5 := Tryz.isAgg5
  z5 := Tryz.sizeOf5
  v5 := Tryz.zeroValue5
  t9 := Tryz.underlying9
  a9 := Tryz.isAgg9
  z9 := Tryz.sizeOf9
  v9 := Tryz.zeroValue9
  t20 := Tryz.underlying20
  a20 := Tryz.isAgg20
  z20 := Tryz.sizeOf20
  v20 := Tryz.zeroValue20
  t37 := Tryz.underlying34
  a37 := Tryz.isAgg34
  z37 := Tryz.sizeOf34
  v37 := Tryz.zeroValue34
  t46 := Tryz.underlying86
  a46 := Tryz.isAgg86
  z46 := Tryz.sizeOf86
  v46 := Tryz.zeroValue86
  t51 := Tryz.underlying92
  a51 := Tryz.isAgg92
  z51 := Tryz.sizeOf92
  v51 := Tryz.zeroValue92
  t53 := Tryz.underlying78
  a53 := Tryz.isAgg78
  z53 := Tryz.sizeOf78
  v53 := Tryz.zeroValue78
  t75 := Tryz.underlying38
  a75 := Tryz.isAgg38
  z75 := Tryz.sizeOf38
  v75 := Tryz.zeroValue38
  t127 := Tryz.underlying48
  a127 := Tryz.isAgg48
  z127 := Tryz.sizeOf48
  v127 := Tryz.zeroValue48
  t143 := Tryz.underlying98
  a143 := Tryz.isAgg98
  z143 := Tryz.sizeOf98
  v143 := Tryz.zeroValue98
  t145 := Tryz.underlying100
  a145 := Tryz.isAgg100
  z145 := Tryz.sizeOf100
  v145 := Tryz.zeroValue100
  t167 := Tryz.underlying87
  a167 := Tryz.isAgg87
  z167 := Tryz.sizeOf87
  v167 := Tryz.zeroValue87
  t168 := Tryz.underlying89
  a168 := Tryz.isAgg89
  z168 := Tryz.sizeOf89
  v168 := Tryz.zeroValue89
  t171 := Tryz.underlying102
  a171 := Tryz.isAgg102
  z171 := Tryz.sizeOf102
  v171 := Tryz.zeroValue102
  t173 := Tryz.underlying105
  a173 := Tryz.isAgg105
  z173 := Tryz.sizeOf105
  v173 := Tryz.zeroValue105
  t210 := Tryz.underlying96
  a210 := Tryz.isAgg96
  z210 := Tryz.sizeOf96
  v210 := Tryz.zeroValue96
  t212 := Tryz.underlying108
  a212 := Tryz.isAgg108
  z212 := Tryz.sizeOf108
  v212 := Tryz.zeroValue108
  t213 := Tryz.underlying109
  a213 := Tryz.isAgg109
  z213 := Tryz.sizeOf109
  t232 := Tryz.underlying112
  a232 := Tryz.isAgg112
  z232 := Tryz.sizeOf112
  v232 := Tryz.zeroValue112
  t233 := Tryz.underlying113
  a233 := Tryz.isAgg113
  z233 := Tryz.sizeOf113
  v233 := Tryz.zeroValue113
  g15 := by kernel_rfl
  g16 := by kernel_rfl
  g17 := by kernel_rfl
  g18 := by kernel_rfl
  g19 := by kernel_rfl
  t80 := Tryz.underlying41
  a80 := Tryz.isAgg41
  z80 := Tryz.sizeOf41
  v80 := Tryz.zeroValue41
  i0 := by kernel_rfl
  i2 := by kernel_rfl
  i3 := by kernel_rfl
  i4 := by kernel_rfl
  i5 := by kernel_rfl
  i9 := by kernel_rfl
  i20 := by kernel_rfl
  i37 := by kernel_rfl
  i46 := by kernel_rfl
  i51 := by kernel_rfl
  i53 := by kernel_rfl
  i75 := by kernel_rfl
  i80 := by kernel_rfl
  i127 := by kernel_rfl
  i143 := by kernel_rfl
  i145 := by kernel_rfl
  i167 := by kernel_rfl
  i168 := by kernel_rfl
  i171 := by kernel_rfl
  i173 := by kernel_rfl
  i210 := by kernel_rfl
  i212 := by kernel_rfl
  i232 := by kernel_rfl
  i233 := by kernel_rfl
  m15 := by kernel_rfl
  m16 := by kernel_rfl
  m17 := by kernel_rfl
  m18 := by kernel_rfl
  m19 := by kernel_rfl
  c0 := by kernel_rfl
  c2 := by kernel_rfl
  c3 := by kernel_rfl
  c4 := by kernel_rfl
  c5 := by kernel_rfl
  c9 := by kernel_rfl
  c20 := by kernel_rfl
  c37 := by kernel_rfl
  c46 := by kernel_rfl
  c51 := by kernel_rfl
  c53 := by kernel_rfl
  c75 := by kernel_rfl
  c80 := by kernel_rfl
  c127 := by kernel_rfl
  c143 := by kernel_rfl
  c145 := by kernel_rfl
  c167 := by kernel_rfl
  c168 := by kernel_rfl
  c171 := by kernel_rfl
  c173 := by kernel_rfl
  c210 := by kernel_rfl
  c212 := by kernel_rfl
  c213 := by kernel_rfl
  c232 := by kernel_rfl
  c233 := by kernel_rfl }
open Go.RowKit in
/-- strconv.toError, at the inner package's ErrSyntax: 'syntaxError(fn, s)' as an error: A *NumError IN A NEW BLOCK. (LAID: no walk: one application.) -/
theorem Tryz.strconv_toError_syntax (fn s : ByteArray) (base bits : Int) (ev : Value) (w : World) (hlim : s.size ≤ 281474976710656) (hv : w.cell? ⟨1, 0, none⟩ = some ev) (hev : ev = .nilIface ∨ ∃ te pe, ev = .iface te pe) :
    Calls Tryz.prog 75 #[.string fn, .string s, .int .i64 base, .int .i64 bits, .iface 87 (.int .i64 2)] w fun e w' => ∃ N, e = .returned (.iface 89 (.pointer (some ⟨N, 0, none⟩))) ∧ w.heap.size ≤ N ∧ w'.heap[N]? = some (.cells #[.string fn, .string s, ev] 96 (0, 0)) ∧ Below w.heap.size w w' := Any.strconv_toError_syntax Tryz.laysC245 fn s base bits ev w hlim hv hev
def Tryz.lays321_ren : Go.Shelf.Ren := ⟨fun | 321 => 80 | n => n, fun | 5 => 5 | n => n, fun | n => n⟩
theorem Tryz.lays321 : Go.Proofs.Lays.n321 Tryz.prog Tryz.lays321_ren := {
  mixed := by kernel_rfl
  f321 := Tryz.func80.trans (congrArg some (by kernel_rfl))
  t5 := Tryz.underlying5
  a5 := Tryz.isAgg5
  z5 := Tryz.sizeOf5
  v5 := Tryz.zeroValue5 }
open Go.RowKit in
/-- internal/strconv.lower: 'c | ('x' - 'X')': the bit 32 set. The world is as it was. (LAID: no walk: one application.) -/
theorem Tryz.internal_strconv_lower (c : Int) (w : World) :
    Calls Tryz.prog 80 #[.int .u8 c] w fun e w' => e = .returned (.int .u8 (bits .or .u8 c 32)) ∧ w' = w := Any.internal_strconv_lower Tryz.lays321 c w
def Tryz.lays287_ren : Go.Shelf.Ren := ⟨fun | 287 => 74 | 321 => 80 | 322 => 81 | n => n, fun | 9 => 9 | 3 => 3 | 53 => 78 | 75 => 38 | 4 => 4 | 167 => 87 | 5 => 5 | 46 => 86 | 37 => 34 | 0 => 0 | 21 => 21 | 80 => 41 | n => n, fun | n => n⟩
theorem Tryz.lays287 : Go.Proofs.Lays.n287 Tryz.prog Tryz.lays287_ren := {
  mixed := by kernel_rfl
  f287 := Tryz.func74.trans (congrArg some (by kernel_rfl))
  f321 := Tryz.func80.trans (congrArg some (by kernel_rfl))
  f322 := Tryz.func81.trans (congrArg some (by kernel_rfl))
  t0 := Tryz.underlying0
  a0 := Tryz.isAgg0
  z0 := Tryz.sizeOf0
  v0 := Tryz.zeroValue0
  t3 := Tryz.underlying3
  a3 := Tryz.isAgg3
  z3 := Tryz.sizeOf3
  v3 := Tryz.zeroValue3
  t4 := Tryz.underlying4
  a4 := Tryz.isAgg4
  z4 := Tryz.sizeOf4
  v4 := Tryz.zeroValue4
  t5 := Tryz.underlying5
  a5 := Tryz.isAgg5
  z5 := Tryz.sizeOf5
  v5 := Tryz.zeroValue5
  t9 := Tryz.underlying9
  a9 := Tryz.isAgg9
  z9 := Tryz.sizeOf9
  v9 := Tryz.zeroValue9
  t21 := Tryz.underlying21
  a21 := Tryz.isAgg21
  z21 := Tryz.sizeOf21
  v21 := Tryz.zeroValue21
  t37 := Tryz.underlying34
  a37 := Tryz.isAgg34
  z37 := Tryz.sizeOf34
  v37 := Tryz.zeroValue34
  t46 := Tryz.underlying86
  a46 := Tryz.isAgg86
  z46 := Tryz.sizeOf86
  v46 := Tryz.zeroValue86
  t53 := Tryz.underlying78
  a53 := Tryz.isAgg78
  z53 := Tryz.sizeOf78
  v53 := Tryz.zeroValue78
  t75 := Tryz.underlying38
  a75 := Tryz.isAgg38
  z75 := Tryz.sizeOf38
  v75 := Tryz.zeroValue38
  t167 := Tryz.underlying87
  a167 := Tryz.isAgg87
  z167 := Tryz.sizeOf87
  v167 := Tryz.zeroValue87 }
open Go.RowKit in
/-- internal/strconv.ParseUint("", base, bitSize): (0, ErrSyntax): the first test of the text. The world is as it was. (LAID: no walk: one application.) -/
theorem Tryz.internal_strconv_ParseUint_empty (base bits : Int) (w : World) :
    Calls Tryz.prog 74 #[.string ⟨#[]⟩, .int .i64 base, .int .i64 bits] w fun e w' => e = .returned (.tuple #[.int .u64 0, .iface 87 (.int .i64 2)]) ∧ w' = w := Any.internal_strconv_ParseUint_empty Tryz.lays287 base bits w
def Tryz.lays217_ren : Go.Shelf.Ren := ⟨fun | 217 => 33 | 266 => 48 | n => n, fun | 9 => 9 | 5 => 5 | 3 => 3 | n => n, fun | n => n⟩
theorem Tryz.lays217 : Go.Proofs.Lays.n217 Tryz.prog Tryz.lays217_ren := {
  mixed := by kernel_rfl
  f217 := Tryz.func33.trans (congrArg some (by kernel_rfl))
  f266 := Tryz.func48.trans (congrArg some (by kernel_rfl))
  t3 := Tryz.underlying3
  a3 := Tryz.isAgg3
  z3 := Tryz.sizeOf3
  v3 := Tryz.zeroValue3
  t5 := Tryz.underlying5
  a5 := Tryz.isAgg5
  z5 := Tryz.sizeOf5
  v5 := Tryz.zeroValue5
  t9 := Tryz.underlying9
  a9 := Tryz.isAgg9
  z9 := Tryz.sizeOf9
  v9 := Tryz.zeroValue9 }
open Go.RowKit Go.Lib in
/-- internal/stringslite.IndexByte (what strings.IndexByte calls): IT RETURNS 'Lib.indexByte s c'; the world is as it was. (LAID: no walk: one application.) -/
theorem Tryz.stringslite_IndexByte (s : ByteArray) (c : Int) (w : World) :
    Calls Tryz.prog 33 #[.string s, .int .u8 c] w fun e w' => e = .returned (.int .i64 (Lib.indexByte s.data.toList c.toNat.toUInt8)) ∧ w' = w := Any.stringslite_IndexByte Tryz.lays217 s c w
def Tryz.lays224_ren : Go.Shelf.Ren := ⟨fun | 224 => 78 | n => n, fun | 3 => 3 | n => n, fun | n => n⟩
theorem Tryz.lays224 : Go.Proofs.Lays.n224 Tryz.prog Tryz.lays224_ren := {
  mixed := by kernel_rfl
  f224 := Tryz.func78.trans (congrArg some (by kernel_rfl))
  t3 := Tryz.underlying3
  a3 := Tryz.isAgg3
  z3 := Tryz.sizeOf3
  v3 := Tryz.zeroValue3 }
open Go.RowKit Go.Lib in
/-- internal/bytealg.Cutover: "Cutover reports the number of failures of IndexByte we should tolerate before switching over to Index. n is the number of bytes processed so far.": on amd64: (n + 16) / 8. (LAID: no walk: one application.) -/
theorem Tryz.bytealg_Cutover (n : Int) (h0 : 0 ≤ n) (h1 : n < 4611686018427387904) (w : World) :
    Calls Tryz.prog 78 #[.int .i64 n] w fun e w' => e = .returned (.int .i64 ((n + 16) / 8)) ∧ w' = w := Any.bytealg_Cutover Tryz.lays224 n h0 h1 w
def Tryz.lays314_ren : Go.Shelf.Ren := ⟨fun | 314 => 86 | n => n, fun | 9 => 9 | 51 => 92 | 3 => 3 | 4 => 4 | 5 => 5 | 46 => 86 | n => n, fun | n => n⟩
theorem Tryz.lays314 : Go.Proofs.Lays.n314 Tryz.prog Tryz.lays314_ren := {
  mixed := by kernel_rfl
  f314 := Tryz.func86.trans (congrArg some (by kernel_rfl))
  t3 := Tryz.underlying3
  a3 := Tryz.isAgg3
  z3 := Tryz.sizeOf3
  v3 := Tryz.zeroValue3
  t4 := Tryz.underlying4
  a4 := Tryz.isAgg4
  z4 := Tryz.sizeOf4
  v4 := Tryz.zeroValue4
  t5 := Tryz.underlying5
  a5 := Tryz.isAgg5
  z5 := Tryz.sizeOf5
  v5 := Tryz.zeroValue5
  t9 := Tryz.underlying9
  a9 := Tryz.isAgg9
  z9 := Tryz.sizeOf9
  v9 := Tryz.zeroValue9
  t46 := Tryz.underlying86
  a46 := Tryz.isAgg86
  z46 := Tryz.sizeOf86
  v46 := Tryz.zeroValue86
  t51 := Tryz.underlying92
  a51 := Tryz.isAgg92
  z51 := Tryz.sizeOf92
  v51 := Tryz.zeroValue92 }
open Go.RowKit Go.Lib in
/-- hashStr: "returns the hash and the appropriate multiplicative factor for use in Rabin-Karp algorithm": THE HASH OF ALL OF sep, AND 16777619 ^ len(sep), both in uint32. (LAID: no walk: one application.) -/
theorem Tryz.bytealg_hashStr (sep : ByteArray) (hs : sep.size < 4294967281) (w : World) :
    Calls Tryz.prog 86 #[.string sep] w fun e w' => e = .returned (.tuple #[.int .u32 (RK.H sep.data.toList % 4294967296), .int .u32 (16777619 ^ sep.size % 4294967296)]) ∧ w' = w := Any.bytealg_hashStr Tryz.lays314 sep hs w
def Tryz.lays267_ren : Go.Shelf.Ren := ⟨fun | 267 => 79 | 314 => 86 | n => n, fun | 9 => 9 | 3 => 3 | 146 => 93 | 51 => 92 | 4 => 4 | 5 => 5 | 46 => 86 | n => n, fun | n => n⟩
theorem Tryz.lays267 : Go.Proofs.Lays.n267 Tryz.prog Tryz.lays267_ren := {
  mixed := by kernel_rfl
  f267 := Tryz.func79.trans (congrArg some (by kernel_rfl))
  f314 := Tryz.func86.trans (congrArg some (by kernel_rfl))
  t3 := Tryz.underlying3
  a3 := Tryz.isAgg3
  z3 := Tryz.sizeOf3
  v3 := Tryz.zeroValue3
  t4 := Tryz.underlying4
  a4 := Tryz.isAgg4
  z4 := Tryz.sizeOf4
  v4 := Tryz.zeroValue4
  t5 := Tryz.underlying5
  a5 := Tryz.isAgg5
  z5 := Tryz.sizeOf5
  v5 := Tryz.zeroValue5
  t9 := Tryz.underlying9
  a9 := Tryz.isAgg9
  z9 := Tryz.sizeOf9
  v9 := Tryz.zeroValue9
  t46 := Tryz.underlying86
  a46 := Tryz.isAgg86
  z46 := Tryz.sizeOf86
  v46 := Tryz.zeroValue86
  t51 := Tryz.underlying92
  a51 := Tryz.isAgg92
  z51 := Tryz.sizeOf92
  v51 := Tryz.zeroValue92
  t146 := Tryz.underlying93
  a146 := Tryz.isAgg93
  z146 := Tryz.sizeOf93
  v146 := Tryz.zeroValue93 }
open Go.RowKit Go.Lib in
theorem Tryz.bytealg_IndexRabinKarp (s sep : ByteArray) (h1 : 1 ≤ sep.size) (h2 : sep.size ≤ s.size) (hs : s.size < 4294967281) (w : World) :
    Calls Tryz.prog 79 #[.string s, .string sep] w fun e w' => e = .returned (.int .i64 (Lib.index s.data.toList sep.data.toList)) ∧ w' = w := Any.bytealg_IndexRabinKarp Tryz.lays267 s sep h1 h2 hs w
def Tryz.lays219_ren : Go.Shelf.Ren := ⟨fun | 219 => 73 | 217 => 33 | 225 => 77 | 224 => 78 | 267 => 79 | 266 => 48 | 314 => 86 | n => n, fun | 9 => 9 | 3 => 3 | 4 => 4 | 5 => 5 | 46 => 86 | 146 => 93 | 51 => 92 | n => n, fun | 1 => 0 | n => n⟩
theorem Tryz.lays219 : Go.Proofs.Lays.n219 Tryz.prog Tryz.lays219_ren := {
  mixed := by kernel_rfl
  f217 := Tryz.func33.trans (congrArg some (by kernel_rfl))
  f219 := Tryz.func73.trans (congrArg some (by kernel_rfl))
  f224 := Tryz.func78.trans (congrArg some (by kernel_rfl))
  f225 := Tryz.func77.trans (congrArg some (by kernel_rfl))
  f266 := Tryz.func48.trans (congrArg some (by kernel_rfl))
  f267 := Tryz.func79.trans (congrArg some (by kernel_rfl))
  f314 := Tryz.func86.trans (congrArg some (by kernel_rfl))
  t3 := Tryz.underlying3
  a3 := Tryz.isAgg3
  z3 := Tryz.sizeOf3
  v3 := Tryz.zeroValue3
  t4 := Tryz.underlying4
  a4 := Tryz.isAgg4
  z4 := Tryz.sizeOf4
  v4 := Tryz.zeroValue4
  t5 := Tryz.underlying5
  a5 := Tryz.isAgg5
  z5 := Tryz.sizeOf5
  v5 := Tryz.zeroValue5
  t9 := Tryz.underlying9
  a9 := Tryz.isAgg9
  z9 := Tryz.sizeOf9
  v9 := Tryz.zeroValue9
  t46 := Tryz.underlying86
  a46 := Tryz.isAgg86
  z46 := Tryz.sizeOf86
  v46 := Tryz.zeroValue86
  t51 := Tryz.underlying92
  a51 := Tryz.isAgg92
  z51 := Tryz.sizeOf92
  v51 := Tryz.zeroValue92
  t146 := Tryz.underlying93
  a146 := Tryz.isAgg93
  z146 := Tryz.sizeOf93
  v146 := Tryz.zeroValue93
  g1 := by kernel_rfl }
open Go.RowKit Go.Lib in
/-- internal/stringslite.Index (what strings.Index calls) AT A substr OF ONE BYTE c: IT RETURNS 'Lib.indexByte s c'; the world is as it was. (LAID: no walk: one application.) -/
theorem Tryz.stringslite_Index_one (s : ByteArray) (c : UInt8) (w : World) :
    Calls Tryz.prog 73 #[.string s, .string ⟨#[c]⟩] w fun e w' => e = .returned (.int .i64 (Lib.indexByte s.data.toList c)) ∧ w' = w := Any.stringslite_Index_one Tryz.lays219 s c w
open Go.RowKit Go.Lib in
/-- internal/stringslite.Index (what strings.Index calls) AT A substr OF WHATEVER LENGTH: IT RETURNS 'Lib.index s substr'; the world is as it was. 'm': what internal/bytealg.MaxLen holds: whatever. (LAID: no walk: one application.) -/
theorem Tryz.stringslite_Index (s sub : ByteArray) (m : Int) (w : World) (hs : s.size < 4294967281) (hm : w.cell? ⟨0, 0, none⟩ = some (.int .i64 m)) :
    Calls Tryz.prog 73 #[.string s, .string sub] w fun e w' => e = .returned (.int .i64 (Lib.index s.data.toList sub.data.toList)) ∧ w' = w := Any.stringslite_Index Tryz.lays219 s sub m w hs hm
def Tryz.lays220_ren : Go.Shelf.Ren := ⟨fun | 220 => 68 | 219 => 73 | 217 => 33 | 225 => 77 | 224 => 78 | 267 => 79 | 266 => 48 | 314 => 86 | n => n, fun | 9 => 9 | 4 => 4 | 3 => 3 | 5 => 5 | 46 => 86 | 146 => 93 | 51 => 92 | n => n, fun | 1 => 0 | n => n⟩
theorem Tryz.lays220 : Go.Proofs.Lays.n220 Tryz.prog Tryz.lays220_ren := {
  mixed := by kernel_rfl
  f217 := Tryz.func33.trans (congrArg some (by kernel_rfl))
  f219 := Tryz.func73.trans (congrArg some (by kernel_rfl))
  f220 := Tryz.func68.trans (congrArg some (by kernel_rfl))
  f224 := Tryz.func78.trans (congrArg some (by kernel_rfl))
  f225 := Tryz.func77.trans (congrArg some (by kernel_rfl))
  f266 := Tryz.func48.trans (congrArg some (by kernel_rfl))
  f267 := Tryz.func79.trans (congrArg some (by kernel_rfl))
  f314 := Tryz.func86.trans (congrArg some (by kernel_rfl))
  t3 := Tryz.underlying3
  a3 := Tryz.isAgg3
  z3 := Tryz.sizeOf3
  v3 := Tryz.zeroValue3
  t4 := Tryz.underlying4
  a4 := Tryz.isAgg4
  z4 := Tryz.sizeOf4
  v4 := Tryz.zeroValue4
  t5 := Tryz.underlying5
  a5 := Tryz.isAgg5
  z5 := Tryz.sizeOf5
  v5 := Tryz.zeroValue5
  t9 := Tryz.underlying9
  a9 := Tryz.isAgg9
  z9 := Tryz.sizeOf9
  v9 := Tryz.zeroValue9
  t46 := Tryz.underlying86
  a46 := Tryz.isAgg86
  z46 := Tryz.sizeOf86
  v46 := Tryz.zeroValue86
  t51 := Tryz.underlying92
  a51 := Tryz.isAgg92
  z51 := Tryz.sizeOf92
  v51 := Tryz.zeroValue92
  t146 := Tryz.underlying93
  a146 := Tryz.isAgg93
  z146 := Tryz.sizeOf93
  v146 := Tryz.zeroValue93
  g1 := by kernel_rfl }
open Go.RowKit Go.Lib in
/-- internal/stringslite.Cut (what strings.Cut calls): IT RETURNS 'Lib.cut s sep'; the world is as it was but for the count of draws. (LAID: no walk: one application.) -/
theorem Tryz.stringslite_Cut (s sep : ByteArray) (m : Int) (w : World) (hs : s.size < 4294967281) (hm : w.cell? ⟨0, 0, none⟩ = some (.int .i64 m)) :
    Calls Tryz.prog 68 #[.string s, .string sep] w fun e w' => e = .returned (.tuple #[.string ⟨(Lib.cut s.data.toList sep.data.toList).1.toArray⟩, .string ⟨(Lib.cut s.data.toList sep.data.toList).2.1.toArray⟩, .bool (Lib.cut s.data.toList sep.data.toList).2.2]) ∧ ∃ n, w' = w.drewN n := Any.stringslite_Cut Tryz.lays220 s sep m w hs hm
def Tryz.lays145_ren : Go.Shelf.Ren := ⟨fun | 145 => 56 | 220 => 68 | 219 => 73 | 217 => 33 | 225 => 77 | 224 => 78 | 267 => 79 | 266 => 48 | 314 => 86 | n => n, fun | 9 => 9 | 4 => 4 | 59 => 67 | 3 => 3 | 5 => 5 | 46 => 86 | 146 => 93 | 51 => 92 | n => n, fun | 1 => 0 | n => n⟩
theorem Tryz.lays145 : Go.Proofs.Lays.n145 Tryz.prog Tryz.lays145_ren := {
  mixed := by kernel_rfl
  f145 := Tryz.func56.trans (congrArg some (by kernel_rfl))
  f217 := Tryz.func33.trans (congrArg some (by kernel_rfl))
  f219 := Tryz.func73.trans (congrArg some (by kernel_rfl))
  f220 := Tryz.func68.trans (congrArg some (by kernel_rfl))
  f224 := Tryz.func78.trans (congrArg some (by kernel_rfl))
  f225 := Tryz.func77.trans (congrArg some (by kernel_rfl))
  f266 := Tryz.func48.trans (congrArg some (by kernel_rfl))
  f267 := Tryz.func79.trans (congrArg some (by kernel_rfl))
  f314 := Tryz.func86.trans (congrArg some (by kernel_rfl))
  t3 := Tryz.underlying3
  a3 := Tryz.isAgg3
  z3 := Tryz.sizeOf3
  v3 := Tryz.zeroValue3
  t4 := Tryz.underlying4
  a4 := Tryz.isAgg4
  z4 := Tryz.sizeOf4
  v4 := Tryz.zeroValue4
  t5 := Tryz.underlying5
  a5 := Tryz.isAgg5
  z5 := Tryz.sizeOf5
  v5 := Tryz.zeroValue5
  t9 := Tryz.underlying9
  a9 := Tryz.isAgg9
  z9 := Tryz.sizeOf9
  v9 := Tryz.zeroValue9
  t46 := Tryz.underlying86
  a46 := Tryz.isAgg86
  z46 := Tryz.sizeOf86
  v46 := Tryz.zeroValue86
  t51 := Tryz.underlying92
  a51 := Tryz.isAgg92
  z51 := Tryz.sizeOf92
  v51 := Tryz.zeroValue92
  t59 := Tryz.underlying67
  a59 := Tryz.isAgg67
  z59 := Tryz.sizeOf67
  v59 := Tryz.zeroValue67
  t146 := Tryz.underlying93
  a146 := Tryz.isAgg93
  z146 := Tryz.sizeOf93
  v146 := Tryz.zeroValue93
  g1 := by kernel_rfl }
open Go.RowKit Go.Lib in
/-- strings.Cut: "Cut slices s around the first instance of sep, returning the text before and after sep. The found result reports whether sep appears in s. If sep does not appear in s, cut returns s, "", false.": IT RETURNS 'Lib.cut s sep'; the world is as it was but for the count of draws. (LAID: no walk: one application.) -/
theorem Tryz.strings_Cut (s sep : ByteArray) (m : Int) (w : World) (hs : s.size < 4294967281) (hm : w.cell? ⟨0, 0, none⟩ = some (.int .i64 m)) :
    Calls Tryz.prog 56 #[.string s, .string sep] w fun e w' => e = .returned (.tuple #[.string ⟨(Lib.cut s.data.toList sep.data.toList).1.toArray⟩, .string ⟨(Lib.cut s.data.toList sep.data.toList).2.1.toArray⟩, .bool (Lib.cut s.data.toList sep.data.toList).2.2]) ∧ ∃ n, w' = w.drewN n := Any.strings_Cut Tryz.lays145 s sep m w hs hm
def Tryz.laysM219_ren : Go.Shelf.Ren := ⟨fun | 219 => 73 | 217 => 33 | 225 => 77 | 224 => 78 | 267 => 79 | 266 => 48 | 314 => 86 | n => n, fun | 9 => 9 | 3 => 3 | 4 => 4 | 5 => 5 | 46 => 86 | 146 => 93 | 51 => 92 | n => n, fun | 1 => 0 | n => n⟩
theorem Tryz.laysM219 : Go.Proofs.LaysM.n219 Tryz.prog Tryz.laysM219_ren := {
  mixed := by kernel_rfl
  f217 := Tryz.func33.trans (congrArg some (by kernel_rfl))
  f219 := Tryz.func73.trans (congrArg some (by kernel_rfl))
  f224 := Tryz.func78.trans (congrArg some (by kernel_rfl))
  f225 := Tryz.func77.trans (congrArg some (by kernel_rfl))
  f266 := Tryz.func48.trans (congrArg some (by kernel_rfl))
  f267 := Tryz.func79.trans (congrArg some (by kernel_rfl))
  f314 := Tryz.func86.trans (congrArg some (by kernel_rfl))
  t3 := Tryz.underlying3
  a3 := Tryz.isAgg3
  z3 := Tryz.sizeOf3
  v3 := Tryz.zeroValue3
  t4 := Tryz.underlying4
  a4 := Tryz.isAgg4
  z4 := Tryz.sizeOf4
  v4 := Tryz.zeroValue4
  t5 := Tryz.underlying5
  a5 := Tryz.isAgg5
  z5 := Tryz.sizeOf5
  v5 := Tryz.zeroValue5
  t9 := Tryz.underlying9
  a9 := Tryz.isAgg9
  z9 := Tryz.sizeOf9
  v9 := Tryz.zeroValue9
  t46 := Tryz.underlying86
  a46 := Tryz.isAgg86
  z46 := Tryz.sizeOf86
  v46 := Tryz.zeroValue86
  t51 := Tryz.underlying92
  a51 := Tryz.isAgg92
  z51 := Tryz.sizeOf92
  v51 := Tryz.zeroValue92
  t146 := Tryz.underlying93
  a146 := Tryz.isAgg93
  z146 := Tryz.sizeOf93
  v146 := Tryz.zeroValue93
  g1 := by kernel_rfl
  i3 := by kernel_rfl
  i4 := by kernel_rfl
  i5 := by kernel_rfl
  i9 := by kernel_rfl
  i46 := by kernel_rfl
  i51 := by kernel_rfl
  i146 := by kernel_rfl
  m1 := by kernel_rfl
  s1_3 := fun w h => Go.Proofs.cell_of_shapedOpen_int (zero := #[.int .i64 0]) (t := 3) h (of_decide_eq_true (by kernel_rfl)) (by kernel_rfl) rfl (by kernel_rfl) (by kernel_rfl) Tryz.underlying3 }
open Go.RowKit Go.Lib in
theorem Tryz.stringslite_Index_shaped (s sub : ByteArray) (w : World) (h : w.ShapedOpen Tryz.prog) (hs : s.size < 4294967281) :
    Calls Tryz.prog 73 #[.string s, .string sub] w fun e w' => e = .returned (.int .i64 (Lib.index s.data.toList sub.data.toList)) ∧ w' = w := Any.stringslite_Index_shaped Tryz.laysM219 s sub w h hs
def Tryz.laysM220_ren : Go.Shelf.Ren := ⟨fun | 220 => 68 | 219 => 73 | 217 => 33 | 225 => 77 | 224 => 78 | 267 => 79 | 266 => 48 | 314 => 86 | n => n, fun | 9 => 9 | 4 => 4 | 3 => 3 | 5 => 5 | 46 => 86 | 146 => 93 | 51 => 92 | n => n, fun | 1 => 0 | n => n⟩
theorem Tryz.laysM220 : Go.Proofs.LaysM.n220 Tryz.prog Tryz.laysM220_ren := {
  mixed := by kernel_rfl
  f217 := Tryz.func33.trans (congrArg some (by kernel_rfl))
  f219 := Tryz.func73.trans (congrArg some (by kernel_rfl))
  f220 := Tryz.func68.trans (congrArg some (by kernel_rfl))
  f224 := Tryz.func78.trans (congrArg some (by kernel_rfl))
  f225 := Tryz.func77.trans (congrArg some (by kernel_rfl))
  f266 := Tryz.func48.trans (congrArg some (by kernel_rfl))
  f267 := Tryz.func79.trans (congrArg some (by kernel_rfl))
  f314 := Tryz.func86.trans (congrArg some (by kernel_rfl))
  t3 := Tryz.underlying3
  a3 := Tryz.isAgg3
  z3 := Tryz.sizeOf3
  v3 := Tryz.zeroValue3
  t4 := Tryz.underlying4
  a4 := Tryz.isAgg4
  z4 := Tryz.sizeOf4
  v4 := Tryz.zeroValue4
  t5 := Tryz.underlying5
  a5 := Tryz.isAgg5
  z5 := Tryz.sizeOf5
  v5 := Tryz.zeroValue5
  t9 := Tryz.underlying9
  a9 := Tryz.isAgg9
  z9 := Tryz.sizeOf9
  v9 := Tryz.zeroValue9
  t46 := Tryz.underlying86
  a46 := Tryz.isAgg86
  z46 := Tryz.sizeOf86
  v46 := Tryz.zeroValue86
  t51 := Tryz.underlying92
  a51 := Tryz.isAgg92
  z51 := Tryz.sizeOf92
  v51 := Tryz.zeroValue92
  t146 := Tryz.underlying93
  a146 := Tryz.isAgg93
  z146 := Tryz.sizeOf93
  v146 := Tryz.zeroValue93
  g1 := by kernel_rfl
  i3 := by kernel_rfl
  i4 := by kernel_rfl
  i5 := by kernel_rfl
  i9 := by kernel_rfl
  i46 := by kernel_rfl
  i51 := by kernel_rfl
  i146 := by kernel_rfl
  m1 := by kernel_rfl
  s1_3 := fun w h => Go.Proofs.cell_of_shapedOpen_int (zero := #[.int .i64 0]) (t := 3) h (of_decide_eq_true (by kernel_rfl)) (by kernel_rfl) rfl (by kernel_rfl) (by kernel_rfl) Tryz.underlying3 }
open Go.RowKit Go.Lib in
theorem Tryz.stringslite_Cut_shaped (s sep : ByteArray) (w : World) (h : w.ShapedOpen Tryz.prog) (hs : s.size < 4294967281) :
    Calls Tryz.prog 68 #[.string s, .string sep] w fun e w' => e = .returned (.tuple #[.string ⟨(Lib.cut s.data.toList sep.data.toList).1.toArray⟩, .string ⟨(Lib.cut s.data.toList sep.data.toList).2.1.toArray⟩, .bool (Lib.cut s.data.toList sep.data.toList).2.2]) ∧ ∃ n, w' = w.drewN n := Any.stringslite_Cut_shaped Tryz.laysM220 s sep w h hs
def Tryz.laysM145_ren : Go.Shelf.Ren := ⟨fun | 145 => 56 | 220 => 68 | 219 => 73 | 217 => 33 | 225 => 77 | 224 => 78 | 267 => 79 | 266 => 48 | 314 => 86 | n => n, fun | 9 => 9 | 4 => 4 | 59 => 67 | 3 => 3 | 5 => 5 | 46 => 86 | 146 => 93 | 51 => 92 | n => n, fun | 1 => 0 | n => n⟩
theorem Tryz.laysM145 : Go.Proofs.LaysM.n145 Tryz.prog Tryz.laysM145_ren := {
  mixed := by kernel_rfl
  f145 := Tryz.func56.trans (congrArg some (by kernel_rfl))
  f217 := Tryz.func33.trans (congrArg some (by kernel_rfl))
  f219 := Tryz.func73.trans (congrArg some (by kernel_rfl))
  f220 := Tryz.func68.trans (congrArg some (by kernel_rfl))
  f224 := Tryz.func78.trans (congrArg some (by kernel_rfl))
  f225 := Tryz.func77.trans (congrArg some (by kernel_rfl))
  f266 := Tryz.func48.trans (congrArg some (by kernel_rfl))
  f267 := Tryz.func79.trans (congrArg some (by kernel_rfl))
  f314 := Tryz.func86.trans (congrArg some (by kernel_rfl))
  t3 := Tryz.underlying3
  a3 := Tryz.isAgg3
  z3 := Tryz.sizeOf3
  v3 := Tryz.zeroValue3
  t4 := Tryz.underlying4
  a4 := Tryz.isAgg4
  z4 := Tryz.sizeOf4
  v4 := Tryz.zeroValue4
  t5 := Tryz.underlying5
  a5 := Tryz.isAgg5
  z5 := Tryz.sizeOf5
  v5 := Tryz.zeroValue5
  t9 := Tryz.underlying9
  a9 := Tryz.isAgg9
  z9 := Tryz.sizeOf9
  v9 := Tryz.zeroValue9
  t46 := Tryz.underlying86
  a46 := Tryz.isAgg86
  z46 := Tryz.sizeOf86
  v46 := Tryz.zeroValue86
  t51 := Tryz.underlying92
  a51 := Tryz.isAgg92
  z51 := Tryz.sizeOf92
  v51 := Tryz.zeroValue92
  t59 := Tryz.underlying67
  a59 := Tryz.isAgg67
  z59 := Tryz.sizeOf67
  v59 := Tryz.zeroValue67
  t146 := Tryz.underlying93
  a146 := Tryz.isAgg93
  z146 := Tryz.sizeOf93
  v146 := Tryz.zeroValue93
  g1 := by kernel_rfl
  i3 := by kernel_rfl
  i4 := by kernel_rfl
  i5 := by kernel_rfl
  i9 := by kernel_rfl
  i46 := by kernel_rfl
  i51 := by kernel_rfl
  i59 := by kernel_rfl
  i146 := by kernel_rfl
  m1 := by kernel_rfl
  s1_3 := fun w h => Go.Proofs.cell_of_shapedOpen_int (zero := #[.int .i64 0]) (t := 3) h (of_decide_eq_true (by kernel_rfl)) (by kernel_rfl) rfl (by kernel_rfl) (by kernel_rfl) Tryz.underlying3 }
open Go.RowKit Go.Lib in
theorem Tryz.strings_Cut_shaped (s sep : ByteArray) (w : World) (h : w.ShapedOpen Tryz.prog) (hs : s.size < 4294967281) :
    Calls Tryz.prog 56 #[.string s, .string sep] w fun e w' => e = .returned (.tuple #[.string ⟨(Lib.cut s.data.toList sep.data.toList).1.toArray⟩, .string ⟨(Lib.cut s.data.toList sep.data.toList).2.1.toArray⟩, .bool (Lib.cut s.data.toList sep.data.toList).2.2]) ∧ ∃ n, w' = w.drewN n := Any.strings_Cut_shaped Tryz.laysM145 s sep w h hs
def Tryz.lays222_ren : Go.Shelf.Ren := ⟨fun | 222 => 76 | n => n, fun | 9 => 9 | 5 => 5 | 3 => 3 | 4 => 4 | n => n, fun | n => n⟩
theorem Tryz.lays222 : Go.Proofs.Lays.n222 Tryz.prog Tryz.lays222_ren := {
  mixed := by kernel_rfl
  f222 := Tryz.func76.trans (congrArg some (by kernel_rfl))
  t3 := Tryz.underlying3
  a3 := Tryz.isAgg3
  z3 := Tryz.sizeOf3
  v3 := Tryz.zeroValue3
  t4 := Tryz.underlying4
  a4 := Tryz.isAgg4
  z4 := Tryz.sizeOf4
  v4 := Tryz.zeroValue4
  t5 := Tryz.underlying5
  a5 := Tryz.isAgg5
  z5 := Tryz.sizeOf5
  v5 := Tryz.zeroValue5
  t9 := Tryz.underlying9
  a9 := Tryz.isAgg9
  z9 := Tryz.sizeOf9
  v9 := Tryz.zeroValue9 }
open Go.RowKit Go.Lib in
/-- internal/bytealg.LastIndexByteString: 'for i := len(s) - 1; i >= 0; i-- { if s[i] == c { return i } }; return -1'. (LAID: no walk: one application.) -/
theorem Tryz.bytealg_LastIndexByteString_nm (s : ByteArray) (c : Int) (hs : s.size < 4611686018427387904) (w : World) :
    Calls Tryz.prog 76 #[.string s, .int .u8 c] w fun e w' => e = .returned (.int .i64 (Lib.lastIndexByte s c)) ∧ w' = w := Any.bytealg_LastIndexByteString_nm Tryz.lays222 s c hs w
def Tryz.lays149_ren : Go.Shelf.Ren := ⟨fun | 149 => 72 | 222 => 76 | n => n, fun | 9 => 9 | 5 => 5 | 3 => 3 | 4 => 4 | n => n, fun | n => n⟩
theorem Tryz.lays149 : Go.Proofs.Lays.n149 Tryz.prog Tryz.lays149_ren := {
  mixed := by kernel_rfl
  f149 := Tryz.func72.trans (congrArg some (by kernel_rfl))
  f222 := Tryz.func76.trans (congrArg some (by kernel_rfl))
  t3 := Tryz.underlying3
  a3 := Tryz.isAgg3
  z3 := Tryz.sizeOf3
  v3 := Tryz.zeroValue3
  t4 := Tryz.underlying4
  a4 := Tryz.isAgg4
  z4 := Tryz.sizeOf4
  v4 := Tryz.zeroValue4
  t5 := Tryz.underlying5
  a5 := Tryz.isAgg5
  z5 := Tryz.sizeOf5
  v5 := Tryz.zeroValue5
  t9 := Tryz.underlying9
  a9 := Tryz.isAgg9
  z9 := Tryz.sizeOf9
  v9 := Tryz.zeroValue9 }
open Go.RowKit Go.Lib in
/-- strings.LastIndexByte: "LastIndexByte returns the index of the last instance of c in s, or -1 if c is not present in s." (LAID: no walk: one application.) -/
theorem Tryz.strings_LastIndexByte (s : ByteArray) (c : Int) (hs : s.size < 4611686018427387904) (w : World) :
    Calls Tryz.prog 72 #[.string s, .int .u8 c] w fun e w' => e = .returned (.int .i64 (Lib.lastIndexByte s c)) ∧ w' = w := Any.strings_LastIndexByte Tryz.lays149 s c hs w
def Tryz.lays207_ren : Go.Shelf.Ren := ⟨fun | 207 => 70 | n => n, fun | 9 => 9 | 4 => 4 | 3 => 3 | n => n, fun | n => n⟩
theorem Tryz.lays207 : Go.Proofs.Lays.n207 Tryz.prog Tryz.lays207_ren := {
  mixed := by kernel_rfl
  f207 := Tryz.func70.trans (congrArg some (by kernel_rfl))
  t3 := Tryz.underlying3
  a3 := Tryz.isAgg3
  z3 := Tryz.sizeOf3
  v3 := Tryz.zeroValue3
  t4 := Tryz.underlying4
  a4 := Tryz.isAgg4
  z4 := Tryz.sizeOf4
  v4 := Tryz.zeroValue4
  t9 := Tryz.underlying9
  a9 := Tryz.isAgg9
  z9 := Tryz.sizeOf9
  v9 := Tryz.zeroValue9 }
open Go.RowKit Go.Lib in
/-- internal/stringslite.HasSuffix (what strings.HasSuffix calls). (LAID: no walk: one application.) -/
theorem Tryz.stringslite_HasSuffix (s p : ByteArray) (w : World) (hs : s.size ≤ 9223372036854775807) :
    Calls Tryz.prog 70 #[.string s, .string p] w fun e w' => e = .returned (.bool (Lib.hasSuffix s.data.toList p.data.toList)) ∧ w' = w := Any.stringslite_HasSuffix Tryz.lays207 s p w hs
def Tryz.lays100_ren : Go.Shelf.Ren := ⟨fun | 100 => 58 | 207 => 70 | n => n, fun | 9 => 9 | 4 => 4 | 3 => 3 | n => n, fun | n => n⟩
theorem Tryz.lays100 : Go.Proofs.Lays.n100 Tryz.prog Tryz.lays100_ren := {
  mixed := by kernel_rfl
  f100 := Tryz.func58.trans (congrArg some (by kernel_rfl))
  f207 := Tryz.func70.trans (congrArg some (by kernel_rfl))
  t3 := Tryz.underlying3
  a3 := Tryz.isAgg3
  z3 := Tryz.sizeOf3
  v3 := Tryz.zeroValue3
  t4 := Tryz.underlying4
  a4 := Tryz.isAgg4
  z4 := Tryz.sizeOf4
  v4 := Tryz.zeroValue4
  t9 := Tryz.underlying9
  a9 := Tryz.isAgg9
  z9 := Tryz.sizeOf9
  v9 := Tryz.zeroValue9 }
open Go.RowKit Go.Lib in
/-- strings.HasSuffix: "HasSuffix reports whether the string s ends with suffix.": IT RETURNS 'Lib.hasSuffix s suffix'; the world is as it was. ('hs': no Go string is longer: a caller has it of every string that it was handed.) (LAID: no walk: one application.) -/
theorem Tryz.strings_HasSuffix (s p : ByteArray) (w : World) (hs : s.size ≤ 9223372036854775807) :
    Calls Tryz.prog 58 #[.string s, .string p] w fun e w' => e = .returned (.bool (Lib.hasSuffix s.data.toList p.data.toList)) ∧ w' = w := Any.strings_HasSuffix Tryz.lays100 s p w hs
end Go.Proofs
