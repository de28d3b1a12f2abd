/-
  DERIVED: THE SHELF's CONTRACTS AT THIS DUMP, IN PLAIN WORDS (tools/lay-plain.mjs out of 'TrydShelf.lean', which tools/lay-shelf.mjs wrote): THE SAME DECLARATIONS UNDER THE SAME NAMES: 'import', 'namespace', 'open', 'def', 'theorem' AND NOTHING ELSE: no command of the shelf's: FOR A HAND-IN. Each laying: the table of numbers ('.._ren') and one theorem, a field a fact of the dump's own or the kernel's comparison; each contract: ONE APPLICATION.
-/
import Derived.Shelf.Strings.Builder1
import Derived.Shelf.Strings.Builder2
import Derived.Shelf.Small.Strs
import Derived.Shelf.LaysM
import Derived.Shelf.Strconv.Clone
import Derived.Shelf.Strconv.SyntaxError
import Derived.Shelf.LaysC
import Derived.Shelf.Strconv.ToError
import Derived.Shelf.Strconv.Lower
import Derived.Shelf.Strconv.ParseUintEmpty
import Derived.Shelf.Strings.Search1
import Derived.Shelf.Strings.Search2
import Derived.Shelf.Strings.Search3
import Derived.Shelf.Strings.Cut
import Derived.Shelf.Strings.Count
import Derived.Shelf.Strings.Shaped
import Derived.Shelf.Strings.LastIndex
import Derived.Shelf.Strings.Prefix
import Derived.Shelf.Strings.Split
import Derived.Shelf.Strings.Replace
import Derived.Shelf.Unicode.DecodeSlow
import Derived.Test.YtodommehhcfccaaDoorProg
namespace Go.Proofs
open Go.Shelf
def Tryd.lays169_ren : Go.Shelf.Ren := ⟨fun | 169 => 40 | n => n, fun | 70 => 66 | 9 => 9 | 0 => 0 | 72 => 68 | 37 => 29 | 127 => 80 | 3 => 3 | 5 => 5 | n => n, fun | n => n⟩
theorem Tryd.lays169 : Go.Proofs.Lays.n169 Tryd.prog Tryd.lays169_ren := {
  mixed := by kernel_rfl
  f169 := Tryd.func40.trans (congrArg some (by kernel_rfl))
  t0 := Tryd.underlying0
  a0 := Tryd.isAgg0
  z0 := Tryd.sizeOf0
  v0 := Tryd.zeroValue0
  t3 := Tryd.underlying3
  a3 := Tryd.isAgg3
  z3 := Tryd.sizeOf3
  v3 := Tryd.zeroValue3
  t9 := Tryd.underlying9
  a9 := Tryd.isAgg9
  z9 := Tryd.sizeOf9
  v9 := Tryd.zeroValue9
  t37 := Tryd.underlying29
  a37 := Tryd.isAgg29
  z37 := Tryd.sizeOf29
  v37 := Tryd.zeroValue29
  t70 := Tryd.underlying66
  a70 := Tryd.isAgg66
  z70 := Tryd.sizeOf66
  v70 := Tryd.zeroValue66
  t72 := Tryd.underlying68
  a72 := Tryd.isAgg68
  z72 := Tryd.sizeOf68
  v72 := Tryd.zeroValue68
  t127 := Tryd.underlying80
  a127 := Tryd.isAgg80
  z127 := Tryd.sizeOf80
  v127 := Tryd.zeroValue80 }
theorem Tryd.Builder_Extra_169 : Builder.Extra Tryd.prog Tryd.lays169_ren := {
  sizeBuilder := by kernel_rfl
  liesBuilder := by kernel_rfl
  t5 := Tryd.underlying5
  a5 := Tryd.isAgg5
  z5 := Tryd.sizeOf5
  v5 := Tryd.zeroValue5
  infoByte := by kernel_rfl
  cellsByte := by kernel_rfl
  sizeByte := by kernel_rfl
  neB5 := by decide }
open Go.RowKit in
/-- (*strings.Builder).String: "String returns the accumulated string.": WHATEVER THE BUILDER HOLDS. (LAID: no walk: one application.) -/
theorem Tryd.Builder_String_any (B b : Nat) (l : List UInt8) (w : World) (h : Lib.IsBuilder 68 5 B b (Lib.byteCells l) w) (hBw : B ≤ w.heap.size) :
    Calls Tryd.prog 40 #[.pointer (some ⟨b, 0, none⟩)] w fun e w' => e = .returned (.string ⟨l.toArray⟩) ∧ Below B w w' := Any.Builder_String_any Tryd.lays169 Tryd.Builder_Extra_169 B b l w h hBw
def Tryd.lays137_ren : Go.Shelf.Ren := ⟨fun | 137 => 37 | 217 => 45 | 266 => 58 | n => n, fun | 9 => 9 | 5 => 5 | 3 => 3 | n => n, fun | n => n⟩
theorem Tryd.lays137 : Go.Proofs.Lays.n137 Tryd.prog Tryd.lays137_ren := {
  mixed := by kernel_rfl
  f137 := Tryd.func37.trans (congrArg some (by kernel_rfl))
  f217 := Tryd.func45.trans (congrArg some (by kernel_rfl))
  f266 := Tryd.func58.trans (congrArg some (by kernel_rfl))
  t3 := Tryd.underlying3
  a3 := Tryd.isAgg3
  z3 := Tryd.sizeOf3
  v3 := Tryd.zeroValue3
  t5 := Tryd.underlying5
  a5 := Tryd.isAgg5
  z5 := Tryd.sizeOf5
  v5 := Tryd.zeroValue5
  t9 := Tryd.underlying9
  a9 := Tryd.isAgg9
  z9 := Tryd.sizeOf9
  v9 := Tryd.zeroValue9 }
open Go.RowKit in
/-- strings.IndexByte: "IndexByte returns the index of the first instance of c in s, or -1 if c is not present in s.": IT RETURNS 'Lib.indexByte s c'; the world is as it was. (LAID: no walk: one application.) -/
theorem Tryd.strings_IndexByte (s : ByteArray) (c : Int) (w : World) :
    Calls Tryd.prog 37 #[.string s, .int .u8 c] w fun e w' => e = .returned (.int .i64 (Lib.indexByte s.data.toList c.toNat.toUInt8)) ∧ w' = w := Any.strings_IndexByte Tryd.lays137 s c w
def Tryd.laysC245_ren : Go.Shelf.Ren := ⟨fun | 245 => 84 | 279 => 89 | 280 => 90 | 281 => 91 | 282 => 92 | 316 => 93 | 171 => 95 | 205 => 94 | 243 => 96 | 246 => 97 | 283 => 98 | 284 => 99 | 285 => 100 | 286 => 101 | 129 => 103 | 317 => 102 | 318 => 104 | 319 => 105 | 320 => 106 | 337 => 107 | 338 => 108 | n => n, fun | 9 => 9 | 3 => 3 | 75 => 70 | 167 => 119 | 4 => 4 | 168 => 121 | 210 => 125 | 37 => 29 | 0 => 0 | 127 => 80 | 145 => 129 | 143 => 127 | 2 => 2 | 171 => 131 | 53 => 106 | 5 => 5 | 173 => 134 | 212 => 137 | 51 => 34 | 20 => 20 | 213 => 138 | 46 => 111 | 232 => 141 | 233 => 142 | 80 => 73 | n => n, fun | 15 => 3 | 16 => 4 | 17 => 5 | 18 => 6 | 19 => 7 | n => n⟩
theorem Tryd.laysC245 : Go.Proofs.LaysC.n245 Tryd.prog Tryd.laysC245_ren := {
  mixed := by kernel_rfl
  f129 := Tryd.func103.trans (congrArg some (by kernel_rfl))
  f171 := Tryd.func95.trans (congrArg some (by kernel_rfl))
  f205 := Tryd.func94.trans (congrArg some (by kernel_rfl))
  f243 := Tryd.func96.trans (congrArg some (by kernel_rfl))
  f245 := Tryd.func84.trans (congrArg some (by kernel_rfl))
  f246 := Tryd.func97.trans (congrArg some (by kernel_rfl))
  f279 := Tryd.func89.trans (congrArg some (by kernel_rfl))
  f280 := Tryd.func90.trans (congrArg some (by kernel_rfl))
  f281 := Tryd.func91.trans (congrArg some (by kernel_rfl))
  f282 := Tryd.func92.trans (congrArg some (by kernel_rfl))
  f283 := Tryd.func98.trans (congrArg some (by kernel_rfl))
  f284 := Tryd.func99.trans (congrArg some (by kernel_rfl))
  f285 := Tryd.func100.trans (congrArg some (by kernel_rfl))
  f286 := Tryd.func101.trans (congrArg some (by kernel_rfl))
  f316 := Tryd.func93.trans (congrArg some (by kernel_rfl))
  f317 := Tryd.func102.trans (congrArg some (by kernel_rfl))
  f318 := Tryd.func104.trans (congrArg some (by kernel_rfl))
  f319 := Tryd.func105.trans (congrArg some (by kernel_rfl))
  f320 := Tryd.func106.trans (congrArg some (by kernel_rfl))
  f337 := Tryd.func107.trans (congrArg some (by kernel_rfl))
  f338 := Tryd.func108.trans (congrArg some (by kernel_rfl))
  t0 := Tryd.underlying0
  a0 := Tryd.isAgg0
  z0 := Tryd.sizeOf0
  v0 := Tryd.zeroValue0
  t2 := Tryd.underlying2
  a2 := Tryd.isAgg2
  z2 := Tryd.sizeOf2
  v2 := Tryd.zeroValue2
  t3 := Tryd.underlying3
  a3 := Tryd.isAgg3
  z3 := Tryd.sizeOf3
  v3 := Tryd.zeroValue3
  t4 := Tryd.underlying4
  a4 := Tryd.isAgg4
  z4 := Tryd.sizeOf4
  v4 := Tryd.zeroValue4
  t5 := Tryd.underlying5
  a5 := Tryd.isAgg5
  z5 := Tryd.sizeOf5
  v5 := Tryd.zeroValue5
  t9 := Tryd.underlying9
  a9 := Tryd.isAgg9
  z9 := Tryd.sizeOf9
  v9 := Tryd.zeroValue9
  t20 := Tryd.underlying20
  a20 := Tryd.isAgg20
  z20 := Tryd.sizeOf20
  v20 := Tryd.zeroValue20
  t37 := Tryd.underlying29
  a37 := Tryd.isAgg29
  z37 := Tryd.sizeOf29
  v37 := Tryd.zeroValue29
  t46 := Tryd.underlying111
  a46 := Tryd.isAgg111
  z46 := Tryd.sizeOf111
  v46 := Tryd.zeroValue111
  t51 := Tryd.underlying34
  a51 := Tryd.isAgg34
  z51 := Tryd.sizeOf34
  v51 := Tryd.zeroValue34
  t53 := Tryd.underlying106
  a53 := Tryd.isAgg106
  z53 := Tryd.sizeOf106
  v53 := Tryd.zeroValue106
  t75 := Tryd.underlying70
  a75 := Tryd.isAgg70
  z75 := Tryd.sizeOf70
  v75 := Tryd.zeroValue70
  t127 := Tryd.underlying80
  a127 := Tryd.isAgg80
  z127 := Tryd.sizeOf80
  v127 := Tryd.zeroValue80
  t143 := Tryd.underlying127
  a143 := Tryd.isAgg127
  z143 := Tryd.sizeOf127
  v143 := Tryd.zeroValue127
  t145 := Tryd.underlying129
  a145 := Tryd.isAgg129
  z145 := Tryd.sizeOf129
  v145 := Tryd.zeroValue129
  t167 := Tryd.underlying119
  a167 := Tryd.isAgg119
  z167 := Tryd.sizeOf119
  v167 := Tryd.zeroValue119
  t168 := Tryd.underlying121
  a168 := Tryd.isAgg121
  z168 := Tryd.sizeOf121
  v168 := Tryd.zeroValue121
  t171 := Tryd.underlying131
  a171 := Tryd.isAgg131
  z171 := Tryd.sizeOf131
  v171 := Tryd.zeroValue131
  t173 := Tryd.underlying134
  a173 := Tryd.isAgg134
  z173 := Tryd.sizeOf134
  v173 := Tryd.zeroValue134
  t210 := Tryd.underlying125
  a210 := Tryd.isAgg125
  z210 := Tryd.sizeOf125
  v210 := Tryd.zeroValue125
  t212 := Tryd.underlying137
  a212 := Tryd.isAgg137
  z212 := Tryd.sizeOf137
  v212 := Tryd.zeroValue137
  t213 := Tryd.underlying138
  a213 := Tryd.isAgg138
  z213 := Tryd.sizeOf138
  t232 := Tryd.underlying141
  a232 := Tryd.isAgg141
  z232 := Tryd.sizeOf141
  v232 := Tryd.zeroValue141
  t233 := Tryd.underlying142
  a233 := Tryd.isAgg142
  z233 := Tryd.sizeOf142
  v233 := Tryd.zeroValue142
  g15 := by kernel_rfl
  g16 := by kernel_rfl
  g17 := by kernel_rfl
  g18 := by kernel_rfl
  g19 := by kernel_rfl
  t80 := Tryd.underlying73
  a80 := Tryd.isAgg73
  z80 := Tryd.sizeOf73
  v80 := Tryd.zeroValue73
  i0 := by kernel_rfl
  i2 := by kernel_rfl
  i3 := by kernel_rfl
  i4 := by kernel_rfl
  i5 := by kernel_rfl
  i9 := by kernel_rfl
  i20 := by kernel_rfl
  i37 := by kernel_rfl
  i46 := by kernel_rfl
  i51 := by kernel_rfl
  i53 := by kernel_rfl
  i75 := by kernel_rfl
  i80 := by kernel_rfl
  i127 := by kernel_rfl
  i143 := by kernel_rfl
  i145 := by kernel_rfl
  i167 := by kernel_rfl
  i168 := by kernel_rfl
  i171 := by kernel_rfl
  i173 := by kernel_rfl
  i210 := by kernel_rfl
  i212 := by kernel_rfl
  i232 := by kernel_rfl
  i233 := by kernel_rfl
  m15 := by kernel_rfl
  m16 := by kernel_rfl
  m17 := by kernel_rfl
  m18 := by kernel_rfl
  m19 := by kernel_rfl
  c0 := by kernel_rfl
  c2 := by kernel_rfl
  c3 := by kernel_rfl
  c4 := by kernel_rfl
  c5 := by kernel_rfl
  c9 := by kernel_rfl
  c20 := by kernel_rfl
  c37 := by kernel_rfl
  c46 := by kernel_rfl
  c51 := by kernel_rfl
  c53 := by kernel_rfl
  c75 := by kernel_rfl
  c80 := by kernel_rfl
  c127 := by kernel_rfl
  c143 := by kernel_rfl
  c145 := by kernel_rfl
  c167 := by kernel_rfl
  c168 := by kernel_rfl
  c171 := by kernel_rfl
  c173 := by kernel_rfl
  c210 := by kernel_rfl
  c212 := by kernel_rfl
  c213 := by kernel_rfl
  c232 := by kernel_rfl
  c233 := by kernel_rfl }
open Go.RowKit in
/-- strconv.toError, at the inner package's ErrSyntax: 'syntaxError(fn, s)' as an error: A *NumError IN A NEW BLOCK. (LAID: no walk: one application.) -/
theorem Tryd.strconv_toError_syntax (fn s : ByteArray) (base bits : Int) (ev : Value) (w : World) (hlim : s.size ≤ 281474976710656) (hv : w.cell? ⟨3, 0, none⟩ = some ev) (hev : ev = .nilIface ∨ ∃ te pe, ev = .iface te pe) :
    Calls Tryd.prog 84 #[.string fn, .string s, .int .i64 base, .int .i64 bits, .iface 119 (.int .i64 2)] w fun e w' => ∃ N, e = .returned (.iface 121 (.pointer (some ⟨N, 0, none⟩))) ∧ w.heap.size ≤ N ∧ w'.heap[N]? = some (.cells #[.string fn, .string s, ev] 125 (0, 0)) ∧ Below w.heap.size w w' := Any.strconv_toError_syntax Tryd.laysC245 fn s base bits ev w hlim hv hev
def Tryd.lays321_ren : Go.Shelf.Ren := ⟨fun | 321 => 87 | n => n, fun | 5 => 5 | n => n, fun | n => n⟩
theorem Tryd.lays321 : Go.Proofs.Lays.n321 Tryd.prog Tryd.lays321_ren := {
  mixed := by kernel_rfl
  f321 := Tryd.func87.trans (congrArg some (by kernel_rfl))
  t5 := Tryd.underlying5
  a5 := Tryd.isAgg5
  z5 := Tryd.sizeOf5
  v5 := Tryd.zeroValue5 }
open Go.RowKit in
/-- internal/strconv.lower: 'c | ('x' - 'X')': the bit 32 set. The world is as it was. (LAID: no walk: one application.) -/
theorem Tryd.internal_strconv_lower (c : Int) (w : World) :
    Calls Tryd.prog 87 #[.int .u8 c] w fun e w' => e = .returned (.int .u8 (bits .or .u8 c 32)) ∧ w' = w := Any.internal_strconv_lower Tryd.lays321 c w
def Tryd.lays287_ren : Go.Shelf.Ren := ⟨fun | 287 => 83 | 321 => 87 | 322 => 88 | n => n, fun | 9 => 9 | 3 => 3 | 53 => 106 | 75 => 70 | 4 => 4 | 167 => 119 | 5 => 5 | 46 => 111 | 37 => 29 | 0 => 0 | 21 => 21 | 80 => 73 | n => n, fun | n => n⟩
theorem Tryd.lays287 : Go.Proofs.Lays.n287 Tryd.prog Tryd.lays287_ren := {
  mixed := by kernel_rfl
  f287 := Tryd.func83.trans (congrArg some (by kernel_rfl))
  f321 := Tryd.func87.trans (congrArg some (by kernel_rfl))
  f322 := Tryd.func88.trans (congrArg some (by kernel_rfl))
  t0 := Tryd.underlying0
  a0 := Tryd.isAgg0
  z0 := Tryd.sizeOf0
  v0 := Tryd.zeroValue0
  t3 := Tryd.underlying3
  a3 := Tryd.isAgg3
  z3 := Tryd.sizeOf3
  v3 := Tryd.zeroValue3
  t4 := Tryd.underlying4
  a4 := Tryd.isAgg4
  z4 := Tryd.sizeOf4
  v4 := Tryd.zeroValue4
  t5 := Tryd.underlying5
  a5 := Tryd.isAgg5
  z5 := Tryd.sizeOf5
  v5 := Tryd.zeroValue5
  t9 := Tryd.underlying9
  a9 := Tryd.isAgg9
  z9 := Tryd.sizeOf9
  v9 := Tryd.zeroValue9
  t21 := Tryd.underlying21
  a21 := Tryd.isAgg21
  z21 := Tryd.sizeOf21
  v21 := Tryd.zeroValue21
  t37 := Tryd.underlying29
  a37 := Tryd.isAgg29
  z37 := Tryd.sizeOf29
  v37 := Tryd.zeroValue29
  t46 := Tryd.underlying111
  a46 := Tryd.isAgg111
  z46 := Tryd.sizeOf111
  v46 := Tryd.zeroValue111
  t53 := Tryd.underlying106
  a53 := Tryd.isAgg106
  z53 := Tryd.sizeOf106
  v53 := Tryd.zeroValue106
  t75 := Tryd.underlying70
  a75 := Tryd.isAgg70
  z75 := Tryd.sizeOf70
  v75 := Tryd.zeroValue70
  t167 := Tryd.underlying119
  a167 := Tryd.isAgg119
  z167 := Tryd.sizeOf119
  v167 := Tryd.zeroValue119 }
open Go.RowKit in
/-- internal/strconv.ParseUint("", base, bitSize): (0, ErrSyntax): the first test of the text. The world is as it was. (LAID: no walk: one application.) -/
theorem Tryd.internal_strconv_ParseUint_empty (base bits : Int) (w : World) :
    Calls Tryd.prog 83 #[.string ⟨#[]⟩, .int .i64 base, .int .i64 bits] w fun e w' => e = .returned (.tuple #[.int .u64 0, .iface 119 (.int .i64 2)]) ∧ w' = w := Any.internal_strconv_ParseUint_empty Tryd.lays287 base bits w
def Tryd.lays219_ren : Go.Shelf.Ren := ⟨fun | 219 => 72 | 217 => 45 | 225 => 79 | 224 => 80 | 267 => 81 | 266 => 58 | 314 => 85 | n => n, fun | 9 => 9 | 3 => 3 | 4 => 4 | 5 => 5 | 46 => 111 | 146 => 117 | 51 => 34 | n => n, fun | 1 => 0 | n => n⟩
theorem Tryd.lays219 : Go.Proofs.Lays.n219 Tryd.prog Tryd.lays219_ren := {
  mixed := by kernel_rfl
  f217 := Tryd.func45.trans (congrArg some (by kernel_rfl))
  f219 := Tryd.func72.trans (congrArg some (by kernel_rfl))
  f224 := Tryd.func80.trans (congrArg some (by kernel_rfl))
  f225 := Tryd.func79.trans (congrArg some (by kernel_rfl))
  f266 := Tryd.func58.trans (congrArg some (by kernel_rfl))
  f267 := Tryd.func81.trans (congrArg some (by kernel_rfl))
  f314 := Tryd.func85.trans (congrArg some (by kernel_rfl))
  t3 := Tryd.underlying3
  a3 := Tryd.isAgg3
  z3 := Tryd.sizeOf3
  v3 := Tryd.zeroValue3
  t4 := Tryd.underlying4
  a4 := Tryd.isAgg4
  z4 := Tryd.sizeOf4
  v4 := Tryd.zeroValue4
  t5 := Tryd.underlying5
  a5 := Tryd.isAgg5
  z5 := Tryd.sizeOf5
  v5 := Tryd.zeroValue5
  t9 := Tryd.underlying9
  a9 := Tryd.isAgg9
  z9 := Tryd.sizeOf9
  v9 := Tryd.zeroValue9
  t46 := Tryd.underlying111
  a46 := Tryd.isAgg111
  z46 := Tryd.sizeOf111
  v46 := Tryd.zeroValue111
  t51 := Tryd.underlying34
  a51 := Tryd.isAgg34
  z51 := Tryd.sizeOf34
  v51 := Tryd.zeroValue34
  t146 := Tryd.underlying117
  a146 := Tryd.isAgg117
  z146 := Tryd.sizeOf117
  v146 := Tryd.zeroValue117
  g1 := by kernel_rfl }
open Go.RowKit Go.Lib in
/-- internal/stringslite.Index (what strings.Index calls) AT A substr OF ONE BYTE c: IT RETURNS 'Lib.indexByte s c'; the world is as it was. (LAID: no walk: one application.) -/
theorem Tryd.stringslite_Index_one (s : ByteArray) (c : UInt8) (w : World) :
    Calls Tryd.prog 72 #[.string s, .string ⟨#[c]⟩] w fun e w' => e = .returned (.int .i64 (Lib.indexByte s.data.toList c)) ∧ w' = w := Any.stringslite_Index_one Tryd.lays219 s c w
def Tryd.lays143_ren : Go.Shelf.Ren := ⟨fun | 143 => 56 | 219 => 72 | 217 => 45 | 225 => 79 | 224 => 80 | 267 => 81 | 266 => 58 | 314 => 85 | n => n, fun | 9 => 9 | 3 => 3 | 4 => 4 | 5 => 5 | 46 => 111 | 146 => 117 | 51 => 34 | n => n, fun | 1 => 0 | n => n⟩
theorem Tryd.lays143 : Go.Proofs.Lays.n143 Tryd.prog Tryd.lays143_ren := {
  mixed := by kernel_rfl
  f143 := Tryd.func56.trans (congrArg some (by kernel_rfl))
  f217 := Tryd.func45.trans (congrArg some (by kernel_rfl))
  f219 := Tryd.func72.trans (congrArg some (by kernel_rfl))
  f224 := Tryd.func80.trans (congrArg some (by kernel_rfl))
  f225 := Tryd.func79.trans (congrArg some (by kernel_rfl))
  f266 := Tryd.func58.trans (congrArg some (by kernel_rfl))
  f267 := Tryd.func81.trans (congrArg some (by kernel_rfl))
  f314 := Tryd.func85.trans (congrArg some (by kernel_rfl))
  t3 := Tryd.underlying3
  a3 := Tryd.isAgg3
  z3 := Tryd.sizeOf3
  v3 := Tryd.zeroValue3
  t4 := Tryd.underlying4
  a4 := Tryd.isAgg4
  z4 := Tryd.sizeOf4
  v4 := Tryd.zeroValue4
  t5 := Tryd.underlying5
  a5 := Tryd.isAgg5
  z5 := Tryd.sizeOf5
  v5 := Tryd.zeroValue5
  t9 := Tryd.underlying9
  a9 := Tryd.isAgg9
  z9 := Tryd.sizeOf9
  v9 := Tryd.zeroValue9
  t46 := Tryd.underlying111
  a46 := Tryd.isAgg111
  z46 := Tryd.sizeOf111
  v46 := Tryd.zeroValue111
  t51 := Tryd.underlying34
  a51 := Tryd.isAgg34
  z51 := Tryd.sizeOf34
  v51 := Tryd.zeroValue34
  t146 := Tryd.underlying117
  a146 := Tryd.isAgg117
  z146 := Tryd.sizeOf117
  v146 := Tryd.zeroValue117
  g1 := by kernel_rfl }
open Go.RowKit Go.Lib in
/-- strings.Index: "Index returns the index of the first instance of substr in s, or -1 if substr is not present in s.": IT RETURNS 'Lib.index s substr'; the world is as it was. (LAID: no walk: one application.) -/
theorem Tryd.strings_Index (s sub : ByteArray) (m : Int) (w : World) (hs : s.size < 4294967281) (hm : w.cell? ⟨0, 0, none⟩ = some (.int .i64 m)) :
    Calls Tryd.prog 56 #[.string s, .string sub] w fun e w' => e = .returned (.int .i64 (Lib.index s.data.toList sub.data.toList)) ∧ w' = w := Any.strings_Index Tryd.lays143 s sub m w hs hm
def Tryd.lays149_ren : Go.Shelf.Ren := ⟨fun | 149 => 82 | 222 => 86 | n => n, fun | 9 => 9 | 5 => 5 | 3 => 3 | 4 => 4 | n => n, fun | n => n⟩
theorem Tryd.lays149 : Go.Proofs.Lays.n149 Tryd.prog Tryd.lays149_ren := {
  mixed := by kernel_rfl
  f149 := Tryd.func82.trans (congrArg some (by kernel_rfl))
  f222 := Tryd.func86.trans (congrArg some (by kernel_rfl))
  t3 := Tryd.underlying3
  a3 := Tryd.isAgg3
  z3 := Tryd.sizeOf3
  v3 := Tryd.zeroValue3
  t4 := Tryd.underlying4
  a4 := Tryd.isAgg4
  z4 := Tryd.sizeOf4
  v4 := Tryd.zeroValue4
  t5 := Tryd.underlying5
  a5 := Tryd.isAgg5
  z5 := Tryd.sizeOf5
  v5 := Tryd.zeroValue5
  t9 := Tryd.underlying9
  a9 := Tryd.isAgg9
  z9 := Tryd.sizeOf9
  v9 := Tryd.zeroValue9 }
open Go.RowKit Go.Lib in
/-- strings.LastIndexByte: "LastIndexByte returns the index of the last instance of c in s, or -1 if c is not present in s." (LAID: no walk: one application.) -/
theorem Tryd.strings_LastIndexByte (s : ByteArray) (c : Int) (hs : s.size < 4611686018427387904) (w : World) :
    Calls Tryd.prog 82 #[.string s, .int .u8 c] w fun e w' => e = .returned (.int .i64 (Lib.lastIndexByte s c)) ∧ w' = w := Any.strings_LastIndexByte Tryd.lays149 s c hs w
def Tryd.lays100_ren : Go.Shelf.Ren := ⟨fun | 100 => 67 | 207 => 77 | n => n, fun | 9 => 9 | 4 => 4 | 3 => 3 | n => n, fun | n => n⟩
theorem Tryd.lays100 : Go.Proofs.Lays.n100 Tryd.prog Tryd.lays100_ren := {
  mixed := by kernel_rfl
  f100 := Tryd.func67.trans (congrArg some (by kernel_rfl))
  f207 := Tryd.func77.trans (congrArg some (by kernel_rfl))
  t3 := Tryd.underlying3
  a3 := Tryd.isAgg3
  z3 := Tryd.sizeOf3
  v3 := Tryd.zeroValue3
  t4 := Tryd.underlying4
  a4 := Tryd.isAgg4
  z4 := Tryd.sizeOf4
  v4 := Tryd.zeroValue4
  t9 := Tryd.underlying9
  a9 := Tryd.isAgg9
  z9 := Tryd.sizeOf9
  v9 := Tryd.zeroValue9 }
open Go.RowKit Go.Lib in
/-- strings.HasSuffix: "HasSuffix reports whether the string s ends with suffix.": IT RETURNS 'Lib.hasSuffix s suffix'; the world is as it was. ('hs': no Go string is longer: a caller has it of every string that it was handed.) (LAID: no walk: one application.) -/
theorem Tryd.strings_HasSuffix (s p : ByteArray) (w : World) (hs : s.size ≤ 9223372036854775807) :
    Calls Tryd.prog 67 #[.string s, .string p] w fun e w' => e = .returned (.bool (Lib.hasSuffix s.data.toList p.data.toList)) ∧ w' = w := Any.strings_HasSuffix Tryd.lays100 s p w hs
def Tryd.lays155_ren : Go.Shelf.Ren := ⟨fun | 155 => 36 | 154 => 44 | 138 => 54 | 165 => 55 | 143 => 56 | 166 => 39 | 197 => 57 | 169 => 40 | 195 => 69 | 218 => 70 | 240 => 46 | 241 => 71 | 219 => 72 | 260 => 73 | 276 => 59 | 277 => 78 | 217 => 45 | 225 => 79 | 224 => 80 | 267 => 81 | 266 => 58 | 314 => 85 | n => n, fun | 9 => 9 | 3 => 3 | 4 => 4 | 72 => 68 | 0 => 0 | 76 => 71 | 105 => 90 | 21 => 21 | 5 => 5 | 70 => 66 | 20 => 20 | 37 => 29 | 75 => 70 | 127 => 80 | 164 => 92 | 46 => 111 | 119 => 112 | 139 => 115 | 138 => 114 | 146 => 117 | 51 => 34 | 80 => 73 | n => n, fun | 1 => 0 | 3 => 1 | 4 => 2 | n => n⟩
theorem Tryd.lays155 : Go.Proofs.Lays.n155 Tryd.prog Tryd.lays155_ren := {
  mixed := by kernel_rfl
  f138 := Tryd.func54.trans (congrArg some (by kernel_rfl))
  f143 := Tryd.func56.trans (congrArg some (by kernel_rfl))
  f154 := Tryd.func44.trans (congrArg some (by kernel_rfl))
  f155 := Tryd.func36.trans (congrArg some (by kernel_rfl))
  f165 := Tryd.func55.trans (congrArg some (by kernel_rfl))
  f166 := Tryd.func39.trans (congrArg some (by kernel_rfl))
  f169 := Tryd.func40.trans (congrArg some (by kernel_rfl))
  f195 := Tryd.func69.trans (congrArg some (by kernel_rfl))
  f197 := Tryd.func57.trans (congrArg some (by kernel_rfl))
  f217 := Tryd.func45.trans (congrArg some (by kernel_rfl))
  f218 := Tryd.func70.trans (congrArg some (by kernel_rfl))
  f219 := Tryd.func72.trans (congrArg some (by kernel_rfl))
  f224 := Tryd.func80.trans (congrArg some (by kernel_rfl))
  f225 := Tryd.func79.trans (congrArg some (by kernel_rfl))
  f240 := Tryd.func46.trans (congrArg some (by kernel_rfl))
  f241 := Tryd.func71.trans (congrArg some (by kernel_rfl))
  f260 := Tryd.func73.trans (congrArg some (by kernel_rfl))
  f266 := Tryd.func58.trans (congrArg some (by kernel_rfl))
  f267 := Tryd.func81.trans (congrArg some (by kernel_rfl))
  f276 := Tryd.func59.trans (congrArg some (by kernel_rfl))
  f277 := Tryd.func78.trans (congrArg some (by kernel_rfl))
  f314 := Tryd.func85.trans (congrArg some (by kernel_rfl))
  t0 := Tryd.underlying0
  a0 := Tryd.isAgg0
  z0 := Tryd.sizeOf0
  v0 := Tryd.zeroValue0
  t3 := Tryd.underlying3
  a3 := Tryd.isAgg3
  z3 := Tryd.sizeOf3
  v3 := Tryd.zeroValue3
  t4 := Tryd.underlying4
  a4 := Tryd.isAgg4
  z4 := Tryd.sizeOf4
  v4 := Tryd.zeroValue4
  t5 := Tryd.underlying5
  a5 := Tryd.isAgg5
  z5 := Tryd.sizeOf5
  v5 := Tryd.zeroValue5
  t9 := Tryd.underlying9
  a9 := Tryd.isAgg9
  z9 := Tryd.sizeOf9
  v9 := Tryd.zeroValue9
  t20 := Tryd.underlying20
  a20 := Tryd.isAgg20
  z20 := Tryd.sizeOf20
  v20 := Tryd.zeroValue20
  t21 := Tryd.underlying21
  a21 := Tryd.isAgg21
  z21 := Tryd.sizeOf21
  v21 := Tryd.zeroValue21
  t37 := Tryd.underlying29
  a37 := Tryd.isAgg29
  z37 := Tryd.sizeOf29
  v37 := Tryd.zeroValue29
  t46 := Tryd.underlying111
  a46 := Tryd.isAgg111
  z46 := Tryd.sizeOf111
  v46 := Tryd.zeroValue111
  t51 := Tryd.underlying34
  a51 := Tryd.isAgg34
  z51 := Tryd.sizeOf34
  v51 := Tryd.zeroValue34
  t70 := Tryd.underlying66
  a70 := Tryd.isAgg66
  z70 := Tryd.sizeOf66
  v70 := Tryd.zeroValue66
  t72 := Tryd.underlying68
  a72 := Tryd.isAgg68
  z72 := Tryd.sizeOf68
  v72 := Tryd.zeroValue68
  t75 := Tryd.underlying70
  a75 := Tryd.isAgg70
  z75 := Tryd.sizeOf70
  v75 := Tryd.zeroValue70
  t76 := Tryd.underlying71
  a76 := Tryd.isAgg71
  z76 := Tryd.sizeOf71
  v76 := Tryd.zeroValue71
  t105 := Tryd.underlying90
  a105 := Tryd.isAgg90
  z105 := Tryd.sizeOf90
  v105 := Tryd.zeroValue90
  t119 := Tryd.underlying112
  a119 := Tryd.isAgg112
  z119 := Tryd.sizeOf112
  t127 := Tryd.underlying80
  a127 := Tryd.isAgg80
  z127 := Tryd.sizeOf80
  v127 := Tryd.zeroValue80
  t138 := Tryd.underlying114
  a138 := Tryd.isAgg114
  z138 := Tryd.sizeOf114
  v138 := Tryd.zeroValue114
  t139 := Tryd.underlying115
  a139 := Tryd.isAgg115
  z139 := Tryd.sizeOf115
  v139 := Tryd.zeroValue115
  t146 := Tryd.underlying117
  a146 := Tryd.isAgg117
  z146 := Tryd.sizeOf117
  v146 := Tryd.zeroValue117
  t164 := Tryd.underlying92
  a164 := Tryd.isAgg92
  z164 := Tryd.sizeOf92
  v164 := Tryd.zeroValue92
  g1 := by kernel_rfl
  g3 := by kernel_rfl
  g4 := by kernel_rfl }
theorem Tryd.Builder_Extra_155 : Builder.Extra Tryd.prog Tryd.lays155_ren := {
  sizeBuilder := by kernel_rfl
  liesBuilder := by kernel_rfl
  t5 := Tryd.underlying5
  a5 := Tryd.isAgg5
  z5 := Tryd.sizeOf5
  v5 := Tryd.zeroValue5
  infoByte := by kernel_rfl
  cellsByte := by kernel_rfl
  sizeByte := by kernel_rfl
  neB5 := by decide }
open Go.RowKit Go.Lib in
/-- strings.ReplaceAll: "ReplaceAll returns a copy of the string s with all non-overlapping instances of old replaced by new.": AT AN old THAT IS NOT EMPTY: 'Lib.replaceAll s old new'. (LAID: no walk: one application.) -/
theorem Tryd.strings_ReplaceAll (s old new : ByteArray) (m : Int) (w : World) (hs : s.size < 4294967281) (hm : w.cell? ⟨0, 0, none⟩ = some (.int .i64 m)) (h1 : 1 ≤ old.size) (hlen : s.size + Lib.countB s old * new.size ≤ 140737488355328) :
    Calls Tryd.prog 36 #[.string s, .string old, .string new] w fun e w' =>
      e = .returned (.string ⟨(Lib.replaceAll s.data.toList old.data.toList new.data.toList).toArray⟩) ∧ Below w.heap.size w w' := Any.strings_ReplaceAll Tryd.lays155 Tryd.Builder_Extra_155 s old new m w hs hm h1 hlen
end Go.Proofs
