/-
  DERIVED: THE SHELF's CONTRACTS AT THIS DUMP, IN PLAIN WORDS (tools/lay-plain.mjs out of 'TryzShelf.lean', which tools/lay-shelf.mjs wrote): THE SAME DECLARATIONS UNDER THE SAME NAMES: 'import', 'namespace', 'open', 'def', 'theorem' AND NOTHING ELSE: no command of the shelf's: FOR A HAND-IN. Each laying: the table of numbers ('.._ren') and one theorem, a field a fact of the dump's own or the kernel's comparison; each contract: ONE APPLICATION.
-/
import Derived.Shelf.Strings.Builder1
import Derived.Shelf.Strings.Builder2
import Derived.Shelf.Small.Strs
import Derived.Shelf.Utf8.RuneCount
import Derived.Shelf.LaysM
import Derived.Shelf.Strconv.Clone
import Derived.Shelf.Strconv.SyntaxError
import Derived.Shelf.LaysC
import Derived.Shelf.Strconv.ToError
import Derived.Shelf.Strconv.Lower
import Derived.Shelf.Strconv.ParseUintEmpty
import Derived.Shelf.Strings.Search1
import Derived.Shelf.Strings.Search2
import Derived.Shelf.Strings.Search3
import Derived.Shelf.Strings.Cut
import Derived.Shelf.Strings.Count
import Derived.Shelf.Strings.Shaped
import Derived.Shelf.Strings.LastIndex
import Derived.Shelf.Strings.Prefix
import Derived.Shelf.Strings.Split
import Derived.Shelf.Strings.Replace
import Derived.Shelf.Strings.SplitShaped
import Derived.Shelf.Unicode.Decode
import Derived.Shelf.Strings.RuneCount
import Derived.Shelf.Unicode.DecodeSlow
import Derived.Shelf.Unicode.DecodeAny
import Derived.Test.YtodommehhcfccaaGreatDoorProg
namespace Go.Proofs
open Go.Shelf
def Tryz.lays169_ren : Go.Shelf.Ren := ⟨fun | 169 => 37 | n => n, fun | 70 => 55 | 9 => 9 | 0 => 0 | 72 => 57 | 37 => 52 | 127 => 69 | 3 => 3 | 5 => 5 | n => n, fun | n => n⟩
theorem Tryz.lays169 : Go.Proofs.Lays.n169 Tryz.prog Tryz.lays169_ren := {
  mixed := by kernel_rfl
  f169 := Tryz.func37.trans (congrArg some (by kernel_rfl))
  t0 := Tryz.underlying0
  a0 := Tryz.isAgg0
  z0 := Tryz.sizeOf0
  v0 := Tryz.zeroValue0
  t3 := Tryz.underlying3
  a3 := Tryz.isAgg3
  z3 := Tryz.sizeOf3
  v3 := Tryz.zeroValue3
  t9 := Tryz.underlying9
  a9 := Tryz.isAgg9
  z9 := Tryz.sizeOf9
  v9 := Tryz.zeroValue9
  t37 := Tryz.underlying52
  a37 := Tryz.isAgg52
  z37 := Tryz.sizeOf52
  v37 := Tryz.zeroValue52
  t70 := Tryz.underlying55
  a70 := Tryz.isAgg55
  z70 := Tryz.sizeOf55
  v70 := Tryz.zeroValue55
  t72 := Tryz.underlying57
  a72 := Tryz.isAgg57
  z72 := Tryz.sizeOf57
  v72 := Tryz.zeroValue57
  t127 := Tryz.underlying69
  a127 := Tryz.isAgg69
  z127 := Tryz.sizeOf69
  v127 := Tryz.zeroValue69 }
theorem Tryz.Builder_Extra_169 : Builder.Extra Tryz.prog Tryz.lays169_ren := {
  sizeBuilder := by kernel_rfl
  liesBuilder := by kernel_rfl
  t5 := Tryz.underlying5
  a5 := Tryz.isAgg5
  z5 := Tryz.sizeOf5
  v5 := Tryz.zeroValue5
  infoByte := by kernel_rfl
  cellsByte := by kernel_rfl
  sizeByte := by kernel_rfl
  neB5 := by decide }
open Go.RowKit in
/-- (*strings.Builder).String: "String returns the accumulated string.": WHATEVER THE BUILDER HOLDS. (LAID: no walk: one application.) -/
theorem Tryz.Builder_String_any (B b : Nat) (l : List UInt8) (w : World) (h : Lib.IsBuilder 57 5 B b (Lib.byteCells l) w) (hBw : B ≤ w.heap.size) :
    Calls Tryz.prog 37 #[.pointer (some ⟨b, 0, none⟩)] w fun e w' => e = .returned (.string ⟨l.toArray⟩) ∧ Below B w w' := Any.Builder_String_any Tryz.lays169 Tryz.Builder_Extra_169 B b l w h hBw
def Tryz.lays137_ren : Go.Shelf.Ren := ⟨fun | 137 => 34 | 217 => 44 | 266 => 58 | n => n, fun | 9 => 9 | 5 => 5 | 3 => 3 | n => n, fun | n => n⟩
theorem Tryz.lays137 : Go.Proofs.Lays.n137 Tryz.prog Tryz.lays137_ren := {
  mixed := by kernel_rfl
  f137 := Tryz.func34.trans (congrArg some (by kernel_rfl))
  f217 := Tryz.func44.trans (congrArg some (by kernel_rfl))
  f266 := Tryz.func58.trans (congrArg some (by kernel_rfl))
  t3 := Tryz.underlying3
  a3 := Tryz.isAgg3
  z3 := Tryz.sizeOf3
  v3 := Tryz.zeroValue3
  t5 := Tryz.underlying5
  a5 := Tryz.isAgg5
  z5 := Tryz.sizeOf5
  v5 := Tryz.zeroValue5
  t9 := Tryz.underlying9
  a9 := Tryz.isAgg9
  z9 := Tryz.sizeOf9
  v9 := Tryz.zeroValue9 }
open Go.RowKit in
/-- strings.IndexByte: "IndexByte returns the index of the first instance of c in s, or -1 if c is not present in s.": IT RETURNS 'Lib.indexByte s c'; the world is as it was. (LAID: no walk: one application.) -/
theorem Tryz.strings_IndexByte (s : ByteArray) (c : Int) (w : World) :
    Calls Tryz.prog 34 #[.string s, .int .u8 c] w fun e w' => e = .returned (.int .i64 (Lib.indexByte s.data.toList c.toNat.toUInt8)) ∧ w' = w := Any.strings_IndexByte Tryz.lays137 s c w
def Tryz.laysC245_ren : Go.Shelf.Ren := ⟨fun | 245 => 96 | 279 => 102 | 280 => 103 | 281 => 104 | 282 => 105 | 316 => 106 | 171 => 108 | 205 => 107 | 243 => 109 | 246 => 110 | 283 => 111 | 284 => 112 | 285 => 113 | 286 => 114 | 129 => 116 | 317 => 115 | 318 => 117 | 319 => 118 | 320 => 119 | 337 => 120 | 338 => 121 | n => n, fun | 9 => 9 | 3 => 3 | 75 => 59 | 167 => 115 | 4 => 4 | 168 => 117 | 210 => 121 | 37 => 52 | 0 => 0 | 127 => 69 | 145 => 125 | 143 => 123 | 2 => 2 | 171 => 127 | 53 => 98 | 5 => 5 | 173 => 130 | 212 => 133 | 51 => 112 | 20 => 20 | 213 => 134 | 46 => 105 | 232 => 137 | 233 => 138 | 80 => 62 | n => n, fun | 15 => 3 | 16 => 4 | 17 => 5 | 18 => 6 | 19 => 7 | n => n⟩
theorem Tryz.laysC245 : Go.Proofs.LaysC.n245 Tryz.prog Tryz.laysC245_ren := {
  mixed := by kernel_rfl
  f129 := Tryz.func116.trans (congrArg some (by kernel_rfl))
  f171 := Tryz.func108.trans (congrArg some (by kernel_rfl))
  f205 := Tryz.func107.trans (congrArg some (by kernel_rfl))
  f243 := Tryz.func109.trans (congrArg some (by kernel_rfl))
  f245 := Tryz.func96.trans (congrArg some (by kernel_rfl))
  f246 := Tryz.func110.trans (congrArg some (by kernel_rfl))
  f279 := Tryz.func102.trans (congrArg some (by kernel_rfl))
  f280 := Tryz.func103.trans (congrArg some (by kernel_rfl))
  f281 := Tryz.func104.trans (congrArg some (by kernel_rfl))
  f282 := Tryz.func105.trans (congrArg some (by kernel_rfl))
  f283 := Tryz.func111.trans (congrArg some (by kernel_rfl))
  f284 := Tryz.func112.trans (congrArg some (by kernel_rfl))
  f285 := Tryz.func113.trans (congrArg some (by kernel_rfl))
  f286 := Tryz.func114.trans (congrArg some (by kernel_rfl))
  f316 := Tryz.func106.trans (congrArg some (by kernel_rfl))
  f317 := Tryz.func115.trans (congrArg some (by kernel_rfl))
  f318 := Tryz.func117.trans (congrArg some (by kernel_rfl))
  f319 := Tryz.func118.trans (congrArg some (by kernel_rfl))
  f320 := Tryz.func119.trans (congrArg some (by kernel_rfl))
  f337 := Tryz.func120.trans (congrArg some (by kernel_rfl))
  f338 := Tryz.func121.trans (congrArg some (by kernel_rfl))
  t0 := Tryz.underlying0
  a0 := Tryz.isAgg0
  z0 := Tryz.sizeOf0
  v0 := Tryz.zeroValue0
  t2 := Tryz.underlying2
  a2 := Tryz.isAgg2
  z2 := Tryz.sizeOf2
  v2 := Tryz.zeroValue2
  t3 := Tryz.underlying3
  a3 := Tryz.isAgg3
  z3 := Tryz.sizeOf3
  v3 := Tryz.zeroValue3
  t4 := Tryz.underlying4
  a4 := Tryz.isAgg4
  z4 := Tryz.sizeOf4
  v4 := Tryz.zeroValue4
  t5 := Tryz.underlying5
  a5 := Tryz.isAgg5
  z5 := Tryz.sizeOf5
  v5 := Tryz.zeroValue5
  t9 := Tryz.underlying9
  a9 := Tryz.isAgg9
  z9 := Tryz.sizeOf9
  v9 := Tryz.zeroValue9
  t20 := Tryz.underlying20
  a20 := Tryz.isAgg20
  z20 := Tryz.sizeOf20
  v20 := Tryz.zeroValue20
  t37 := Tryz.underlying52
  a37 := Tryz.isAgg52
  z37 := Tryz.sizeOf52
  v37 := Tryz.zeroValue52
  t46 := Tryz.underlying105
  a46 := Tryz.isAgg105
  z46 := Tryz.sizeOf105
  v46 := Tryz.zeroValue105
  t51 := Tryz.underlying112
  a51 := Tryz.isAgg112
  z51 := Tryz.sizeOf112
  v51 := Tryz.zeroValue112
  t53 := Tryz.underlying98
  a53 := Tryz.isAgg98
  z53 := Tryz.sizeOf98
  v53 := Tryz.zeroValue98
  t75 := Tryz.underlying59
  a75 := Tryz.isAgg59
  z75 := Tryz.sizeOf59
  v75 := Tryz.zeroValue59
  t127 := Tryz.underlying69
  a127 := Tryz.isAgg69
  z127 := Tryz.sizeOf69
  v127 := Tryz.zeroValue69
  t143 := Tryz.underlying123
  a143 := Tryz.isAgg123
  z143 := Tryz.sizeOf123
  v143 := Tryz.zeroValue123
  t145 := Tryz.underlying125
  a145 := Tryz.isAgg125
  z145 := Tryz.sizeOf125
  v145 := Tryz.zeroValue125
  t167 := Tryz.underlying115
  a167 := Tryz.isAgg115
  z167 := Tryz.sizeOf115
  v167 := Tryz.zeroValue115
  t168 := Tryz.underlying117
  a168 := Tryz.isAgg117
  z168 := Tryz.sizeOf117
  v168 := Tryz.zeroValue117
  t171 := Tryz.underlying127
  a171 := Tryz.isAgg127
  z171 := Tryz.sizeOf127
  v171 := Tryz.zeroValue127
  t173 := Tryz.underlying130
  a173 := Tryz.isAgg130
  z173 := Tryz.sizeOf130
  v173 := Tryz.zeroValue130
  t210 := Tryz.underlying121
  a210 := Tryz.isAgg121
  z210 := Tryz.sizeOf121
  v210 := Tryz.zeroValue121
  t212 := Tryz.underlying133
  a212 := Tryz.isAgg133
  z212 := Tryz.sizeOf133
  v212 := Tryz.zeroValue133
  t213 := Tryz.underlying134
  a213 := Tryz.isAgg134
  z213 := Tryz.sizeOf134
  t232 := Tryz.underlying137
  a232 := Tryz.isAgg137
  z232 := Tryz.sizeOf137
  v232 := Tryz.zeroValue137
  t233 := Tryz.underlying138
  a233 := Tryz.isAgg138
  z233 := Tryz.sizeOf138
  v233 := Tryz.zeroValue138
  g15 := by kernel_rfl
  g16 := by kernel_rfl
  g17 := by kernel_rfl
  g18 := by kernel_rfl
  g19 := by kernel_rfl
  t80 := Tryz.underlying62
  a80 := Tryz.isAgg62
  z80 := Tryz.sizeOf62
  v80 := Tryz.zeroValue62
  i0 := by kernel_rfl
  i2 := by kernel_rfl
  i3 := by kernel_rfl
  i4 := by kernel_rfl
  i5 := by kernel_rfl
  i9 := by kernel_rfl
  i20 := by kernel_rfl
  i37 := by kernel_rfl
  i46 := by kernel_rfl
  i51 := by kernel_rfl
  i53 := by kernel_rfl
  i75 := by kernel_rfl
  i80 := by kernel_rfl
  i127 := by kernel_rfl
  i143 := by kernel_rfl
  i145 := by kernel_rfl
  i167 := by kernel_rfl
  i168 := by kernel_rfl
  i171 := by kernel_rfl
  i173 := by kernel_rfl
  i210 := by kernel_rfl
  i212 := by kernel_rfl
  i232 := by kernel_rfl
  i233 := by kernel_rfl
  m15 := by kernel_rfl
  m16 := by kernel_rfl
  m17 := by kernel_rfl
  m18 := by kernel_rfl
  m19 := by kernel_rfl
  c0 := by kernel_rfl
  c2 := by kernel_rfl
  c3 := by kernel_rfl
  c4 := by kernel_rfl
  c5 := by kernel_rfl
  c9 := by kernel_rfl
  c20 := by kernel_rfl
  c37 := by kernel_rfl
  c46 := by kernel_rfl
  c51 := by kernel_rfl
  c53 := by kernel_rfl
  c75 := by kernel_rfl
  c80 := by kernel_rfl
  c127 := by kernel_rfl
  c143 := by kernel_rfl
  c145 := by kernel_rfl
  c167 := by kernel_rfl
  c168 := by kernel_rfl
  c171 := by kernel_rfl
  c173 := by kernel_rfl
  c210 := by kernel_rfl
  c212 := by kernel_rfl
  c213 := by kernel_rfl
  c232 := by kernel_rfl
  c233 := by kernel_rfl }
open Go.RowKit in
/-- strconv.toError, at the inner package's ErrSyntax: 'syntaxError(fn, s)' as an error: A *NumError IN A NEW BLOCK. (LAID: no walk: one application.) -/
theorem Tryz.strconv_toError_syntax (fn s : ByteArray) (base bits : Int) (ev : Value) (w : World) (hlim : s.size ≤ 281474976710656) (hv : w.cell? ⟨3, 0, none⟩ = some ev) (hev : ev = .nilIface ∨ ∃ te pe, ev = .iface te pe) :
    Calls Tryz.prog 96 #[.string fn, .string s, .int .i64 base, .int .i64 bits, .iface 115 (.int .i64 2)] w fun e w' => ∃ N, e = .returned (.iface 117 (.pointer (some ⟨N, 0, none⟩))) ∧ w.heap.size ≤ N ∧ w'.heap[N]? = some (.cells #[.string fn, .string s, ev] 121 (0, 0)) ∧ Below w.heap.size w w' := Any.strconv_toError_syntax Tryz.laysC245 fn s base bits ev w hlim hv hev
def Tryz.lays321_ren : Go.Shelf.Ren := ⟨fun | 321 => 100 | n => n, fun | 5 => 5 | n => n, fun | n => n⟩
theorem Tryz.lays321 : Go.Proofs.Lays.n321 Tryz.prog Tryz.lays321_ren := {
  mixed := by kernel_rfl
  f321 := Tryz.func100.trans (congrArg some (by kernel_rfl))
  t5 := Tryz.underlying5
  a5 := Tryz.isAgg5
  z5 := Tryz.sizeOf5
  v5 := Tryz.zeroValue5 }
open Go.RowKit in
/-- internal/strconv.lower: 'c | ('x' - 'X')': the bit 32 set. The world is as it was. (LAID: no walk: one application.) -/
theorem Tryz.internal_strconv_lower (c : Int) (w : World) :
    Calls Tryz.prog 100 #[.int .u8 c] w fun e w' => e = .returned (.int .u8 (bits .or .u8 c 32)) ∧ w' = w := Any.internal_strconv_lower Tryz.lays321 c w
def Tryz.lays287_ren : Go.Shelf.Ren := ⟨fun | 287 => 95 | 321 => 100 | 322 => 101 | n => n, fun | 9 => 9 | 3 => 3 | 53 => 98 | 75 => 59 | 4 => 4 | 167 => 115 | 5 => 5 | 46 => 105 | 37 => 52 | 0 => 0 | 21 => 21 | 80 => 62 | n => n, fun | n => n⟩
theorem Tryz.lays287 : Go.Proofs.Lays.n287 Tryz.prog Tryz.lays287_ren := {
  mixed := by kernel_rfl
  f287 := Tryz.func95.trans (congrArg some (by kernel_rfl))
  f321 := Tryz.func100.trans (congrArg some (by kernel_rfl))
  f322 := Tryz.func101.trans (congrArg some (by kernel_rfl))
  t0 := Tryz.underlying0
  a0 := Tryz.isAgg0
  z0 := Tryz.sizeOf0
  v0 := Tryz.zeroValue0
  t3 := Tryz.underlying3
  a3 := Tryz.isAgg3
  z3 := Tryz.sizeOf3
  v3 := Tryz.zeroValue3
  t4 := Tryz.underlying4
  a4 := Tryz.isAgg4
  z4 := Tryz.sizeOf4
  v4 := Tryz.zeroValue4
  t5 := Tryz.underlying5
  a5 := Tryz.isAgg5
  z5 := Tryz.sizeOf5
  v5 := Tryz.zeroValue5
  t9 := Tryz.underlying9
  a9 := Tryz.isAgg9
  z9 := Tryz.sizeOf9
  v9 := Tryz.zeroValue9
  t21 := Tryz.underlying21
  a21 := Tryz.isAgg21
  z21 := Tryz.sizeOf21
  v21 := Tryz.zeroValue21
  t37 := Tryz.underlying52
  a37 := Tryz.isAgg52
  z37 := Tryz.sizeOf52
  v37 := Tryz.zeroValue52
  t46 := Tryz.underlying105
  a46 := Tryz.isAgg105
  z46 := Tryz.sizeOf105
  v46 := Tryz.zeroValue105
  t53 := Tryz.underlying98
  a53 := Tryz.isAgg98
  z53 := Tryz.sizeOf98
  v53 := Tryz.zeroValue98
  t75 := Tryz.underlying59
  a75 := Tryz.isAgg59
  z75 := Tryz.sizeOf59
  v75 := Tryz.zeroValue59
  t167 := Tryz.underlying115
  a167 := Tryz.isAgg115
  z167 := Tryz.sizeOf115
  v167 := Tryz.zeroValue115 }
open Go.RowKit in
/-- internal/strconv.ParseUint("", base, bitSize): (0, ErrSyntax): the first test of the text. The world is as it was. (LAID: no walk: one application.) -/
theorem Tryz.internal_strconv_ParseUint_empty (base bits : Int) (w : World) :
    Calls Tryz.prog 95 #[.string ⟨#[]⟩, .int .i64 base, .int .i64 bits] w fun e w' => e = .returned (.tuple #[.int .u64 0, .iface 115 (.int .i64 2)]) ∧ w' = w := Any.internal_strconv_ParseUint_empty Tryz.lays287 base bits w
def Tryz.lays219_ren : Go.Shelf.Ren := ⟨fun | 219 => 78 | 217 => 44 | 225 => 91 | 224 => 92 | 267 => 93 | 266 => 58 | 314 => 98 | n => n, fun | 9 => 9 | 3 => 3 | 4 => 4 | 5 => 5 | 46 => 105 | 146 => 113 | 51 => 112 | n => n, fun | 1 => 0 | n => n⟩
theorem Tryz.lays219 : Go.Proofs.Lays.n219 Tryz.prog Tryz.lays219_ren := {
  mixed := by kernel_rfl
  f217 := Tryz.func44.trans (congrArg some (by kernel_rfl))
  f219 := Tryz.func78.trans (congrArg some (by kernel_rfl))
  f224 := Tryz.func92.trans (congrArg some (by kernel_rfl))
  f225 := Tryz.func91.trans (congrArg some (by kernel_rfl))
  f266 := Tryz.func58.trans (congrArg some (by kernel_rfl))
  f267 := Tryz.func93.trans (congrArg some (by kernel_rfl))
  f314 := Tryz.func98.trans (congrArg some (by kernel_rfl))
  t3 := Tryz.underlying3
  a3 := Tryz.isAgg3
  z3 := Tryz.sizeOf3
  v3 := Tryz.zeroValue3
  t4 := Tryz.underlying4
  a4 := Tryz.isAgg4
  z4 := Tryz.sizeOf4
  v4 := Tryz.zeroValue4
  t5 := Tryz.underlying5
  a5 := Tryz.isAgg5
  z5 := Tryz.sizeOf5
  v5 := Tryz.zeroValue5
  t9 := Tryz.underlying9
  a9 := Tryz.isAgg9
  z9 := Tryz.sizeOf9
  v9 := Tryz.zeroValue9
  t46 := Tryz.underlying105
  a46 := Tryz.isAgg105
  z46 := Tryz.sizeOf105
  v46 := Tryz.zeroValue105
  t51 := Tryz.underlying112
  a51 := Tryz.isAgg112
  z51 := Tryz.sizeOf112
  v51 := Tryz.zeroValue112
  t146 := Tryz.underlying113
  a146 := Tryz.isAgg113
  z146 := Tryz.sizeOf113
  v146 := Tryz.zeroValue113
  g1 := by kernel_rfl }
open Go.RowKit Go.Lib in
/-- internal/stringslite.Index (what strings.Index calls) AT A substr OF ONE BYTE c: IT RETURNS 'Lib.indexByte s c'; the world is as it was. (LAID: no walk: one application.) -/
theorem Tryz.stringslite_Index_one (s : ByteArray) (c : UInt8) (w : World) :
    Calls Tryz.prog 78 #[.string s, .string ⟨#[c]⟩] w fun e w' => e = .returned (.int .i64 (Lib.indexByte s.data.toList c)) ∧ w' = w := Any.stringslite_Index_one Tryz.lays219 s c w
def Tryz.lays143_ren : Go.Shelf.Ren := ⟨fun | 143 => 56 | 219 => 78 | 217 => 44 | 225 => 91 | 224 => 92 | 267 => 93 | 266 => 58 | 314 => 98 | n => n, fun | 9 => 9 | 3 => 3 | 4 => 4 | 5 => 5 | 46 => 105 | 146 => 113 | 51 => 112 | n => n, fun | 1 => 0 | n => n⟩
theorem Tryz.lays143 : Go.Proofs.Lays.n143 Tryz.prog Tryz.lays143_ren := {
  mixed := by kernel_rfl
  f143 := Tryz.func56.trans (congrArg some (by kernel_rfl))
  f217 := Tryz.func44.trans (congrArg some (by kernel_rfl))
  f219 := Tryz.func78.trans (congrArg some (by kernel_rfl))
  f224 := Tryz.func92.trans (congrArg some (by kernel_rfl))
  f225 := Tryz.func91.trans (congrArg some (by kernel_rfl))
  f266 := Tryz.func58.trans (congrArg some (by kernel_rfl))
  f267 := Tryz.func93.trans (congrArg some (by kernel_rfl))
  f314 := Tryz.func98.trans (congrArg some (by kernel_rfl))
  t3 := Tryz.underlying3
  a3 := Tryz.isAgg3
  z3 := Tryz.sizeOf3
  v3 := Tryz.zeroValue3
  t4 := Tryz.underlying4
  a4 := Tryz.isAgg4
  z4 := Tryz.sizeOf4
  v4 := Tryz.zeroValue4
  t5 := Tryz.underlying5
  a5 := Tryz.isAgg5
  z5 := Tryz.sizeOf5
  v5 := Tryz.zeroValue5
  t9 := Tryz.underlying9
  a9 := Tryz.isAgg9
  z9 := Tryz.sizeOf9
  v9 := Tryz.zeroValue9
  t46 := Tryz.underlying105
  a46 := Tryz.isAgg105
  z46 := Tryz.sizeOf105
  v46 := Tryz.zeroValue105
  t51 := Tryz.underlying112
  a51 := Tryz.isAgg112
  z51 := Tryz.sizeOf112
  v51 := Tryz.zeroValue112
  t146 := Tryz.underlying113
  a146 := Tryz.isAgg113
  z146 := Tryz.sizeOf113
  v146 := Tryz.zeroValue113
  g1 := by kernel_rfl }
open Go.RowKit Go.Lib in
/-- strings.Index: "Index returns the index of the first instance of substr in s, or -1 if substr is not present in s.": IT RETURNS 'Lib.index s substr'; the world is as it was. (LAID: no walk: one application.) -/
theorem Tryz.strings_Index (s sub : ByteArray) (m : Int) (w : World) (hs : s.size < 4294967281) (hm : w.cell? ⟨0, 0, none⟩ = some (.int .i64 m)) :
    Calls Tryz.prog 56 #[.string s, .string sub] w fun e w' => e = .returned (.int .i64 (Lib.index s.data.toList sub.data.toList)) ∧ w' = w := Any.strings_Index Tryz.lays143 s sub m w hs hm
def Tryz.lays149_ren : Go.Shelf.Ren := ⟨fun | 149 => 94 | 222 => 99 | n => n, fun | 9 => 9 | 5 => 5 | 3 => 3 | 4 => 4 | n => n, fun | n => n⟩
theorem Tryz.lays149 : Go.Proofs.Lays.n149 Tryz.prog Tryz.lays149_ren := {
  mixed := by kernel_rfl
  f149 := Tryz.func94.trans (congrArg some (by kernel_rfl))
  f222 := Tryz.func99.trans (congrArg some (by kernel_rfl))
  t3 := Tryz.underlying3
  a3 := Tryz.isAgg3
  z3 := Tryz.sizeOf3
  v3 := Tryz.zeroValue3
  t4 := Tryz.underlying4
  a4 := Tryz.isAgg4
  z4 := Tryz.sizeOf4
  v4 := Tryz.zeroValue4
  t5 := Tryz.underlying5
  a5 := Tryz.isAgg5
  z5 := Tryz.sizeOf5
  v5 := Tryz.zeroValue5
  t9 := Tryz.underlying9
  a9 := Tryz.isAgg9
  z9 := Tryz.sizeOf9
  v9 := Tryz.zeroValue9 }
open Go.RowKit Go.Lib in
/-- strings.LastIndexByte: "LastIndexByte returns the index of the last instance of c in s, or -1 if c is not present in s." (LAID: no walk: one application.) -/
theorem Tryz.strings_LastIndexByte (s : ByteArray) (c : Int) (hs : s.size < 4611686018427387904) (w : World) :
    Calls Tryz.prog 94 #[.string s, .int .u8 c] w fun e w' => e = .returned (.int .i64 (Lib.lastIndexByte s c)) ∧ w' = w := Any.strings_LastIndexByte Tryz.lays149 s c hs w
def Tryz.lays100_ren : Go.Shelf.Ren := ⟨fun | 100 => 68 | 207 => 84 | n => n, fun | 9 => 9 | 4 => 4 | 3 => 3 | n => n, fun | n => n⟩
theorem Tryz.lays100 : Go.Proofs.Lays.n100 Tryz.prog Tryz.lays100_ren := {
  mixed := by kernel_rfl
  f100 := Tryz.func68.trans (congrArg some (by kernel_rfl))
  f207 := Tryz.func84.trans (congrArg some (by kernel_rfl))
  t3 := Tryz.underlying3
  a3 := Tryz.isAgg3
  z3 := Tryz.sizeOf3
  v3 := Tryz.zeroValue3
  t4 := Tryz.underlying4
  a4 := Tryz.isAgg4
  z4 := Tryz.sizeOf4
  v4 := Tryz.zeroValue4
  t9 := Tryz.underlying9
  a9 := Tryz.isAgg9
  z9 := Tryz.sizeOf9
  v9 := Tryz.zeroValue9 }
open Go.RowKit Go.Lib in
/-- strings.HasSuffix: "HasSuffix reports whether the string s ends with suffix.": IT RETURNS 'Lib.hasSuffix s suffix'; the world is as it was. ('hs': no Go string is longer: a caller has it of every string that it was handed.) (LAID: no walk: one application.) -/
theorem Tryz.strings_HasSuffix (s p : ByteArray) (w : World) (hs : s.size ≤ 9223372036854775807) :
    Calls Tryz.prog 68 #[.string s, .string p] w fun e w' => e = .returned (.bool (Lib.hasSuffix s.data.toList p.data.toList)) ∧ w' = w := Any.strings_HasSuffix Tryz.lays100 s p w hs
def Tryz.lays155_ren : Go.Shelf.Ren := ⟨fun | 155 => 32 | 154 => 43 | 138 => 54 | 165 => 55 | 143 => 56 | 166 => 36 | 197 => 57 | 169 => 37 | 195 => 75 | 218 => 76 | 240 => 45 | 241 => 77 | 219 => 78 | 260 => 79 | 276 => 59 | 277 => 90 | 217 => 44 | 225 => 91 | 224 => 92 | 267 => 93 | 266 => 58 | 314 => 98 | n => n, fun | 9 => 9 | 3 => 3 | 4 => 4 | 72 => 57 | 0 => 0 | 76 => 60 | 105 => 79 | 21 => 21 | 5 => 5 | 70 => 55 | 20 => 20 | 37 => 52 | 75 => 59 | 127 => 69 | 164 => 81 | 46 => 105 | 119 => 106 | 139 => 109 | 138 => 108 | 146 => 113 | 51 => 112 | 80 => 62 | n => n, fun | 1 => 0 | 3 => 1 | 4 => 2 | n => n⟩
theorem Tryz.lays155 : Go.Proofs.Lays.n155 Tryz.prog Tryz.lays155_ren := {
  mixed := by kernel_rfl
  f138 := Tryz.func54.trans (congrArg some (by kernel_rfl))
  f143 := Tryz.func56.trans (congrArg some (by kernel_rfl))
  f154 := Tryz.func43.trans (congrArg some (by kernel_rfl))
  f155 := Tryz.func32.trans (congrArg some (by kernel_rfl))
  f165 := Tryz.func55.trans (congrArg some (by kernel_rfl))
  f166 := Tryz.func36.trans (congrArg some (by kernel_rfl))
  f169 := Tryz.func37.trans (congrArg some (by kernel_rfl))
  f195 := Tryz.func75.trans (congrArg some (by kernel_rfl))
  f197 := Tryz.func57.trans (congrArg some (by kernel_rfl))
  f217 := Tryz.func44.trans (congrArg some (by kernel_rfl))
  f218 := Tryz.func76.trans (congrArg some (by kernel_rfl))
  f219 := Tryz.func78.trans (congrArg some (by kernel_rfl))
  f224 := Tryz.func92.trans (congrArg some (by kernel_rfl))
  f225 := Tryz.func91.trans (congrArg some (by kernel_rfl))
  f240 := Tryz.func45.trans (congrArg some (by kernel_rfl))
  f241 := Tryz.func77.trans (congrArg some (by kernel_rfl))
  f260 := Tryz.func79.trans (congrArg some (by kernel_rfl))
  f266 := Tryz.func58.trans (congrArg some (by kernel_rfl))
  f267 := Tryz.func93.trans (congrArg some (by kernel_rfl))
  f276 := Tryz.func59.trans (congrArg some (by kernel_rfl))
  f277 := Tryz.func90.trans (congrArg some (by kernel_rfl))
  f314 := Tryz.func98.trans (congrArg some (by kernel_rfl))
  t0 := Tryz.underlying0
  a0 := Tryz.isAgg0
  z0 := Tryz.sizeOf0
  v0 := Tryz.zeroValue0
  t3 := Tryz.underlying3
  a3 := Tryz.isAgg3
  z3 := Tryz.sizeOf3
  v3 := Tryz.zeroValue3
  t4 := Tryz.underlying4
  a4 := Tryz.isAgg4
  z4 := Tryz.sizeOf4
  v4 := Tryz.zeroValue4
  t5 := Tryz.underlying5
  a5 := Tryz.isAgg5
  z5 := Tryz.sizeOf5
  v5 := Tryz.zeroValue5
  t9 := Tryz.underlying9
  a9 := Tryz.isAgg9
  z9 := Tryz.sizeOf9
  v9 := Tryz.zeroValue9
  t20 := Tryz.underlying20
  a20 := Tryz.isAgg20
  z20 := Tryz.sizeOf20
  v20 := Tryz.zeroValue20
  t21 := Tryz.underlying21
  a21 := Tryz.isAgg21
  z21 := Tryz.sizeOf21
  v21 := Tryz.zeroValue21
  t37 := Tryz.underlying52
  a37 := Tryz.isAgg52
  z37 := Tryz.sizeOf52
  v37 := Tryz.zeroValue52
  t46 := Tryz.underlying105
  a46 := Tryz.isAgg105
  z46 := Tryz.sizeOf105
  v46 := Tryz.zeroValue105
  t51 := Tryz.underlying112
  a51 := Tryz.isAgg112
  z51 := Tryz.sizeOf112
  v51 := Tryz.zeroValue112
  t70 := Tryz.underlying55
  a70 := Tryz.isAgg55
  z70 := Tryz.sizeOf55
  v70 := Tryz.zeroValue55
  t72 := Tryz.underlying57
  a72 := Tryz.isAgg57
  z72 := Tryz.sizeOf57
  v72 := Tryz.zeroValue57
  t75 := Tryz.underlying59
  a75 := Tryz.isAgg59
  z75 := Tryz.sizeOf59
  v75 := Tryz.zeroValue59
  t76 := Tryz.underlying60
  a76 := Tryz.isAgg60
  z76 := Tryz.sizeOf60
  v76 := Tryz.zeroValue60
  t105 := Tryz.underlying79
  a105 := Tryz.isAgg79
  z105 := Tryz.sizeOf79
  v105 := Tryz.zeroValue79
  t119 := Tryz.underlying106
  a119 := Tryz.isAgg106
  z119 := Tryz.sizeOf106
  t127 := Tryz.underlying69
  a127 := Tryz.isAgg69
  z127 := Tryz.sizeOf69
  v127 := Tryz.zeroValue69
  t138 := Tryz.underlying108
  a138 := Tryz.isAgg108
  z138 := Tryz.sizeOf108
  v138 := Tryz.zeroValue108
  t139 := Tryz.underlying109
  a139 := Tryz.isAgg109
  z139 := Tryz.sizeOf109
  v139 := Tryz.zeroValue109
  t146 := Tryz.underlying113
  a146 := Tryz.isAgg113
  z146 := Tryz.sizeOf113
  v146 := Tryz.zeroValue113
  t164 := Tryz.underlying81
  a164 := Tryz.isAgg81
  z164 := Tryz.sizeOf81
  v164 := Tryz.zeroValue81
  g1 := by kernel_rfl
  g3 := by kernel_rfl
  g4 := by kernel_rfl }
theorem Tryz.Builder_Extra_155 : Builder.Extra Tryz.prog Tryz.lays155_ren := {
  sizeBuilder := by kernel_rfl
  liesBuilder := by kernel_rfl
  t5 := Tryz.underlying5
  a5 := Tryz.isAgg5
  z5 := Tryz.sizeOf5
  v5 := Tryz.zeroValue5
  infoByte := by kernel_rfl
  cellsByte := by kernel_rfl
  sizeByte := by kernel_rfl
  neB5 := by decide }
open Go.RowKit Go.Lib in
/-- strings.ReplaceAll: "ReplaceAll returns a copy of the string s with all non-overlapping instances of old replaced by new.": AT AN old THAT IS NOT EMPTY: 'Lib.replaceAll s old new'. (LAID: no walk: one application.) -/
theorem Tryz.strings_ReplaceAll (s old new : ByteArray) (m : Int) (w : World) (hs : s.size < 4294967281) (hm : w.cell? ⟨0, 0, none⟩ = some (.int .i64 m)) (h1 : 1 ≤ old.size) (hlen : s.size + Lib.countB s old * new.size ≤ 140737488355328) :
    Calls Tryz.prog 32 #[.string s, .string old, .string new] w fun e w' =>
      e = .returned (.string ⟨(Lib.replaceAll s.data.toList old.data.toList new.data.toList).toArray⟩) ∧ Below w.heap.size w w' := Any.strings_ReplaceAll Tryz.lays155 Tryz.Builder_Extra_155 s old new m w hs hm h1 hlen
end Go.Proofs
