-- pruned2
/-
  DERIVED: THE SHELF's CONTRACTS AT THIS DUMP, IN PLAIN WORDS (tools/lay-plain.mjs out of 'TrydShelf.lean', which tools/lay-shelf.mjs wrote): THE SAME DECLARATIONS UNDER THE SAME NAMES: 'import', 'namespace', 'open', 'def', 'theorem' AND NOTHING ELSE: no command of the shelf's: FOR A HAND-IN. Each laying: the table of numbers ('.._ren') and one theorem, a field a fact of the dump's own or the kernel's comparison; each contract: ONE APPLICATION.
-/
import Derived.Shelf.Strings.Builder1
import Derived.Shelf.Strings.Builder2
import Derived.Shelf.Small.Strs
import Derived.Shelf.Utf8.RuneCount
import Derived.Shelf.LaysM
import Derived.Shelf.Strconv.Clone
import Derived.Shelf.Strconv.SyntaxError
import Derived.Shelf.LaysC
import Derived.Shelf.Strconv.ToError
import Derived.Shelf.Strconv.Lower
import Derived.Shelf.Strconv.ParseUintEmpty
import Derived.Shelf.Strings.Search1
import Derived.Shelf.Strings.Search2
import Derived.Shelf.Strings.Search3
import Derived.Shelf.Strings.Cut
import Derived.Shelf.Strings.Count
import Derived.Shelf.Strings.Shaped
import Derived.Shelf.Strings.LastIndex
import Derived.Shelf.Strings.Prefix
import Derived.Shelf.Strings.Split
import Derived.Shelf.Strings.Replace
import Derived.Shelf.Strings.SplitShaped
import Derived.Shelf.Unicode.Decode
import Derived.Shelf.Strings.RuneCount
import Derived.Shelf.Unicode.DecodeSlow
import Derived.Shelf.Unicode.DecodeAny
import Derived.Test.YtmokjaddbmcopaaDoorProg
namespace Go.Proofs
open Go.Shelf
def Tryd.lays169_ren : Go.Shelf.Ren := ⟨fun | 169 => 29 | n => n, fun | 70 => 56 | 9 => 9 | 0 => 0 | 72 => 58 | 37 => 22 | 127 => 68 | 3 => 3 | 5 => 5 | n => n, fun | n => n⟩
theorem Tryd.lays169 : Go.Proofs.Lays.n169 Tryd.prog Tryd.lays169_ren := {
  mixed := by kernel_rfl
  f169 := Tryd.func29.trans (congrArg some (by kernel_rfl))
  t0 := Tryd.underlying0
  a0 := Tryd.isAgg0
  z0 := Tryd.sizeOf0
  v0 := Tryd.zeroValue0
  t3 := Tryd.underlying3
  a3 := Tryd.isAgg3
  z3 := Tryd.sizeOf3
  v3 := Tryd.zeroValue3
  t9 := Tryd.underlying9
  a9 := Tryd.isAgg9
  z9 := Tryd.sizeOf9
  v9 := Tryd.zeroValue9
  t37 := Tryd.underlying22
  a37 := Tryd.isAgg22
  z37 := Tryd.sizeOf22
  v37 := Tryd.zeroValue22
  t70 := Tryd.underlying56
  a70 := Tryd.isAgg56
  z70 := Tryd.sizeOf56
  v70 := Tryd.zeroValue56
  t72 := Tryd.underlying58
  a72 := Tryd.isAgg58
  z72 := Tryd.sizeOf58
  v72 := Tryd.zeroValue58
  t127 := Tryd.underlying68
  a127 := Tryd.isAgg68
  z127 := Tryd.sizeOf68
  v127 := Tryd.zeroValue68 }
theorem Tryd.Builder_Extra_169 : Builder.Extra Tryd.prog Tryd.lays169_ren := {
  sizeBuilder := by kernel_rfl
  liesBuilder := by kernel_rfl
  t5 := Tryd.underlying5
  a5 := Tryd.isAgg5
  z5 := Tryd.sizeOf5
  v5 := Tryd.zeroValue5
  infoByte := by kernel_rfl
  cellsByte := by kernel_rfl
  sizeByte := by kernel_rfl
  neB5 := by decide }
open Go.RowKit in
theorem Tryd.Builder_String_any (B b : Nat) (l : List UInt8) (w : World) (h : Lib.IsBuilder 58 5 B b (Lib.byteCells l) w) (hBw : B ≤ w.heap.size) :
    Calls Tryd.prog 29 #[.pointer (some ⟨b, 0, none⟩)] w fun e w' => e = .returned (.string ⟨l.toArray⟩) ∧ Below B w w' := Any.Builder_String_any Tryd.lays169 Tryd.Builder_Extra_169 B b l w h hBw
def Tryd.lays137_ren : Go.Shelf.Ren := ⟨fun | 137 => 26 | 217 => 33 | 266 => 45 | n => n, fun | 9 => 9 | 5 => 5 | 3 => 3 | n => n, fun | n => n⟩
theorem Tryd.lays137 : Go.Proofs.Lays.n137 Tryd.prog Tryd.lays137_ren := {
  mixed := by kernel_rfl
  f137 := Tryd.func26.trans (congrArg some (by kernel_rfl))
  f217 := Tryd.func33.trans (congrArg some (by kernel_rfl))
  f266 := Tryd.func45.trans (congrArg some (by kernel_rfl))
  t3 := Tryd.underlying3
  a3 := Tryd.isAgg3
  z3 := Tryd.sizeOf3
  v3 := Tryd.zeroValue3
  t5 := Tryd.underlying5
  a5 := Tryd.isAgg5
  z5 := Tryd.sizeOf5
  v5 := Tryd.zeroValue5
  t9 := Tryd.underlying9
  a9 := Tryd.isAgg9
  z9 := Tryd.sizeOf9
  v9 := Tryd.zeroValue9 }
open Go.RowKit in
theorem Tryd.strings_IndexByte (s : ByteArray) (c : Int) (w : World) :
    Calls Tryd.prog 26 #[.string s, .int .u8 c] w fun e w' => e = .returned (.int .i64 (Lib.indexByte s.data.toList c.toNat.toUInt8)) ∧ w' = w := Any.strings_IndexByte Tryd.lays137 s c w
def Tryd.laysC245_ren : Go.Shelf.Ren := ⟨fun | 245 => 74 | 279 => 79 | 280 => 80 | 281 => 81 | 282 => 82 | 316 => 83 | 171 => 85 | 205 => 84 | 243 => 86 | 246 => 87 | 283 => 88 | 284 => 89 | 285 => 90 | 286 => 91 | 129 => 93 | 317 => 92 | 318 => 94 | 319 => 95 | 320 => 96 | 337 => 97 | 338 => 98 | n => n, fun | 9 => 9 | 3 => 3 | 75 => 60 | 167 => 112 | 4 => 4 | 168 => 114 | 210 => 118 | 37 => 22 | 0 => 0 | 127 => 68 | 145 => 122 | 143 => 120 | 2 => 2 | 171 => 124 | 53 => 98 | 5 => 5 | 173 => 127 | 212 => 130 | 51 => 109 | 20 => 20 | 213 => 131 | 46 => 103 | 232 => 134 | 233 => 135 | 80 => 63 | n => n, fun | 15 => 3 | 16 => 4 | 17 => 5 | 18 => 6 | 19 => 7 | n => n⟩
theorem Tryd.laysC245 : Go.Proofs.LaysC.n245 Tryd.prog Tryd.laysC245_ren := {
  mixed := by kernel_rfl
  f129 := Tryd.func93.trans (congrArg some (by kernel_rfl))
  f171 := Tryd.func85.trans (congrArg some (by kernel_rfl))
  f205 := Tryd.func84.trans (congrArg some (by kernel_rfl))
  f243 := Tryd.func86.trans (congrArg some (by kernel_rfl))
  f245 := Tryd.func74.trans (congrArg some (by kernel_rfl))
  f246 := Tryd.func87.trans (congrArg some (by kernel_rfl))
  f279 := Tryd.func79.trans (congrArg some (by kernel_rfl))
  f280 := Tryd.func80.trans (congrArg some (by kernel_rfl))
  f281 := Tryd.func81.trans (congrArg some (by kernel_rfl))
  f282 := Tryd.func82.trans (congrArg some (by kernel_rfl))
  f283 := Tryd.func88.trans (congrArg some (by kernel_rfl))
  f284 := Tryd.func89.trans (congrArg some (by kernel_rfl))
  f285 := Tryd.func90.trans (congrArg some (by kernel_rfl))
  f286 := Tryd.func91.trans (congrArg some (by kernel_rfl))
  f316 := Tryd.func83.trans (congrArg some (by kernel_rfl))
  f317 := Tryd.func92.trans (congrArg some (by kernel_rfl))
  f318 := Tryd.func94.trans (congrArg some (by kernel_rfl))
  f319 := Tryd.func95.trans (congrArg some (by kernel_rfl))
  f320 := Tryd.func96.trans (congrArg some (by kernel_rfl))
  f337 := Tryd.func97.trans (congrArg some (by kernel_rfl))
  f338 := Tryd.func98.trans (congrArg some (by kernel_rfl))
  t0 := Tryd.underlying0
  a0 := Tryd.isAgg0
  z0 := Tryd.sizeOf0
  v0 := Tryd.zeroValue0
  t2 := Tryd.underlying2
  a2 := Tryd.isAgg2
  z2 := Tryd.sizeOf2
  v2 := Tryd.zeroValue2
  t3 := Tryd.underlying3
  a3 := Tryd.isAgg3
  z3 := Tryd.sizeOf3
  v3 := Tryd.zeroValue3
  t4 := Tryd.underlying4
  a4 := Tryd.isAgg4
  z4 := Tryd.sizeOf4
  v4 := Tryd.zeroValue4
  t5 := Tryd.underlying5
  a5 := Tryd.isAgg5
  z5 := Tryd.sizeOf5
  v5 := Tryd.zeroValue5
  t9 := Tryd.underlying9
  a9 := Tryd.isAgg9
  z9 := Tryd.sizeOf9
  v9 := Tryd.zeroValue9
  t20 := Tryd.underlying20
  a20 := Tryd.isAgg20
  z20 := Tryd.sizeOf20
  v20 := Tryd.zeroValue20
  t37 := Tryd.underlying22
  a37 := Tryd.isAgg22
  z37 := Tryd.sizeOf22
  v37 := Tryd.zeroValue22
  t46 := Tryd.underlying103
  a46 := Tryd.isAgg103
  z46 := Tryd.sizeOf103
  v46 := Tryd.zeroValue103
  t51 := Tryd.underlying109
  a51 := Tryd.isAgg109
  z51 := Tryd.sizeOf109
  v51 := Tryd.zeroValue109
  t53 := Tryd.underlying98
  a53 := Tryd.isAgg98
  z53 := Tryd.sizeOf98
  v53 := Tryd.zeroValue98
  t75 := Tryd.underlying60
  a75 := Tryd.isAgg60
  z75 := Tryd.sizeOf60
  v75 := Tryd.zeroValue60
  t127 := Tryd.underlying68
  a127 := Tryd.isAgg68
  z127 := Tryd.sizeOf68
  v127 := Tryd.zeroValue68
  t143 := Tryd.underlying120
  a143 := Tryd.isAgg120
  z143 := Tryd.sizeOf120
  v143 := Tryd.zeroValue120
  t145 := Tryd.underlying122
  a145 := Tryd.isAgg122
  z145 := Tryd.sizeOf122
  v145 := Tryd.zeroValue122
  t167 := Tryd.underlying112
  a167 := Tryd.isAgg112
  z167 := Tryd.sizeOf112
  v167 := Tryd.zeroValue112
  t168 := Tryd.underlying114
  a168 := Tryd.isAgg114
  z168 := Tryd.sizeOf114
  v168 := Tryd.zeroValue114
  t171 := Tryd.underlying124
  a171 := Tryd.isAgg124
  z171 := Tryd.sizeOf124
  v171 := Tryd.zeroValue124
  t173 := Tryd.underlying127
  a173 := Tryd.isAgg127
  z173 := Tryd.sizeOf127
  v173 := Tryd.zeroValue127
  t210 := Tryd.underlying118
  a210 := Tryd.isAgg118
  z210 := Tryd.sizeOf118
  v210 := Tryd.zeroValue118
  t212 := Tryd.underlying130
  a212 := Tryd.isAgg130
  z212 := Tryd.sizeOf130
  v212 := Tryd.zeroValue130
  t213 := Tryd.underlying131
  a213 := Tryd.isAgg131
  z213 := Tryd.sizeOf131
  t232 := Tryd.underlying134
  a232 := Tryd.isAgg134
  z232 := Tryd.sizeOf134
  v232 := Tryd.zeroValue134
  t233 := Tryd.underlying135
  a233 := Tryd.isAgg135
  z233 := Tryd.sizeOf135
  v233 := Tryd.zeroValue135
  g15 := by kernel_rfl
  g16 := by kernel_rfl
  g17 := by kernel_rfl
  g18 := by kernel_rfl
  g19 := by kernel_rfl
  t80 := Tryd.underlying63
  a80 := Tryd.isAgg63
  z80 := Tryd.sizeOf63
  v80 := Tryd.zeroValue63
  i0 := by kernel_rfl
  i2 := by kernel_rfl
  i3 := by kernel_rfl
  i4 := by kernel_rfl
  i5 := by kernel_rfl
  i9 := by kernel_rfl
  i20 := by kernel_rfl
  i37 := by kernel_rfl
  i46 := by kernel_rfl
  i51 := by kernel_rfl
  i53 := by kernel_rfl
  i75 := by kernel_rfl
  i80 := by kernel_rfl
  i127 := by kernel_rfl
  i143 := by kernel_rfl
  i145 := by kernel_rfl
  i167 := by kernel_rfl
  i168 := by kernel_rfl
  i171 := by kernel_rfl
  i173 := by kernel_rfl
  i210 := by kernel_rfl
  i212 := by kernel_rfl
  i232 := by kernel_rfl
  i233 := by kernel_rfl
  m15 := by kernel_rfl
  m16 := by kernel_rfl
  m17 := by kernel_rfl
  m18 := by kernel_rfl
  m19 := by kernel_rfl
  c0 := by kernel_rfl
  c2 := by kernel_rfl
  c3 := by kernel_rfl
  c4 := by kernel_rfl
  c5 := by kernel_rfl
  c9 := by kernel_rfl
  c20 := by kernel_rfl
  c37 := by kernel_rfl
  c46 := by kernel_rfl
  c51 := by kernel_rfl
  c53 := by kernel_rfl
  c75 := by kernel_rfl
  c80 := by kernel_rfl
  c127 := by kernel_rfl
  c143 := by kernel_rfl
  c145 := by kernel_rfl
  c167 := by kernel_rfl
  c168 := by kernel_rfl
  c171 := by kernel_rfl
  c173 := by kernel_rfl
  c210 := by kernel_rfl
  c212 := by kernel_rfl
  c213 := by kernel_rfl
  c232 := by kernel_rfl
  c233 := by kernel_rfl }
open Go.RowKit in
theorem Tryd.strconv_toError_syntax (fn s : ByteArray) (base bits : Int) (ev : Value) (w : World) (hlim : s.size ≤ 281474976710656) (hv : w.cell? ⟨3, 0, none⟩ = some ev) (hev : ev = .nilIface ∨ ∃ te pe, ev = .iface te pe) :
    Calls Tryd.prog 74 #[.string fn, .string s, .int .i64 base, .int .i64 bits, .iface 112 (.int .i64 2)] w fun e w' => ∃ N, e = .returned (.iface 114 (.pointer (some ⟨N, 0, none⟩))) ∧ w.heap.size ≤ N ∧ w'.heap[N]? = some (.cells #[.string fn, .string s, ev] 118 (0, 0)) ∧ Below w.heap.size w w' := Any.strconv_toError_syntax Tryd.laysC245 fn s base bits ev w hlim hv hev
def Tryd.lays321_ren : Go.Shelf.Ren := ⟨fun | 321 => 77 | n => n, fun | 5 => 5 | n => n, fun | n => n⟩
theorem Tryd.lays321 : Go.Proofs.Lays.n321 Tryd.prog Tryd.lays321_ren := {
  mixed := by kernel_rfl
  f321 := Tryd.func77.trans (congrArg some (by kernel_rfl))
  t5 := Tryd.underlying5
  a5 := Tryd.isAgg5
  z5 := Tryd.sizeOf5
  v5 := Tryd.zeroValue5 }
open Go.RowKit in
theorem Tryd.internal_strconv_lower (c : Int) (w : World) :
    Calls Tryd.prog 77 #[.int .u8 c] w fun e w' => e = .returned (.int .u8 (bits .or .u8 c 32)) ∧ w' = w := Any.internal_strconv_lower Tryd.lays321 c w
def Tryd.lays287_ren : Go.Shelf.Ren := ⟨fun | 287 => 73 | 321 => 77 | 322 => 78 | n => n, fun | 9 => 9 | 3 => 3 | 53 => 98 | 75 => 60 | 4 => 4 | 167 => 112 | 5 => 5 | 46 => 103 | 37 => 22 | 0 => 0 | 21 => 21 | 80 => 63 | n => n, fun | n => n⟩
theorem Tryd.lays287 : Go.Proofs.Lays.n287 Tryd.prog Tryd.lays287_ren := {
  mixed := by kernel_rfl
  f287 := Tryd.func73.trans (congrArg some (by kernel_rfl))
  f321 := Tryd.func77.trans (congrArg some (by kernel_rfl))
  f322 := Tryd.func78.trans (congrArg some (by kernel_rfl))
  t0 := Tryd.underlying0
  a0 := Tryd.isAgg0
  z0 := Tryd.sizeOf0
  v0 := Tryd.zeroValue0
  t3 := Tryd.underlying3
  a3 := Tryd.isAgg3
  z3 := Tryd.sizeOf3
  v3 := Tryd.zeroValue3
  t4 := Tryd.underlying4
  a4 := Tryd.isAgg4
  z4 := Tryd.sizeOf4
  v4 := Tryd.zeroValue4
  t5 := Tryd.underlying5
  a5 := Tryd.isAgg5
  z5 := Tryd.sizeOf5
  v5 := Tryd.zeroValue5
  t9 := Tryd.underlying9
  a9 := Tryd.isAgg9
  z9 := Tryd.sizeOf9
  v9 := Tryd.zeroValue9
  t21 := Tryd.underlying21
  a21 := Tryd.isAgg21
  z21 := Tryd.sizeOf21
  v21 := Tryd.zeroValue21
  t37 := Tryd.underlying22
  a37 := Tryd.isAgg22
  z37 := Tryd.sizeOf22
  v37 := Tryd.zeroValue22
  t46 := Tryd.underlying103
  a46 := Tryd.isAgg103
  z46 := Tryd.sizeOf103
  v46 := Tryd.zeroValue103
  t53 := Tryd.underlying98
  a53 := Tryd.isAgg98
  z53 := Tryd.sizeOf98
  v53 := Tryd.zeroValue98
  t75 := Tryd.underlying60
  a75 := Tryd.isAgg60
  z75 := Tryd.sizeOf60
  v75 := Tryd.zeroValue60
  t167 := Tryd.underlying112
  a167 := Tryd.isAgg112
  z167 := Tryd.sizeOf112
  v167 := Tryd.zeroValue112 }
open Go.RowKit in
theorem Tryd.internal_strconv_ParseUint_empty (base bits : Int) (w : World) :
    Calls Tryd.prog 73 #[.string ⟨#[]⟩, .int .i64 base, .int .i64 bits] w fun e w' => e = .returned (.tuple #[.int .u64 0, .iface 112 (.int .i64 2)]) ∧ w' = w := Any.internal_strconv_ParseUint_empty Tryd.lays287 base bits w
def Tryd.lays219_ren : Go.Shelf.Ren := ⟨fun | 219 => 61 | 217 => 33 | 225 => 69 | 224 => 70 | 267 => 71 | 266 => 45 | 314 => 75 | n => n, fun | 9 => 9 | 3 => 3 | 4 => 4 | 5 => 5 | 46 => 103 | 146 => 110 | 51 => 109 | n => n, fun | 1 => 0 | n => n⟩
theorem Tryd.lays219 : Go.Proofs.Lays.n219 Tryd.prog Tryd.lays219_ren := {
  mixed := by kernel_rfl
  f217 := Tryd.func33.trans (congrArg some (by kernel_rfl))
  f219 := Tryd.func61.trans (congrArg some (by kernel_rfl))
  f224 := Tryd.func70.trans (congrArg some (by kernel_rfl))
  f225 := Tryd.func69.trans (congrArg some (by kernel_rfl))
  f266 := Tryd.func45.trans (congrArg some (by kernel_rfl))
  f267 := Tryd.func71.trans (congrArg some (by kernel_rfl))
  f314 := Tryd.func75.trans (congrArg some (by kernel_rfl))
  t3 := Tryd.underlying3
  a3 := Tryd.isAgg3
  z3 := Tryd.sizeOf3
  v3 := Tryd.zeroValue3
  t4 := Tryd.underlying4
  a4 := Tryd.isAgg4
  z4 := Tryd.sizeOf4
  v4 := Tryd.zeroValue4
  t5 := Tryd.underlying5
  a5 := Tryd.isAgg5
  z5 := Tryd.sizeOf5
  v5 := Tryd.zeroValue5
  t9 := Tryd.underlying9
  a9 := Tryd.isAgg9
  z9 := Tryd.sizeOf9
  v9 := Tryd.zeroValue9
  t46 := Tryd.underlying103
  a46 := Tryd.isAgg103
  z46 := Tryd.sizeOf103
  v46 := Tryd.zeroValue103
  t51 := Tryd.underlying109
  a51 := Tryd.isAgg109
  z51 := Tryd.sizeOf109
  v51 := Tryd.zeroValue109
  t146 := Tryd.underlying110
  a146 := Tryd.isAgg110
  z146 := Tryd.sizeOf110
  v146 := Tryd.zeroValue110
  g1 := by kernel_rfl }
open Go.RowKit Go.Lib in
theorem Tryd.stringslite_Index_one (s : ByteArray) (c : UInt8) (w : World) :
    Calls Tryd.prog 61 #[.string s, .string ⟨#[c]⟩] w fun e w' => e = .returned (.int .i64 (Lib.indexByte s.data.toList c)) ∧ w' = w := Any.stringslite_Index_one Tryd.lays219 s c w
def Tryd.lays149_ren : Go.Shelf.Ren := ⟨fun | 149 => 72 | 222 => 76 | n => n, fun | 9 => 9 | 5 => 5 | 3 => 3 | 4 => 4 | n => n, fun | n => n⟩
theorem Tryd.lays149 : Go.Proofs.Lays.n149 Tryd.prog Tryd.lays149_ren := {
  mixed := by kernel_rfl
  f149 := Tryd.func72.trans (congrArg some (by kernel_rfl))
  f222 := Tryd.func76.trans (congrArg some (by kernel_rfl))
  t3 := Tryd.underlying3
  a3 := Tryd.isAgg3
  z3 := Tryd.sizeOf3
  v3 := Tryd.zeroValue3
  t4 := Tryd.underlying4
  a4 := Tryd.isAgg4
  z4 := Tryd.sizeOf4
  v4 := Tryd.zeroValue4
  t5 := Tryd.underlying5
  a5 := Tryd.isAgg5
  z5 := Tryd.sizeOf5
  v5 := Tryd.zeroValue5
  t9 := Tryd.underlying9
  a9 := Tryd.isAgg9
  z9 := Tryd.sizeOf9
  v9 := Tryd.zeroValue9 }
open Go.RowKit Go.Lib in
theorem Tryd.strings_LastIndexByte (s : ByteArray) (c : Int) (hs : s.size < 4611686018427387904) (w : World) :
    Calls Tryd.prog 72 #[.string s, .int .u8 c] w fun e w' => e = .returned (.int .i64 (Lib.lastIndexByte s c)) ∧ w' = w := Any.strings_LastIndexByte Tryd.lays149 s c hs w
def Tryd.lays100_ren : Go.Shelf.Ren := ⟨fun | 100 => 55 | 207 => 67 | n => n, fun | 9 => 9 | 4 => 4 | 3 => 3 | n => n, fun | n => n⟩
theorem Tryd.lays100 : Go.Proofs.Lays.n100 Tryd.prog Tryd.lays100_ren := {
  mixed := by kernel_rfl
  f100 := Tryd.func55.trans (congrArg some (by kernel_rfl))
  f207 := Tryd.func67.trans (congrArg some (by kernel_rfl))
  t3 := Tryd.underlying3
  a3 := Tryd.isAgg3
  z3 := Tryd.sizeOf3
  v3 := Tryd.zeroValue3
  t4 := Tryd.underlying4
  a4 := Tryd.isAgg4
  z4 := Tryd.sizeOf4
  v4 := Tryd.zeroValue4
  t9 := Tryd.underlying9
  a9 := Tryd.isAgg9
  z9 := Tryd.sizeOf9
  v9 := Tryd.zeroValue9 }
open Go.RowKit Go.Lib in
theorem Tryd.strings_HasSuffix (s p : ByteArray) (w : World) (hs : s.size ≤ 9223372036854775807) :
    Calls Tryd.prog 55 #[.string s, .string p] w fun e w' => e = .returned (.bool (Lib.hasSuffix s.data.toList p.data.toList)) ∧ w' = w := Any.strings_HasSuffix Tryd.lays100 s p w hs
def Tryd.lays155_ren : Go.Shelf.Ren := ⟨fun | 155 => 23 | 154 => 32 | 138 => 41 | 165 => 42 | 143 => 43 | 166 => 28 | 197 => 44 | 169 => 29 | 195 => 58 | 218 => 59 | 240 => 34 | 241 => 60 | 219 => 61 | 260 => 62 | 276 => 46 | 277 => 68 | 217 => 33 | 225 => 69 | 224 => 70 | 267 => 71 | 266 => 45 | 314 => 75 | n => n, fun | 9 => 9 | 3 => 3 | 4 => 4 | 72 => 58 | 0 => 0 | 76 => 61 | 105 => 79 | 21 => 21 | 5 => 5 | 70 => 56 | 20 => 20 | 37 => 22 | 75 => 60 | 127 => 68 | 164 => 81 | 46 => 103 | 119 => 104 | 139 => 107 | 138 => 106 | 146 => 110 | 51 => 109 | 80 => 63 | n => n, fun | 1 => 0 | 3 => 1 | 4 => 2 | n => n⟩
theorem Tryd.lays155 : Go.Proofs.Lays.n155 Tryd.prog Tryd.lays155_ren := {
  mixed := by kernel_rfl
  f138 := Tryd.func41.trans (congrArg some (by kernel_rfl))
  f143 := Tryd.func43.trans (congrArg some (by kernel_rfl))
  f154 := Tryd.func32.trans (congrArg some (by kernel_rfl))
  f155 := Tryd.func23.trans (congrArg some (by kernel_rfl))
  f165 := Tryd.func42.trans (congrArg some (by kernel_rfl))
  f166 := Tryd.func28.trans (congrArg some (by kernel_rfl))
  f169 := Tryd.func29.trans (congrArg some (by kernel_rfl))
  f195 := Tryd.func58.trans (congrArg some (by kernel_rfl))
  f197 := Tryd.func44.trans (congrArg some (by kernel_rfl))
  f217 := Tryd.func33.trans (congrArg some (by kernel_rfl))
  f218 := Tryd.func59.trans (congrArg some (by kernel_rfl))
  f219 := Tryd.func61.trans (congrArg some (by kernel_rfl))
  f224 := Tryd.func70.trans (congrArg some (by kernel_rfl))
  f225 := Tryd.func69.trans (congrArg some (by kernel_rfl))
  f240 := Tryd.func34.trans (congrArg some (by kernel_rfl))
  f241 := Tryd.func60.trans (congrArg some (by kernel_rfl))
  f260 := Tryd.func62.trans (congrArg some (by kernel_rfl))
  f266 := Tryd.func45.trans (congrArg some (by kernel_rfl))
  f267 := Tryd.func71.trans (congrArg some (by kernel_rfl))
  f276 := Tryd.func46.trans (congrArg some (by kernel_rfl))
  f277 := Tryd.func68.trans (congrArg some (by kernel_rfl))
  f314 := Tryd.func75.trans (congrArg some (by kernel_rfl))
  t0 := Tryd.underlying0
  a0 := Tryd.isAgg0
  z0 := Tryd.sizeOf0
  v0 := Tryd.zeroValue0
  t3 := Tryd.underlying3
  a3 := Tryd.isAgg3
  z3 := Tryd.sizeOf3
  v3 := Tryd.zeroValue3
  t4 := Tryd.underlying4
  a4 := Tryd.isAgg4
  z4 := Tryd.sizeOf4
  v4 := Tryd.zeroValue4
  t5 := Tryd.underlying5
  a5 := Tryd.isAgg5
  z5 := Tryd.sizeOf5
  v5 := Tryd.zeroValue5
  t9 := Tryd.underlying9
  a9 := Tryd.isAgg9
  z9 := Tryd.sizeOf9
  v9 := Tryd.zeroValue9
  t20 := Tryd.underlying20
  a20 := Tryd.isAgg20
  z20 := Tryd.sizeOf20
  v20 := Tryd.zeroValue20
  t21 := Tryd.underlying21
  a21 := Tryd.isAgg21
  z21 := Tryd.sizeOf21
  v21 := Tryd.zeroValue21
  t37 := Tryd.underlying22
  a37 := Tryd.isAgg22
  z37 := Tryd.sizeOf22
  v37 := Tryd.zeroValue22
  t46 := Tryd.underlying103
  a46 := Tryd.isAgg103
  z46 := Tryd.sizeOf103
  v46 := Tryd.zeroValue103
  t51 := Tryd.underlying109
  a51 := Tryd.isAgg109
  z51 := Tryd.sizeOf109
  v51 := Tryd.zeroValue109
  t70 := Tryd.underlying56
  a70 := Tryd.isAgg56
  z70 := Tryd.sizeOf56
  v70 := Tryd.zeroValue56
  t72 := Tryd.underlying58
  a72 := Tryd.isAgg58
  z72 := Tryd.sizeOf58
  v72 := Tryd.zeroValue58
  t75 := Tryd.underlying60
  a75 := Tryd.isAgg60
  z75 := Tryd.sizeOf60
  v75 := Tryd.zeroValue60
  t76 := Tryd.underlying61
  a76 := Tryd.isAgg61
  z76 := Tryd.sizeOf61
  v76 := Tryd.zeroValue61
  t105 := Tryd.underlying79
  a105 := Tryd.isAgg79
  z105 := Tryd.sizeOf79
  v105 := Tryd.zeroValue79
  t119 := Tryd.underlying104
  a119 := Tryd.isAgg104
  z119 := Tryd.sizeOf104
  t127 := Tryd.underlying68
  a127 := Tryd.isAgg68
  z127 := Tryd.sizeOf68
  v127 := Tryd.zeroValue68
  t138 := Tryd.underlying106
  a138 := Tryd.isAgg106
  z138 := Tryd.sizeOf106
  v138 := Tryd.zeroValue106
  t139 := Tryd.underlying107
  a139 := Tryd.isAgg107
  z139 := Tryd.sizeOf107
  v139 := Tryd.zeroValue107
  t146 := Tryd.underlying110
  a146 := Tryd.isAgg110
  z146 := Tryd.sizeOf110
  v146 := Tryd.zeroValue110
  t164 := Tryd.underlying81
  a164 := Tryd.isAgg81
  z164 := Tryd.sizeOf81
  v164 := Tryd.zeroValue81
  g1 := by kernel_rfl
  g3 := by kernel_rfl
  g4 := by kernel_rfl }
theorem Tryd.Builder_Extra_155 : Builder.Extra Tryd.prog Tryd.lays155_ren := {
  sizeBuilder := by kernel_rfl
  liesBuilder := by kernel_rfl
  t5 := Tryd.underlying5
  a5 := Tryd.isAgg5
  z5 := Tryd.sizeOf5
  v5 := Tryd.zeroValue5
  infoByte := by kernel_rfl
  cellsByte := by kernel_rfl
  sizeByte := by kernel_rfl
  neB5 := by decide }
open Go.RowKit Go.Lib in
theorem Tryd.strings_ReplaceAll (s old new : ByteArray) (m : Int) (w : World) (hs : s.size < 4294967281) (hm : w.cell? ⟨0, 0, none⟩ = some (.int .i64 m)) (h1 : 1 ≤ old.size) (hlen : s.size + Lib.countB s old * new.size ≤ 140737488355328) :
    Calls Tryd.prog 23 #[.string s, .string old, .string new] w fun e w' =>
      e = .returned (.string ⟨(Lib.replaceAll s.data.toList old.data.toList new.data.toList).toArray⟩) ∧ Below w.heap.size w w' := Any.strings_ReplaceAll Tryd.lays155 Tryd.Builder_Extra_155 s old new m w hs hm h1 hlen
end Go.Proofs
