-- pruned2
/-
  DERIVED: THE SHELF's CONTRACTS AT THIS DUMP, IN PLAIN WORDS (tools/lay-plain.mjs out of 'TryzShelf.lean', which tools/lay-shelf.mjs wrote): THE SAME DECLARATIONS UNDER THE SAME NAMES: 'import', 'namespace', 'open', 'def', 'theorem' AND NOTHING ELSE: no command of the shelf's: FOR A HAND-IN. Each laying: the table of numbers ('.._ren') and one theorem, a field a fact of the dump's own or the kernel's comparison; each contract: ONE APPLICATION.
-/
import Derived.Shelf.Strings.Builder1
import Derived.Shelf.Strings.Builder2
import Derived.Shelf.Small.Strs
import Derived.Shelf.LaysM
import Derived.Shelf.Strconv.Clone
import Derived.Shelf.Strconv.SyntaxError
import Derived.Shelf.LaysC
import Derived.Shelf.Strconv.ToError
import Derived.Shelf.Strconv.Lower
import Derived.Shelf.Strconv.ParseUintEmpty
import Derived.Shelf.Strings.Search1
import Derived.Shelf.Strings.Search2
import Derived.Shelf.Strings.Search3
import Derived.Shelf.Strings.Cut
import Derived.Shelf.Strings.Count
import Derived.Shelf.Strings.Shaped
import Derived.Shelf.Strings.LastIndex
import Derived.Shelf.Strings.Prefix
import Derived.Shelf.Strings.Split
import Derived.Shelf.Strings.Replace
import Derived.Shelf.Unicode.DecodeSlow
import Derived.Test.YtpcpcimbkdogcaaGreatDoorProg
namespace Go.Proofs
open Go.Shelf
def Tryz.lays169_ren : Go.Shelf.Ren := ⟨fun | 169 => 51 | n => n, fun | 70 => 54 | 9 => 9 | 0 => 0 | 72 => 57 | 37 => 55 | 127 => 77 | 3 => 3 | 5 => 5 | n => n, fun | n => n⟩
theorem Tryz.lays169 : Go.Proofs.Lays.n169 Tryz.prog Tryz.lays169_ren := {
  mixed := by kernel_rfl
  f169 := Tryz.func51.trans (congrArg some (by kernel_rfl))
  t0 := Tryz.underlying0
  a0 := Tryz.isAgg0
  z0 := Tryz.sizeOf0
  v0 := Tryz.zeroValue0
  t3 := Tryz.underlying3
  a3 := Tryz.isAgg3
  z3 := Tryz.sizeOf3
  v3 := Tryz.zeroValue3
  t9 := Tryz.underlying9
  a9 := Tryz.isAgg9
  z9 := Tryz.sizeOf9
  v9 := Tryz.zeroValue9
  t37 := Tryz.underlying55
  a37 := Tryz.isAgg55
  z37 := Tryz.sizeOf55
  v37 := Tryz.zeroValue55
  t70 := Tryz.underlying54
  a70 := Tryz.isAgg54
  z70 := Tryz.sizeOf54
  v70 := Tryz.zeroValue54
  t72 := Tryz.underlying57
  a72 := Tryz.isAgg57
  z72 := Tryz.sizeOf57
  v72 := Tryz.zeroValue57
  t127 := Tryz.underlying77
  a127 := Tryz.isAgg77
  z127 := Tryz.sizeOf77
  v127 := Tryz.zeroValue77 }
theorem Tryz.Builder_Extra_169 : Builder.Extra Tryz.prog Tryz.lays169_ren := {
  sizeBuilder := by kernel_rfl
  liesBuilder := by kernel_rfl
  t5 := Tryz.underlying5
  a5 := Tryz.isAgg5
  z5 := Tryz.sizeOf5
  v5 := Tryz.zeroValue5
  infoByte := by kernel_rfl
  cellsByte := by kernel_rfl
  sizeByte := by kernel_rfl
  neB5 := by decide }
open Go.RowKit in
theorem Tryz.Builder_String_any (B b : Nat) (l : List UInt8) (w : World) (h : Lib.IsBuilder 57 5 B b (Lib.byteCells l) w) (hBw : B ≤ w.heap.size) :
    Calls Tryz.prog 51 #[.pointer (some ⟨b, 0, none⟩)] w fun e w' => e = .returned (.string ⟨l.toArray⟩) ∧ Below B w w' := Any.Builder_String_any Tryz.lays169 Tryz.Builder_Extra_169 B b l w h hBw
def Tryz.lays137_ren : Go.Shelf.Ren := ⟨fun | 137 => 49 | 217 => 78 | 266 => 110 | n => n, fun | 9 => 9 | 5 => 5 | 3 => 3 | n => n, fun | n => n⟩
theorem Tryz.lays137 : Go.Proofs.Lays.n137 Tryz.prog Tryz.lays137_ren := {
  mixed := by kernel_rfl
  f137 := Tryz.func49.trans (congrArg some (by kernel_rfl))
  f217 := Tryz.func78.trans (congrArg some (by kernel_rfl))
  f266 := Tryz.func110.trans (congrArg some (by kernel_rfl))
  t3 := Tryz.underlying3
  a3 := Tryz.isAgg3
  z3 := Tryz.sizeOf3
  v3 := Tryz.zeroValue3
  t5 := Tryz.underlying5
  a5 := Tryz.isAgg5
  z5 := Tryz.sizeOf5
  v5 := Tryz.zeroValue5
  t9 := Tryz.underlying9
  a9 := Tryz.isAgg9
  z9 := Tryz.sizeOf9
  v9 := Tryz.zeroValue9 }
open Go.RowKit in
theorem Tryz.strings_IndexByte (s : ByteArray) (c : Int) (w : World) :
    Calls Tryz.prog 49 #[.string s, .int .u8 c] w fun e w' => e = .returned (.int .i64 (Lib.indexByte s.data.toList c.toNat.toUInt8)) ∧ w' = w := Any.strings_IndexByte Tryz.lays137 s c w
def Tryz.laysC245_ren : Go.Shelf.Ren := ⟨fun | 245 => 152 | 279 => 158 | 280 => 159 | 281 => 160 | 282 => 161 | 316 => 162 | 171 => 164 | 205 => 163 | 243 => 165 | 246 => 166 | 283 => 167 | 284 => 168 | 285 => 169 | 286 => 170 | 129 => 172 | 317 => 171 | 318 => 173 | 319 => 174 | 320 => 175 | 337 => 176 | 338 => 177 | n => n, fun | 9 => 9 | 3 => 3 | 75 => 60 | 167 => 138 | 4 => 4 | 168 => 140 | 210 => 144 | 37 => 55 | 0 => 0 | 127 => 77 | 145 => 148 | 143 => 146 | 2 => 2 | 171 => 150 | 53 => 121 | 5 => 5 | 173 => 153 | 212 => 156 | 51 => 134 | 20 => 20 | 213 => 157 | 46 => 125 | 232 => 160 | 233 => 161 | 80 => 63 | n => n, fun | 15 => 3 | 16 => 4 | 17 => 5 | 18 => 6 | 19 => 7 | n => n⟩
theorem Tryz.laysC245 : Go.Proofs.LaysC.n245 Tryz.prog Tryz.laysC245_ren := {
  mixed := by kernel_rfl
  f129 := Tryz.func172.trans (congrArg some (by kernel_rfl))
  f171 := Tryz.func164.trans (congrArg some (by kernel_rfl))
  f205 := Tryz.func163.trans (congrArg some (by kernel_rfl))
  f243 := Tryz.func165.trans (congrArg some (by kernel_rfl))
  f245 := Tryz.func152.trans (congrArg some (by kernel_rfl))
  f246 := Tryz.func166.trans (congrArg some (by kernel_rfl))
  f279 := Tryz.func158.trans (congrArg some (by kernel_rfl))
  f280 := Tryz.func159.trans (congrArg some (by kernel_rfl))
  f281 := Tryz.func160.trans (congrArg some (by kernel_rfl))
  f282 := Tryz.func161.trans (congrArg some (by kernel_rfl))
  f283 := Tryz.func167.trans (congrArg some (by kernel_rfl))
  f284 := Tryz.func168.trans (congrArg some (by kernel_rfl))
  f285 := Tryz.func169.trans (congrArg some (by kernel_rfl))
  f286 := Tryz.func170.trans (congrArg some (by kernel_rfl))
  f316 := Tryz.func162.trans (congrArg some (by kernel_rfl))
  f317 := Tryz.func171.trans (congrArg some (by kernel_rfl))
  f318 := Tryz.func173.trans (congrArg some (by kernel_rfl))
  f319 := Tryz.func174.trans (congrArg some (by kernel_rfl))
  f320 := Tryz.func175.trans (congrArg some (by kernel_rfl))
  f337 := Tryz.func176.trans (congrArg some (by kernel_rfl))
  f338 := Tryz.func177.trans (congrArg some (by kernel_rfl))
  t0 := Tryz.underlying0
  a0 := Tryz.isAgg0
  z0 := Tryz.sizeOf0
  v0 := Tryz.zeroValue0
  t2 := Tryz.underlying2
  a2 := Tryz.isAgg2
  z2 := Tryz.sizeOf2
  v2 := Tryz.zeroValue2
  t3 := Tryz.underlying3
  a3 := Tryz.isAgg3
  z3 := Tryz.sizeOf3
  v3 := Tryz.zeroValue3
  t4 := Tryz.underlying4
  a4 := Tryz.isAgg4
  z4 := Tryz.sizeOf4
  v4 := Tryz.zeroValue4
  t5 := Tryz.underlying5
  a5 := Tryz.isAgg5
  z5 := Tryz.sizeOf5
  v5 := Tryz.zeroValue5
  t9 := Tryz.underlying9
  a9 := Tryz.isAgg9
  z9 := Tryz.sizeOf9
  v9 := Tryz.zeroValue9
  t20 := Tryz.underlying20
  a20 := Tryz.isAgg20
  z20 := Tryz.sizeOf20
  v20 := Tryz.zeroValue20
  t37 := Tryz.underlying55
  a37 := Tryz.isAgg55
  z37 := Tryz.sizeOf55
  v37 := Tryz.zeroValue55
  t46 := Tryz.underlying125
  a46 := Tryz.isAgg125
  z46 := Tryz.sizeOf125
  v46 := Tryz.zeroValue125
  t51 := Tryz.underlying134
  a51 := Tryz.isAgg134
  z51 := Tryz.sizeOf134
  v51 := Tryz.zeroValue134
  t53 := Tryz.underlying121
  a53 := Tryz.isAgg121
  z53 := Tryz.sizeOf121
  v53 := Tryz.zeroValue121
  t75 := Tryz.underlying60
  a75 := Tryz.isAgg60
  z75 := Tryz.sizeOf60
  v75 := Tryz.zeroValue60
  t127 := Tryz.underlying77
  a127 := Tryz.isAgg77
  z127 := Tryz.sizeOf77
  v127 := Tryz.zeroValue77
  t143 := Tryz.underlying146
  a143 := Tryz.isAgg146
  z143 := Tryz.sizeOf146
  v143 := Tryz.zeroValue146
  t145 := Tryz.underlying148
  a145 := Tryz.isAgg148
  z145 := Tryz.sizeOf148
  v145 := Tryz.zeroValue148
  t167 := Tryz.underlying138
  a167 := Tryz.isAgg138
  z167 := Tryz.sizeOf138
  v167 := Tryz.zeroValue138
  t168 := Tryz.underlying140
  a168 := Tryz.isAgg140
  z168 := Tryz.sizeOf140
  v168 := Tryz.zeroValue140
  t171 := Tryz.underlying150
  a171 := Tryz.isAgg150
  z171 := Tryz.sizeOf150
  v171 := Tryz.zeroValue150
  t173 := Tryz.underlying153
  a173 := Tryz.isAgg153
  z173 := Tryz.sizeOf153
  v173 := Tryz.zeroValue153
  t210 := Tryz.underlying144
  a210 := Tryz.isAgg144
  z210 := Tryz.sizeOf144
  v210 := Tryz.zeroValue144
  t212 := Tryz.underlying156
  a212 := Tryz.isAgg156
  z212 := Tryz.sizeOf156
  v212 := Tryz.zeroValue156
  t213 := Tryz.underlying157
  a213 := Tryz.isAgg157
  z213 := Tryz.sizeOf157
  t232 := Tryz.underlying160
  a232 := Tryz.isAgg160
  z232 := Tryz.sizeOf160
  v232 := Tryz.zeroValue160
  t233 := Tryz.underlying161
  a233 := Tryz.isAgg161
  z233 := Tryz.sizeOf161
  v233 := Tryz.zeroValue161
  g15 := by kernel_rfl
  g16 := by kernel_rfl
  g17 := by kernel_rfl
  g18 := by kernel_rfl
  g19 := by kernel_rfl
  t80 := Tryz.underlying63
  a80 := Tryz.isAgg63
  z80 := Tryz.sizeOf63
  v80 := Tryz.zeroValue63
  i0 := by kernel_rfl
  i2 := by kernel_rfl
  i3 := by kernel_rfl
  i4 := by kernel_rfl
  i5 := by kernel_rfl
  i9 := by kernel_rfl
  i20 := by kernel_rfl
  i37 := by kernel_rfl
  i46 := by kernel_rfl
  i51 := by kernel_rfl
  i53 := by kernel_rfl
  i75 := by kernel_rfl
  i80 := by kernel_rfl
  i127 := by kernel_rfl
  i143 := by kernel_rfl
  i145 := by kernel_rfl
  i167 := by kernel_rfl
  i168 := by kernel_rfl
  i171 := by kernel_rfl
  i173 := by kernel_rfl
  i210 := by kernel_rfl
  i212 := by kernel_rfl
  i232 := by kernel_rfl
  i233 := by kernel_rfl
  m15 := by kernel_rfl
  m16 := by kernel_rfl
  m17 := by kernel_rfl
  m18 := by kernel_rfl
  m19 := by kernel_rfl
  c0 := by kernel_rfl
  c2 := by kernel_rfl
  c3 := by kernel_rfl
  c4 := by kernel_rfl
  c5 := by kernel_rfl
  c9 := by kernel_rfl
  c20 := by kernel_rfl
  c37 := by kernel_rfl
  c46 := by kernel_rfl
  c51 := by kernel_rfl
  c53 := by kernel_rfl
  c75 := by kernel_rfl
  c80 := by kernel_rfl
  c127 := by kernel_rfl
  c143 := by kernel_rfl
  c145 := by kernel_rfl
  c167 := by kernel_rfl
  c168 := by kernel_rfl
  c171 := by kernel_rfl
  c173 := by kernel_rfl
  c210 := by kernel_rfl
  c212 := by kernel_rfl
  c213 := by kernel_rfl
  c232 := by kernel_rfl
  c233 := by kernel_rfl }
open Go.RowKit in
theorem Tryz.strconv_toError_syntax (fn s : ByteArray) (base bits : Int) (ev : Value) (w : World) (hlim : s.size ≤ 281474976710656) (hv : w.cell? ⟨3, 0, none⟩ = some ev) (hev : ev = .nilIface ∨ ∃ te pe, ev = .iface te pe) :
    Calls Tryz.prog 152 #[.string fn, .string s, .int .i64 base, .int .i64 bits, .iface 138 (.int .i64 2)] w fun e w' => ∃ N, e = .returned (.iface 140 (.pointer (some ⟨N, 0, none⟩))) ∧ w.heap.size ≤ N ∧ w'.heap[N]? = some (.cells #[.string fn, .string s, ev] 144 (0, 0)) ∧ Below w.heap.size w w' := Any.strconv_toError_syntax Tryz.laysC245 fn s base bits ev w hlim hv hev
def Tryz.lays321_ren : Go.Shelf.Ren := ⟨fun | 321 => 156 | n => n, fun | 5 => 5 | n => n, fun | n => n⟩
theorem Tryz.lays321 : Go.Proofs.Lays.n321 Tryz.prog Tryz.lays321_ren := {
  mixed := by kernel_rfl
  f321 := Tryz.func156.trans (congrArg some (by kernel_rfl))
  t5 := Tryz.underlying5
  a5 := Tryz.isAgg5
  z5 := Tryz.sizeOf5
  v5 := Tryz.zeroValue5 }
open Go.RowKit in
theorem Tryz.internal_strconv_lower (c : Int) (w : World) :
    Calls Tryz.prog 156 #[.int .u8 c] w fun e w' => e = .returned (.int .u8 (bits .or .u8 c 32)) ∧ w' = w := Any.internal_strconv_lower Tryz.lays321 c w
def Tryz.lays287_ren : Go.Shelf.Ren := ⟨fun | 287 => 151 | 321 => 156 | 322 => 157 | n => n, fun | 9 => 9 | 3 => 3 | 53 => 121 | 75 => 60 | 4 => 4 | 167 => 138 | 5 => 5 | 46 => 125 | 37 => 55 | 0 => 0 | 21 => 21 | 80 => 63 | n => n, fun | n => n⟩
theorem Tryz.lays287 : Go.Proofs.Lays.n287 Tryz.prog Tryz.lays287_ren := {
  mixed := by kernel_rfl
  f287 := Tryz.func151.trans (congrArg some (by kernel_rfl))
  f321 := Tryz.func156.trans (congrArg some (by kernel_rfl))
  f322 := Tryz.func157.trans (congrArg some (by kernel_rfl))
  t0 := Tryz.underlying0
  a0 := Tryz.isAgg0
  z0 := Tryz.sizeOf0
  v0 := Tryz.zeroValue0
  t3 := Tryz.underlying3
  a3 := Tryz.isAgg3
  z3 := Tryz.sizeOf3
  v3 := Tryz.zeroValue3
  t4 := Tryz.underlying4
  a4 := Tryz.isAgg4
  z4 := Tryz.sizeOf4
  v4 := Tryz.zeroValue4
  t5 := Tryz.underlying5
  a5 := Tryz.isAgg5
  z5 := Tryz.sizeOf5
  v5 := Tryz.zeroValue5
  t9 := Tryz.underlying9
  a9 := Tryz.isAgg9
  z9 := Tryz.sizeOf9
  v9 := Tryz.zeroValue9
  t21 := Tryz.underlying21
  a21 := Tryz.isAgg21
  z21 := Tryz.sizeOf21
  v21 := Tryz.zeroValue21
  t37 := Tryz.underlying55
  a37 := Tryz.isAgg55
  z37 := Tryz.sizeOf55
  v37 := Tryz.zeroValue55
  t46 := Tryz.underlying125
  a46 := Tryz.isAgg125
  z46 := Tryz.sizeOf125
  v46 := Tryz.zeroValue125
  t53 := Tryz.underlying121
  a53 := Tryz.isAgg121
  z53 := Tryz.sizeOf121
  v53 := Tryz.zeroValue121
  t75 := Tryz.underlying60
  a75 := Tryz.isAgg60
  z75 := Tryz.sizeOf60
  v75 := Tryz.zeroValue60
  t167 := Tryz.underlying138
  a167 := Tryz.isAgg138
  z167 := Tryz.sizeOf138
  v167 := Tryz.zeroValue138 }
open Go.RowKit in
theorem Tryz.internal_strconv_ParseUint_empty (base bits : Int) (w : World) :
    Calls Tryz.prog 151 #[.string ⟨#[]⟩, .int .i64 base, .int .i64 bits] w fun e w' => e = .returned (.tuple #[.int .u64 0, .iface 138 (.int .i64 2)]) ∧ w' = w := Any.internal_strconv_ParseUint_empty Tryz.lays287 base bits w
def Tryz.lays219_ren : Go.Shelf.Ren := ⟨fun | 219 => 126 | 217 => 78 | 225 => 141 | 224 => 142 | 267 => 143 | 266 => 110 | 314 => 153 | n => n, fun | 9 => 9 | 3 => 3 | 4 => 4 | 5 => 5 | 46 => 125 | 146 => 135 | 51 => 134 | n => n, fun | 1 => 0 | n => n⟩
theorem Tryz.lays219 : Go.Proofs.Lays.n219 Tryz.prog Tryz.lays219_ren := {
  mixed := by kernel_rfl
  f217 := Tryz.func78.trans (congrArg some (by kernel_rfl))
  f219 := Tryz.func126.trans (congrArg some (by kernel_rfl))
  f224 := Tryz.func142.trans (congrArg some (by kernel_rfl))
  f225 := Tryz.func141.trans (congrArg some (by kernel_rfl))
  f266 := Tryz.func110.trans (congrArg some (by kernel_rfl))
  f267 := Tryz.func143.trans (congrArg some (by kernel_rfl))
  f314 := Tryz.func153.trans (congrArg some (by kernel_rfl))
  t3 := Tryz.underlying3
  a3 := Tryz.isAgg3
  z3 := Tryz.sizeOf3
  v3 := Tryz.zeroValue3
  t4 := Tryz.underlying4
  a4 := Tryz.isAgg4
  z4 := Tryz.sizeOf4
  v4 := Tryz.zeroValue4
  t5 := Tryz.underlying5
  a5 := Tryz.isAgg5
  z5 := Tryz.sizeOf5
  v5 := Tryz.zeroValue5
  t9 := Tryz.underlying9
  a9 := Tryz.isAgg9
  z9 := Tryz.sizeOf9
  v9 := Tryz.zeroValue9
  t46 := Tryz.underlying125
  a46 := Tryz.isAgg125
  z46 := Tryz.sizeOf125
  v46 := Tryz.zeroValue125
  t51 := Tryz.underlying134
  a51 := Tryz.isAgg134
  z51 := Tryz.sizeOf134
  v51 := Tryz.zeroValue134
  t146 := Tryz.underlying135
  a146 := Tryz.isAgg135
  z146 := Tryz.sizeOf135
  v146 := Tryz.zeroValue135
  g1 := by kernel_rfl }
open Go.RowKit Go.Lib in
theorem Tryz.stringslite_Index_one (s : ByteArray) (c : UInt8) (w : World) :
    Calls Tryz.prog 126 #[.string s, .string ⟨#[c]⟩] w fun e w' => e = .returned (.int .i64 (Lib.indexByte s.data.toList c)) ∧ w' = w := Any.stringslite_Index_one Tryz.lays219 s c w
def Tryz.lays143_ren : Go.Shelf.Ren := ⟨fun | 143 => 108 | 219 => 126 | 217 => 78 | 225 => 141 | 224 => 142 | 267 => 143 | 266 => 110 | 314 => 153 | n => n, fun | 9 => 9 | 3 => 3 | 4 => 4 | 5 => 5 | 46 => 125 | 146 => 135 | 51 => 134 | n => n, fun | 1 => 0 | n => n⟩
theorem Tryz.lays143 : Go.Proofs.Lays.n143 Tryz.prog Tryz.lays143_ren := {
  mixed := by kernel_rfl
  f143 := Tryz.func108.trans (congrArg some (by kernel_rfl))
  f217 := Tryz.func78.trans (congrArg some (by kernel_rfl))
  f219 := Tryz.func126.trans (congrArg some (by kernel_rfl))
  f224 := Tryz.func142.trans (congrArg some (by kernel_rfl))
  f225 := Tryz.func141.trans (congrArg some (by kernel_rfl))
  f266 := Tryz.func110.trans (congrArg some (by kernel_rfl))
  f267 := Tryz.func143.trans (congrArg some (by kernel_rfl))
  f314 := Tryz.func153.trans (congrArg some (by kernel_rfl))
  t3 := Tryz.underlying3
  a3 := Tryz.isAgg3
  z3 := Tryz.sizeOf3
  v3 := Tryz.zeroValue3
  t4 := Tryz.underlying4
  a4 := Tryz.isAgg4
  z4 := Tryz.sizeOf4
  v4 := Tryz.zeroValue4
  t5 := Tryz.underlying5
  a5 := Tryz.isAgg5
  z5 := Tryz.sizeOf5
  v5 := Tryz.zeroValue5
  t9 := Tryz.underlying9
  a9 := Tryz.isAgg9
  z9 := Tryz.sizeOf9
  v9 := Tryz.zeroValue9
  t46 := Tryz.underlying125
  a46 := Tryz.isAgg125
  z46 := Tryz.sizeOf125
  v46 := Tryz.zeroValue125
  t51 := Tryz.underlying134
  a51 := Tryz.isAgg134
  z51 := Tryz.sizeOf134
  v51 := Tryz.zeroValue134
  t146 := Tryz.underlying135
  a146 := Tryz.isAgg135
  z146 := Tryz.sizeOf135
  v146 := Tryz.zeroValue135
  g1 := by kernel_rfl }
open Go.RowKit Go.Lib in
theorem Tryz.strings_Index (s sub : ByteArray) (m : Int) (w : World) (hs : s.size < 4294967281) (hm : w.cell? ⟨0, 0, none⟩ = some (.int .i64 m)) :
    Calls Tryz.prog 108 #[.string s, .string sub] w fun e w' => e = .returned (.int .i64 (Lib.index s.data.toList sub.data.toList)) ∧ w' = w := Any.strings_Index Tryz.lays143 s sub m w hs hm
def Tryz.lays149_ren : Go.Shelf.Ren := ⟨fun | 149 => 150 | 222 => 155 | n => n, fun | 9 => 9 | 5 => 5 | 3 => 3 | 4 => 4 | n => n, fun | n => n⟩
theorem Tryz.lays149 : Go.Proofs.Lays.n149 Tryz.prog Tryz.lays149_ren := {
  mixed := by kernel_rfl
  f149 := Tryz.func150.trans (congrArg some (by kernel_rfl))
  f222 := Tryz.func155.trans (congrArg some (by kernel_rfl))
  t3 := Tryz.underlying3
  a3 := Tryz.isAgg3
  z3 := Tryz.sizeOf3
  v3 := Tryz.zeroValue3
  t4 := Tryz.underlying4
  a4 := Tryz.isAgg4
  z4 := Tryz.sizeOf4
  v4 := Tryz.zeroValue4
  t5 := Tryz.underlying5
  a5 := Tryz.isAgg5
  z5 := Tryz.sizeOf5
  v5 := Tryz.zeroValue5
  t9 := Tryz.underlying9
  a9 := Tryz.isAgg9
  z9 := Tryz.sizeOf9
  v9 := Tryz.zeroValue9 }
open Go.RowKit Go.Lib in
theorem Tryz.strings_LastIndexByte (s : ByteArray) (c : Int) (hs : s.size < 4611686018427387904) (w : World) :
    Calls Tryz.prog 150 #[.string s, .int .u8 c] w fun e w' => e = .returned (.int .i64 (Lib.lastIndexByte s c)) ∧ w' = w := Any.strings_LastIndexByte Tryz.lays149 s c hs w
def Tryz.lays100_ren : Go.Shelf.Ren := ⟨fun | 100 => 119 | 207 => 140 | n => n, fun | 9 => 9 | 4 => 4 | 3 => 3 | n => n, fun | n => n⟩
theorem Tryz.lays100 : Go.Proofs.Lays.n100 Tryz.prog Tryz.lays100_ren := {
  mixed := by kernel_rfl
  f100 := Tryz.func119.trans (congrArg some (by kernel_rfl))
  f207 := Tryz.func140.trans (congrArg some (by kernel_rfl))
  t3 := Tryz.underlying3
  a3 := Tryz.isAgg3
  z3 := Tryz.sizeOf3
  v3 := Tryz.zeroValue3
  t4 := Tryz.underlying4
  a4 := Tryz.isAgg4
  z4 := Tryz.sizeOf4
  v4 := Tryz.zeroValue4
  t9 := Tryz.underlying9
  a9 := Tryz.isAgg9
  z9 := Tryz.sizeOf9
  v9 := Tryz.zeroValue9 }
open Go.RowKit Go.Lib in
theorem Tryz.strings_HasSuffix (s p : ByteArray) (w : World) (hs : s.size ≤ 9223372036854775807) :
    Calls Tryz.prog 119 #[.string s, .string p] w fun e w' => e = .returned (.bool (Lib.hasSuffix s.data.toList p.data.toList)) ∧ w' = w := Any.strings_HasSuffix Tryz.lays100 s p w hs
def Tryz.lays155_ren : Go.Shelf.Ren := ⟨fun | 155 => 48 | 154 => 77 | 138 => 106 | 165 => 107 | 143 => 108 | 166 => 50 | 197 => 109 | 169 => 51 | 195 => 133 | 218 => 134 | 240 => 79 | 241 => 135 | 219 => 126 | 260 => 136 | 276 => 111 | 277 => 149 | 217 => 78 | 225 => 141 | 224 => 142 | 267 => 143 | 266 => 110 | 314 => 153 | n => n, fun | 9 => 9 | 3 => 3 | 4 => 4 | 72 => 57 | 0 => 0 | 76 => 61 | 105 => 104 | 21 => 21 | 5 => 5 | 70 => 54 | 20 => 20 | 37 => 55 | 75 => 60 | 127 => 77 | 164 => 106 | 46 => 125 | 119 => 129 | 139 => 132 | 138 => 131 | 146 => 135 | 51 => 134 | 80 => 63 | n => n, fun | 1 => 0 | 3 => 1 | 4 => 2 | n => n⟩
theorem Tryz.lays155 : Go.Proofs.Lays.n155 Tryz.prog Tryz.lays155_ren := {
  mixed := by kernel_rfl
  f138 := Tryz.func106.trans (congrArg some (by kernel_rfl))
  f143 := Tryz.func108.trans (congrArg some (by kernel_rfl))
  f154 := Tryz.func77.trans (congrArg some (by kernel_rfl))
  f155 := Tryz.func48.trans (congrArg some (by kernel_rfl))
  f165 := Tryz.func107.trans (congrArg some (by kernel_rfl))
  f166 := Tryz.func50.trans (congrArg some (by kernel_rfl))
  f169 := Tryz.func51.trans (congrArg some (by kernel_rfl))
  f195 := Tryz.func133.trans (congrArg some (by kernel_rfl))
  f197 := Tryz.func109.trans (congrArg some (by kernel_rfl))
  f217 := Tryz.func78.trans (congrArg some (by kernel_rfl))
  f218 := Tryz.func134.trans (congrArg some (by kernel_rfl))
  f219 := Tryz.func126.trans (congrArg some (by kernel_rfl))
  f224 := Tryz.func142.trans (congrArg some (by kernel_rfl))
  f225 := Tryz.func141.trans (congrArg some (by kernel_rfl))
  f240 := Tryz.func79.trans (congrArg some (by kernel_rfl))
  f241 := Tryz.func135.trans (congrArg some (by kernel_rfl))
  f260 := Tryz.func136.trans (congrArg some (by kernel_rfl))
  f266 := Tryz.func110.trans (congrArg some (by kernel_rfl))
  f267 := Tryz.func143.trans (congrArg some (by kernel_rfl))
  f276 := Tryz.func111.trans (congrArg some (by kernel_rfl))
  f277 := Tryz.func149.trans (congrArg some (by kernel_rfl))
  f314 := Tryz.func153.trans (congrArg some (by kernel_rfl))
  t0 := Tryz.underlying0
  a0 := Tryz.isAgg0
  z0 := Tryz.sizeOf0
  v0 := Tryz.zeroValue0
  t3 := Tryz.underlying3
  a3 := Tryz.isAgg3
  z3 := Tryz.sizeOf3
  v3 := Tryz.zeroValue3
  t4 := Tryz.underlying4
  a4 := Tryz.isAgg4
  z4 := Tryz.sizeOf4
  v4 := Tryz.zeroValue4
  t5 := Tryz.underlying5
  a5 := Tryz.isAgg5
  z5 := Tryz.sizeOf5
  v5 := Tryz.zeroValue5
  t9 := Tryz.underlying9
  a9 := Tryz.isAgg9
  z9 := Tryz.sizeOf9
  v9 := Tryz.zeroValue9
  t20 := Tryz.underlying20
  a20 := Tryz.isAgg20
  z20 := Tryz.sizeOf20
  v20 := Tryz.zeroValue20
  t21 := Tryz.underlying21
  a21 := Tryz.isAgg21
  z21 := Tryz.sizeOf21
  v21 := Tryz.zeroValue21
  t37 := Tryz.underlying55
  a37 := Tryz.isAgg55
  z37 := Tryz.sizeOf55
  v37 := Tryz.zeroValue55
  t46 := Tryz.underlying125
  a46 := Tryz.isAgg125
  z46 := Tryz.sizeOf125
  v46 := Tryz.zeroValue125
  t51 := Tryz.underlying134
  a51 := Tryz.isAgg134
  z51 := Tryz.sizeOf134
  v51 := Tryz.zeroValue134
  t70 := Tryz.underlying54
  a70 := Tryz.isAgg54
  z70 := Tryz.sizeOf54
  v70 := Tryz.zeroValue54
  t72 := Tryz.underlying57
  a72 := Tryz.isAgg57
  z72 := Tryz.sizeOf57
  v72 := Tryz.zeroValue57
  t75 := Tryz.underlying60
  a75 := Tryz.isAgg60
  z75 := Tryz.sizeOf60
  v75 := Tryz.zeroValue60
  t76 := Tryz.underlying61
  a76 := Tryz.isAgg61
  z76 := Tryz.sizeOf61
  v76 := Tryz.zeroValue61
  t105 := Tryz.underlying104
  a105 := Tryz.isAgg104
  z105 := Tryz.sizeOf104
  v105 := Tryz.zeroValue104
  t119 := Tryz.underlying129
  a119 := Tryz.isAgg129
  z119 := Tryz.sizeOf129
  t127 := Tryz.underlying77
  a127 := Tryz.isAgg77
  z127 := Tryz.sizeOf77
  v127 := Tryz.zeroValue77
  t138 := Tryz.underlying131
  a138 := Tryz.isAgg131
  z138 := Tryz.sizeOf131
  v138 := Tryz.zeroValue131
  t139 := Tryz.underlying132
  a139 := Tryz.isAgg132
  z139 := Tryz.sizeOf132
  v139 := Tryz.zeroValue132
  t146 := Tryz.underlying135
  a146 := Tryz.isAgg135
  z146 := Tryz.sizeOf135
  v146 := Tryz.zeroValue135
  t164 := Tryz.underlying106
  a164 := Tryz.isAgg106
  z164 := Tryz.sizeOf106
  v164 := Tryz.zeroValue106
  g1 := by kernel_rfl
  g3 := by kernel_rfl
  g4 := by kernel_rfl }
theorem Tryz.Builder_Extra_155 : Builder.Extra Tryz.prog Tryz.lays155_ren := {
  sizeBuilder := by kernel_rfl
  liesBuilder := by kernel_rfl
  t5 := Tryz.underlying5
  a5 := Tryz.isAgg5
  z5 := Tryz.sizeOf5
  v5 := Tryz.zeroValue5
  infoByte := by kernel_rfl
  cellsByte := by kernel_rfl
  sizeByte := by kernel_rfl
  neB5 := by decide }
open Go.RowKit Go.Lib in
theorem Tryz.strings_ReplaceAll (s old new : ByteArray) (m : Int) (w : World) (hs : s.size < 4294967281) (hm : w.cell? ⟨0, 0, none⟩ = some (.int .i64 m)) (h1 : 1 ≤ old.size) (hlen : s.size + Lib.countB s old * new.size ≤ 140737488355328) :
    Calls Tryz.prog 48 #[.string s, .string old, .string new] w fun e w' =>
      e = .returned (.string ⟨(Lib.replaceAll s.data.toList old.data.toList new.data.toList).toArray⟩) ∧ Below w.heap.size w w' := Any.strings_ReplaceAll Tryz.lays155 Tryz.Builder_Extra_155 s old new m w hs hm h1 hlen
end Go.Proofs
