-- pruned2
/-
  DERIVED: THE SHELF's CONTRACTS AT THIS DUMP, IN PLAIN WORDS (tools/lay-plain.mjs out of 'TryzShelf.lean', which tools/lay-shelf.mjs wrote): THE SAME DECLARATIONS UNDER THE SAME NAMES: 'import', 'namespace', 'open', 'def', 'theorem' AND NOTHING ELSE: no command of the shelf's: FOR A HAND-IN. Each laying: the table of numbers ('.._ren') and one theorem, a field a fact of the dump's own or the kernel's comparison; each contract: ONE APPLICATION.
-/
import Derived.Shelf.Strings.Builder1
import Derived.Shelf.Strings.Builder2
import Derived.Shelf.Small.Strs
import Derived.Shelf.Utf8.RuneCount
import Derived.Shelf.LaysM
import Derived.Shelf.Strconv.Clone
import Derived.Shelf.Strconv.SyntaxError
import Derived.Shelf.LaysC
import Derived.Shelf.Strconv.ToError
import Derived.Shelf.Strconv.Lower
import Derived.Shelf.Strconv.ParseUintEmpty
import Derived.Shelf.Strings.Search1
import Derived.Shelf.Strings.Search2
import Derived.Shelf.Strings.Search3
import Derived.Shelf.Strings.Cut
import Derived.Shelf.Strings.Count
import Derived.Shelf.Strings.Shaped
import Derived.Shelf.Strings.LastIndex
import Derived.Shelf.Strings.Prefix
import Derived.Shelf.Strings.Split
import Derived.Shelf.Strings.Replace
import Derived.Shelf.Strings.SplitShaped
import Derived.Shelf.Unicode.Decode
import Derived.Shelf.Strings.RuneCount
import Derived.Shelf.Unicode.DecodeSlow
import Derived.Shelf.Unicode.DecodeAny
import Derived.Test.YtmokjaddbmcopaaGreatDoorProg
namespace Go.Proofs
open Go.Shelf
def Tryz.lays169_ren : Go.Shelf.Ren := ⟨fun | 169 => 58 | n => n, fun | 70 => 74 | 9 => 9 | 0 => 0 | 72 => 76 | 37 => 66 | 127 => 91 | 3 => 3 | 5 => 5 | n => n, fun | n => n⟩
theorem Tryz.lays169 : Go.Proofs.Lays.n169 Tryz.prog Tryz.lays169_ren := {
  mixed := by kernel_rfl
  f169 := Tryz.func58.trans (congrArg some (by kernel_rfl))
  t0 := Tryz.underlying0
  a0 := Tryz.isAgg0
  z0 := Tryz.sizeOf0
  v0 := Tryz.zeroValue0
  t3 := Tryz.underlying3
  a3 := Tryz.isAgg3
  z3 := Tryz.sizeOf3
  v3 := Tryz.zeroValue3
  t9 := Tryz.underlying9
  a9 := Tryz.isAgg9
  z9 := Tryz.sizeOf9
  v9 := Tryz.zeroValue9
  t37 := Tryz.underlying66
  a37 := Tryz.isAgg66
  z37 := Tryz.sizeOf66
  v37 := Tryz.zeroValue66
  t70 := Tryz.underlying74
  a70 := Tryz.isAgg74
  z70 := Tryz.sizeOf74
  v70 := Tryz.zeroValue74
  t72 := Tryz.underlying76
  a72 := Tryz.isAgg76
  z72 := Tryz.sizeOf76
  v72 := Tryz.zeroValue76
  t127 := Tryz.underlying91
  a127 := Tryz.isAgg91
  z127 := Tryz.sizeOf91
  v127 := Tryz.zeroValue91 }
theorem Tryz.Builder_Extra_169 : Builder.Extra Tryz.prog Tryz.lays169_ren := {
  sizeBuilder := by kernel_rfl
  liesBuilder := by kernel_rfl
  t5 := Tryz.underlying5
  a5 := Tryz.isAgg5
  z5 := Tryz.sizeOf5
  v5 := Tryz.zeroValue5
  infoByte := by kernel_rfl
  cellsByte := by kernel_rfl
  sizeByte := by kernel_rfl
  neB5 := by decide }
open Go.RowKit in
theorem Tryz.Builder_String_any (B b : Nat) (l : List UInt8) (w : World) (h : Lib.IsBuilder 76 5 B b (Lib.byteCells l) w) (hBw : B ≤ w.heap.size) :
    Calls Tryz.prog 58 #[.pointer (some ⟨b, 0, none⟩)] w fun e w' => e = .returned (.string ⟨l.toArray⟩) ∧ Below B w w' := Any.Builder_String_any Tryz.lays169 Tryz.Builder_Extra_169 B b l w h hBw
def Tryz.lays137_ren : Go.Shelf.Ren := ⟨fun | 137 => 55 | 217 => 71 | 266 => 92 | n => n, fun | 9 => 9 | 5 => 5 | 3 => 3 | n => n, fun | n => n⟩
theorem Tryz.lays137 : Go.Proofs.Lays.n137 Tryz.prog Tryz.lays137_ren := {
  mixed := by kernel_rfl
  f137 := Tryz.func55.trans (congrArg some (by kernel_rfl))
  f217 := Tryz.func71.trans (congrArg some (by kernel_rfl))
  f266 := Tryz.func92.trans (congrArg some (by kernel_rfl))
  t3 := Tryz.underlying3
  a3 := Tryz.isAgg3
  z3 := Tryz.sizeOf3
  v3 := Tryz.zeroValue3
  t5 := Tryz.underlying5
  a5 := Tryz.isAgg5
  z5 := Tryz.sizeOf5
  v5 := Tryz.zeroValue5
  t9 := Tryz.underlying9
  a9 := Tryz.isAgg9
  z9 := Tryz.sizeOf9
  v9 := Tryz.zeroValue9 }
open Go.RowKit in
theorem Tryz.strings_IndexByte (s : ByteArray) (c : Int) (w : World) :
    Calls Tryz.prog 55 #[.string s, .int .u8 c] w fun e w' => e = .returned (.int .i64 (Lib.indexByte s.data.toList c.toNat.toUInt8)) ∧ w' = w := Any.strings_IndexByte Tryz.lays137 s c w
def Tryz.laysC245_ren : Go.Shelf.Ren := ⟨fun | 245 => 132 | 279 => 138 | 280 => 139 | 281 => 140 | 282 => 141 | 316 => 142 | 171 => 144 | 205 => 143 | 243 => 145 | 246 => 146 | 283 => 147 | 284 => 148 | 285 => 149 | 286 => 150 | 129 => 152 | 317 => 151 | 318 => 153 | 319 => 154 | 320 => 155 | 337 => 156 | 338 => 157 | n => n, fun | 9 => 9 | 3 => 3 | 75 => 78 | 167 => 139 | 4 => 4 | 168 => 141 | 210 => 145 | 37 => 66 | 0 => 0 | 127 => 91 | 145 => 149 | 143 => 147 | 2 => 2 | 171 => 151 | 53 => 122 | 5 => 5 | 173 => 154 | 212 => 157 | 51 => 135 | 20 => 20 | 213 => 158 | 46 => 127 | 232 => 161 | 233 => 162 | 80 => 81 | n => n, fun | 15 => 3 | 16 => 4 | 17 => 5 | 18 => 6 | 19 => 7 | n => n⟩
theorem Tryz.laysC245 : Go.Proofs.LaysC.n245 Tryz.prog Tryz.laysC245_ren := {
  mixed := by kernel_rfl
  f129 := Tryz.func152.trans (congrArg some (by kernel_rfl))
  f171 := Tryz.func144.trans (congrArg some (by kernel_rfl))
  f205 := Tryz.func143.trans (congrArg some (by kernel_rfl))
  f243 := Tryz.func145.trans (congrArg some (by kernel_rfl))
  f245 := Tryz.func132.trans (congrArg some (by kernel_rfl))
  f246 := Tryz.func146.trans (congrArg some (by kernel_rfl))
  f279 := Tryz.func138.trans (congrArg some (by kernel_rfl))
  f280 := Tryz.func139.trans (congrArg some (by kernel_rfl))
  f281 := Tryz.func140.trans (congrArg some (by kernel_rfl))
  f282 := Tryz.func141.trans (congrArg some (by kernel_rfl))
  f283 := Tryz.func147.trans (congrArg some (by kernel_rfl))
  f284 := Tryz.func148.trans (congrArg some (by kernel_rfl))
  f285 := Tryz.func149.trans (congrArg some (by kernel_rfl))
  f286 := Tryz.func150.trans (congrArg some (by kernel_rfl))
  f316 := Tryz.func142.trans (congrArg some (by kernel_rfl))
  f317 := Tryz.func151.trans (congrArg some (by kernel_rfl))
  f318 := Tryz.func153.trans (congrArg some (by kernel_rfl))
  f319 := Tryz.func154.trans (congrArg some (by kernel_rfl))
  f320 := Tryz.func155.trans (congrArg some (by kernel_rfl))
  f337 := Tryz.func156.trans (congrArg some (by kernel_rfl))
  f338 := Tryz.func157.trans (congrArg some (by kernel_rfl))
  t0 := Tryz.underlying0
  a0 := Tryz.isAgg0
  z0 := Tryz.sizeOf0
  v0 := Tryz.zeroValue0
  t2 := Tryz.underlying2
  a2 := Tryz.isAgg2
  z2 := Tryz.sizeOf2
  v2 := Tryz.zeroValue2
  t3 := Tryz.underlying3
  a3 := Tryz.isAgg3
  z3 := Tryz.sizeOf3
  v3 := Tryz.zeroValue3
  t4 := Tryz.underlying4
  a4 := Tryz.isAgg4
  z4 := Tryz.sizeOf4
  v4 := Tryz.zeroValue4
  t5 := Tryz.underlying5
  a5 := Tryz.isAgg5
  z5 := Tryz.sizeOf5
  v5 := Tryz.zeroValue5
  t9 := Tryz.underlying9
  a9 := Tryz.isAgg9
  z9 := Tryz.sizeOf9
  v9 := Tryz.zeroValue9
  t20 := Tryz.underlying20
  a20 := Tryz.isAgg20
  z20 := Tryz.sizeOf20
  v20 := Tryz.zeroValue20
  t37 := Tryz.underlying66
  a37 := Tryz.isAgg66
  z37 := Tryz.sizeOf66
  v37 := Tryz.zeroValue66
  t46 := Tryz.underlying127
  a46 := Tryz.isAgg127
  z46 := Tryz.sizeOf127
  v46 := Tryz.zeroValue127
  t51 := Tryz.underlying135
  a51 := Tryz.isAgg135
  z51 := Tryz.sizeOf135
  v51 := Tryz.zeroValue135
  t53 := Tryz.underlying122
  a53 := Tryz.isAgg122
  z53 := Tryz.sizeOf122
  v53 := Tryz.zeroValue122
  t75 := Tryz.underlying78
  a75 := Tryz.isAgg78
  z75 := Tryz.sizeOf78
  v75 := Tryz.zeroValue78
  t127 := Tryz.underlying91
  a127 := Tryz.isAgg91
  z127 := Tryz.sizeOf91
  v127 := Tryz.zeroValue91
  t143 := Tryz.underlying147
  a143 := Tryz.isAgg147
  z143 := Tryz.sizeOf147
  v143 := Tryz.zeroValue147
  t145 := Tryz.underlying149
  a145 := Tryz.isAgg149
  z145 := Tryz.sizeOf149
  v145 := Tryz.zeroValue149
  t167 := Tryz.underlying139
  a167 := Tryz.isAgg139
  z167 := Tryz.sizeOf139
  v167 := Tryz.zeroValue139
  t168 := Tryz.underlying141
  a168 := Tryz.isAgg141
  z168 := Tryz.sizeOf141
  v168 := Tryz.zeroValue141
  t171 := Tryz.underlying151
  a171 := Tryz.isAgg151
  z171 := Tryz.sizeOf151
  v171 := Tryz.zeroValue151
  t173 := Tryz.underlying154
  a173 := Tryz.isAgg154
  z173 := Tryz.sizeOf154
  v173 := Tryz.zeroValue154
  t210 := Tryz.underlying145
  a210 := Tryz.isAgg145
  z210 := Tryz.sizeOf145
  v210 := Tryz.zeroValue145
  t212 := Tryz.underlying157
  a212 := Tryz.isAgg157
  z212 := Tryz.sizeOf157
  v212 := Tryz.zeroValue157
  t213 := Tryz.underlying158
  a213 := Tryz.isAgg158
  z213 := Tryz.sizeOf158
  t232 := Tryz.underlying161
  a232 := Tryz.isAgg161
  z232 := Tryz.sizeOf161
  v232 := Tryz.zeroValue161
  t233 := Tryz.underlying162
  a233 := Tryz.isAgg162
  z233 := Tryz.sizeOf162
  v233 := Tryz.zeroValue162
  g15 := by kernel_rfl
  g16 := by kernel_rfl
  g17 := by kernel_rfl
  g18 := by kernel_rfl
  g19 := by kernel_rfl
  t80 := Tryz.underlying81
  a80 := Tryz.isAgg81
  z80 := Tryz.sizeOf81
  v80 := Tryz.zeroValue81
  i0 := by kernel_rfl
  i2 := by kernel_rfl
  i3 := by kernel_rfl
  i4 := by kernel_rfl
  i5 := by kernel_rfl
  i9 := by kernel_rfl
  i20 := by kernel_rfl
  i37 := by kernel_rfl
  i46 := by kernel_rfl
  i51 := by kernel_rfl
  i53 := by kernel_rfl
  i75 := by kernel_rfl
  i80 := by kernel_rfl
  i127 := by kernel_rfl
  i143 := by kernel_rfl
  i145 := by kernel_rfl
  i167 := by kernel_rfl
  i168 := by kernel_rfl
  i171 := by kernel_rfl
  i173 := by kernel_rfl
  i210 := by kernel_rfl
  i212 := by kernel_rfl
  i232 := by kernel_rfl
  i233 := by kernel_rfl
  m15 := by kernel_rfl
  m16 := by kernel_rfl
  m17 := by kernel_rfl
  m18 := by kernel_rfl
  m19 := by kernel_rfl
  c0 := by kernel_rfl
  c2 := by kernel_rfl
  c3 := by kernel_rfl
  c4 := by kernel_rfl
  c5 := by kernel_rfl
  c9 := by kernel_rfl
  c20 := by kernel_rfl
  c37 := by kernel_rfl
  c46 := by kernel_rfl
  c51 := by kernel_rfl
  c53 := by kernel_rfl
  c75 := by kernel_rfl
  c80 := by kernel_rfl
  c127 := by kernel_rfl
  c143 := by kernel_rfl
  c145 := by kernel_rfl
  c167 := by kernel_rfl
  c168 := by kernel_rfl
  c171 := by kernel_rfl
  c173 := by kernel_rfl
  c210 := by kernel_rfl
  c212 := by kernel_rfl
  c213 := by kernel_rfl
  c232 := by kernel_rfl
  c233 := by kernel_rfl }
open Go.RowKit in
theorem Tryz.strconv_toError_syntax (fn s : ByteArray) (base bits : Int) (ev : Value) (w : World) (hlim : s.size ≤ 281474976710656) (hv : w.cell? ⟨3, 0, none⟩ = some ev) (hev : ev = .nilIface ∨ ∃ te pe, ev = .iface te pe) :
    Calls Tryz.prog 132 #[.string fn, .string s, .int .i64 base, .int .i64 bits, .iface 139 (.int .i64 2)] w fun e w' => ∃ N, e = .returned (.iface 141 (.pointer (some ⟨N, 0, none⟩))) ∧ w.heap.size ≤ N ∧ w'.heap[N]? = some (.cells #[.string fn, .string s, ev] 145 (0, 0)) ∧ Below w.heap.size w w' := Any.strconv_toError_syntax Tryz.laysC245 fn s base bits ev w hlim hv hev
def Tryz.lays321_ren : Go.Shelf.Ren := ⟨fun | 321 => 136 | n => n, fun | 5 => 5 | n => n, fun | n => n⟩
theorem Tryz.lays321 : Go.Proofs.Lays.n321 Tryz.prog Tryz.lays321_ren := {
  mixed := by kernel_rfl
  f321 := Tryz.func136.trans (congrArg some (by kernel_rfl))
  t5 := Tryz.underlying5
  a5 := Tryz.isAgg5
  z5 := Tryz.sizeOf5
  v5 := Tryz.zeroValue5 }
open Go.RowKit in
theorem Tryz.internal_strconv_lower (c : Int) (w : World) :
    Calls Tryz.prog 136 #[.int .u8 c] w fun e w' => e = .returned (.int .u8 (bits .or .u8 c 32)) ∧ w' = w := Any.internal_strconv_lower Tryz.lays321 c w
def Tryz.lays287_ren : Go.Shelf.Ren := ⟨fun | 287 => 131 | 321 => 136 | 322 => 137 | n => n, fun | 9 => 9 | 3 => 3 | 53 => 122 | 75 => 78 | 4 => 4 | 167 => 139 | 5 => 5 | 46 => 127 | 37 => 66 | 0 => 0 | 21 => 21 | 80 => 81 | n => n, fun | n => n⟩
theorem Tryz.lays287 : Go.Proofs.Lays.n287 Tryz.prog Tryz.lays287_ren := {
  mixed := by kernel_rfl
  f287 := Tryz.func131.trans (congrArg some (by kernel_rfl))
  f321 := Tryz.func136.trans (congrArg some (by kernel_rfl))
  f322 := Tryz.func137.trans (congrArg some (by kernel_rfl))
  t0 := Tryz.underlying0
  a0 := Tryz.isAgg0
  z0 := Tryz.sizeOf0
  v0 := Tryz.zeroValue0
  t3 := Tryz.underlying3
  a3 := Tryz.isAgg3
  z3 := Tryz.sizeOf3
  v3 := Tryz.zeroValue3
  t4 := Tryz.underlying4
  a4 := Tryz.isAgg4
  z4 := Tryz.sizeOf4
  v4 := Tryz.zeroValue4
  t5 := Tryz.underlying5
  a5 := Tryz.isAgg5
  z5 := Tryz.sizeOf5
  v5 := Tryz.zeroValue5
  t9 := Tryz.underlying9
  a9 := Tryz.isAgg9
  z9 := Tryz.sizeOf9
  v9 := Tryz.zeroValue9
  t21 := Tryz.underlying21
  a21 := Tryz.isAgg21
  z21 := Tryz.sizeOf21
  v21 := Tryz.zeroValue21
  t37 := Tryz.underlying66
  a37 := Tryz.isAgg66
  z37 := Tryz.sizeOf66
  v37 := Tryz.zeroValue66
  t46 := Tryz.underlying127
  a46 := Tryz.isAgg127
  z46 := Tryz.sizeOf127
  v46 := Tryz.zeroValue127
  t53 := Tryz.underlying122
  a53 := Tryz.isAgg122
  z53 := Tryz.sizeOf122
  v53 := Tryz.zeroValue122
  t75 := Tryz.underlying78
  a75 := Tryz.isAgg78
  z75 := Tryz.sizeOf78
  v75 := Tryz.zeroValue78
  t167 := Tryz.underlying139
  a167 := Tryz.isAgg139
  z167 := Tryz.sizeOf139
  v167 := Tryz.zeroValue139 }
open Go.RowKit in
theorem Tryz.internal_strconv_ParseUint_empty (base bits : Int) (w : World) :
    Calls Tryz.prog 131 #[.string ⟨#[]⟩, .int .i64 base, .int .i64 bits] w fun e w' => e = .returned (.tuple #[.int .u64 0, .iface 139 (.int .i64 2)]) ∧ w' = w := Any.internal_strconv_ParseUint_empty Tryz.lays287 base bits w
def Tryz.lays219_ren : Go.Shelf.Ren := ⟨fun | 219 => 107 | 217 => 71 | 225 => 122 | 224 => 123 | 267 => 124 | 266 => 92 | 314 => 133 | n => n, fun | 9 => 9 | 3 => 3 | 4 => 4 | 5 => 5 | 46 => 127 | 146 => 136 | 51 => 135 | n => n, fun | 1 => 0 | n => n⟩
theorem Tryz.lays219 : Go.Proofs.Lays.n219 Tryz.prog Tryz.lays219_ren := {
  mixed := by kernel_rfl
  f217 := Tryz.func71.trans (congrArg some (by kernel_rfl))
  f219 := Tryz.func107.trans (congrArg some (by kernel_rfl))
  f224 := Tryz.func123.trans (congrArg some (by kernel_rfl))
  f225 := Tryz.func122.trans (congrArg some (by kernel_rfl))
  f266 := Tryz.func92.trans (congrArg some (by kernel_rfl))
  f267 := Tryz.func124.trans (congrArg some (by kernel_rfl))
  f314 := Tryz.func133.trans (congrArg some (by kernel_rfl))
  t3 := Tryz.underlying3
  a3 := Tryz.isAgg3
  z3 := Tryz.sizeOf3
  v3 := Tryz.zeroValue3
  t4 := Tryz.underlying4
  a4 := Tryz.isAgg4
  z4 := Tryz.sizeOf4
  v4 := Tryz.zeroValue4
  t5 := Tryz.underlying5
  a5 := Tryz.isAgg5
  z5 := Tryz.sizeOf5
  v5 := Tryz.zeroValue5
  t9 := Tryz.underlying9
  a9 := Tryz.isAgg9
  z9 := Tryz.sizeOf9
  v9 := Tryz.zeroValue9
  t46 := Tryz.underlying127
  a46 := Tryz.isAgg127
  z46 := Tryz.sizeOf127
  v46 := Tryz.zeroValue127
  t51 := Tryz.underlying135
  a51 := Tryz.isAgg135
  z51 := Tryz.sizeOf135
  v51 := Tryz.zeroValue135
  t146 := Tryz.underlying136
  a146 := Tryz.isAgg136
  z146 := Tryz.sizeOf136
  v146 := Tryz.zeroValue136
  g1 := by kernel_rfl }
open Go.RowKit Go.Lib in
theorem Tryz.stringslite_Index_one (s : ByteArray) (c : UInt8) (w : World) :
    Calls Tryz.prog 107 #[.string s, .string ⟨#[c]⟩] w fun e w' => e = .returned (.int .i64 (Lib.indexByte s.data.toList c)) ∧ w' = w := Any.stringslite_Index_one Tryz.lays219 s c w
def Tryz.lays149_ren : Go.Shelf.Ren := ⟨fun | 149 => 130 | 222 => 135 | n => n, fun | 9 => 9 | 5 => 5 | 3 => 3 | 4 => 4 | n => n, fun | n => n⟩
theorem Tryz.lays149 : Go.Proofs.Lays.n149 Tryz.prog Tryz.lays149_ren := {
  mixed := by kernel_rfl
  f149 := Tryz.func130.trans (congrArg some (by kernel_rfl))
  f222 := Tryz.func135.trans (congrArg some (by kernel_rfl))
  t3 := Tryz.underlying3
  a3 := Tryz.isAgg3
  z3 := Tryz.sizeOf3
  v3 := Tryz.zeroValue3
  t4 := Tryz.underlying4
  a4 := Tryz.isAgg4
  z4 := Tryz.sizeOf4
  v4 := Tryz.zeroValue4
  t5 := Tryz.underlying5
  a5 := Tryz.isAgg5
  z5 := Tryz.sizeOf5
  v5 := Tryz.zeroValue5
  t9 := Tryz.underlying9
  a9 := Tryz.isAgg9
  z9 := Tryz.sizeOf9
  v9 := Tryz.zeroValue9 }
open Go.RowKit Go.Lib in
theorem Tryz.strings_LastIndexByte (s : ByteArray) (c : Int) (hs : s.size < 4611686018427387904) (w : World) :
    Calls Tryz.prog 130 #[.string s, .int .u8 c] w fun e w' => e = .returned (.int .i64 (Lib.lastIndexByte s c)) ∧ w' = w := Any.strings_LastIndexByte Tryz.lays149 s c hs w
def Tryz.lays100_ren : Go.Shelf.Ren := ⟨fun | 100 => 101 | 207 => 120 | n => n, fun | 9 => 9 | 4 => 4 | 3 => 3 | n => n, fun | n => n⟩
theorem Tryz.lays100 : Go.Proofs.Lays.n100 Tryz.prog Tryz.lays100_ren := {
  mixed := by kernel_rfl
  f100 := Tryz.func101.trans (congrArg some (by kernel_rfl))
  f207 := Tryz.func120.trans (congrArg some (by kernel_rfl))
  t3 := Tryz.underlying3
  a3 := Tryz.isAgg3
  z3 := Tryz.sizeOf3
  v3 := Tryz.zeroValue3
  t4 := Tryz.underlying4
  a4 := Tryz.isAgg4
  z4 := Tryz.sizeOf4
  v4 := Tryz.zeroValue4
  t9 := Tryz.underlying9
  a9 := Tryz.isAgg9
  z9 := Tryz.sizeOf9
  v9 := Tryz.zeroValue9 }
open Go.RowKit Go.Lib in
theorem Tryz.strings_HasSuffix (s p : ByteArray) (w : World) (hs : s.size ≤ 9223372036854775807) :
    Calls Tryz.prog 101 #[.string s, .string p] w fun e w' => e = .returned (.bool (Lib.hasSuffix s.data.toList p.data.toList)) ∧ w' = w := Any.strings_HasSuffix Tryz.lays100 s p w hs
def Tryz.lays155_ren : Go.Shelf.Ren := ⟨fun | 155 => 43 | 154 => 61 | 138 => 79 | 165 => 80 | 143 => 81 | 166 => 57 | 197 => 82 | 169 => 58 | 195 => 104 | 218 => 105 | 240 => 72 | 241 => 106 | 219 => 107 | 260 => 108 | 276 => 93 | 277 => 121 | 217 => 71 | 225 => 122 | 224 => 123 | 267 => 124 | 266 => 92 | 314 => 133 | n => n, fun | 9 => 9 | 3 => 3 | 4 => 4 | 72 => 76 | 0 => 0 | 76 => 79 | 105 => 99 | 21 => 21 | 5 => 5 | 70 => 74 | 20 => 20 | 37 => 66 | 75 => 78 | 127 => 91 | 164 => 109 | 46 => 127 | 119 => 128 | 139 => 131 | 138 => 130 | 146 => 136 | 51 => 135 | 80 => 81 | n => n, fun | 1 => 0 | 3 => 1 | 4 => 2 | n => n⟩
theorem Tryz.lays155 : Go.Proofs.Lays.n155 Tryz.prog Tryz.lays155_ren := {
  mixed := by kernel_rfl
  f138 := Tryz.func79.trans (congrArg some (by kernel_rfl))
  f143 := Tryz.func81.trans (congrArg some (by kernel_rfl))
  f154 := Tryz.func61.trans (congrArg some (by kernel_rfl))
  f155 := Tryz.func43.trans (congrArg some (by kernel_rfl))
  f165 := Tryz.func80.trans (congrArg some (by kernel_rfl))
  f166 := Tryz.func57.trans (congrArg some (by kernel_rfl))
  f169 := Tryz.func58.trans (congrArg some (by kernel_rfl))
  f195 := Tryz.func104.trans (congrArg some (by kernel_rfl))
  f197 := Tryz.func82.trans (congrArg some (by kernel_rfl))
  f217 := Tryz.func71.trans (congrArg some (by kernel_rfl))
  f218 := Tryz.func105.trans (congrArg some (by kernel_rfl))
  f219 := Tryz.func107.trans (congrArg some (by kernel_rfl))
  f224 := Tryz.func123.trans (congrArg some (by kernel_rfl))
  f225 := Tryz.func122.trans (congrArg some (by kernel_rfl))
  f240 := Tryz.func72.trans (congrArg some (by kernel_rfl))
  f241 := Tryz.func106.trans (congrArg some (by kernel_rfl))
  f260 := Tryz.func108.trans (congrArg some (by kernel_rfl))
  f266 := Tryz.func92.trans (congrArg some (by kernel_rfl))
  f267 := Tryz.func124.trans (congrArg some (by kernel_rfl))
  f276 := Tryz.func93.trans (congrArg some (by kernel_rfl))
  f277 := Tryz.func121.trans (congrArg some (by kernel_rfl))
  f314 := Tryz.func133.trans (congrArg some (by kernel_rfl))
  t0 := Tryz.underlying0
  a0 := Tryz.isAgg0
  z0 := Tryz.sizeOf0
  v0 := Tryz.zeroValue0
  t3 := Tryz.underlying3
  a3 := Tryz.isAgg3
  z3 := Tryz.sizeOf3
  v3 := Tryz.zeroValue3
  t4 := Tryz.underlying4
  a4 := Tryz.isAgg4
  z4 := Tryz.sizeOf4
  v4 := Tryz.zeroValue4
  t5 := Tryz.underlying5
  a5 := Tryz.isAgg5
  z5 := Tryz.sizeOf5
  v5 := Tryz.zeroValue5
  t9 := Tryz.underlying9
  a9 := Tryz.isAgg9
  z9 := Tryz.sizeOf9
  v9 := Tryz.zeroValue9
  t20 := Tryz.underlying20
  a20 := Tryz.isAgg20
  z20 := Tryz.sizeOf20
  v20 := Tryz.zeroValue20
  t21 := Tryz.underlying21
  a21 := Tryz.isAgg21
  z21 := Tryz.sizeOf21
  v21 := Tryz.zeroValue21
  t37 := Tryz.underlying66
  a37 := Tryz.isAgg66
  z37 := Tryz.sizeOf66
  v37 := Tryz.zeroValue66
  t46 := Tryz.underlying127
  a46 := Tryz.isAgg127
  z46 := Tryz.sizeOf127
  v46 := Tryz.zeroValue127
  t51 := Tryz.underlying135
  a51 := Tryz.isAgg135
  z51 := Tryz.sizeOf135
  v51 := Tryz.zeroValue135
  t70 := Tryz.underlying74
  a70 := Tryz.isAgg74
  z70 := Tryz.sizeOf74
  v70 := Tryz.zeroValue74
  t72 := Tryz.underlying76
  a72 := Tryz.isAgg76
  z72 := Tryz.sizeOf76
  v72 := Tryz.zeroValue76
  t75 := Tryz.underlying78
  a75 := Tryz.isAgg78
  z75 := Tryz.sizeOf78
  v75 := Tryz.zeroValue78
  t76 := Tryz.underlying79
  a76 := Tryz.isAgg79
  z76 := Tryz.sizeOf79
  v76 := Tryz.zeroValue79
  t105 := Tryz.underlying99
  a105 := Tryz.isAgg99
  z105 := Tryz.sizeOf99
  v105 := Tryz.zeroValue99
  t119 := Tryz.underlying128
  a119 := Tryz.isAgg128
  z119 := Tryz.sizeOf128
  t127 := Tryz.underlying91
  a127 := Tryz.isAgg91
  z127 := Tryz.sizeOf91
  v127 := Tryz.zeroValue91
  t138 := Tryz.underlying130
  a138 := Tryz.isAgg130
  z138 := Tryz.sizeOf130
  v138 := Tryz.zeroValue130
  t139 := Tryz.underlying131
  a139 := Tryz.isAgg131
  z139 := Tryz.sizeOf131
  v139 := Tryz.zeroValue131
  t146 := Tryz.underlying136
  a146 := Tryz.isAgg136
  z146 := Tryz.sizeOf136
  v146 := Tryz.zeroValue136
  t164 := Tryz.underlying109
  a164 := Tryz.isAgg109
  z164 := Tryz.sizeOf109
  v164 := Tryz.zeroValue109
  g1 := by kernel_rfl
  g3 := by kernel_rfl
  g4 := by kernel_rfl }
theorem Tryz.Builder_Extra_155 : Builder.Extra Tryz.prog Tryz.lays155_ren := {
  sizeBuilder := by kernel_rfl
  liesBuilder := by kernel_rfl
  t5 := Tryz.underlying5
  a5 := Tryz.isAgg5
  z5 := Tryz.sizeOf5
  v5 := Tryz.zeroValue5
  infoByte := by kernel_rfl
  cellsByte := by kernel_rfl
  sizeByte := by kernel_rfl
  neB5 := by decide }
open Go.RowKit Go.Lib in
theorem Tryz.strings_ReplaceAll (s old new : ByteArray) (m : Int) (w : World) (hs : s.size < 4294967281) (hm : w.cell? ⟨0, 0, none⟩ = some (.int .i64 m)) (h1 : 1 ≤ old.size) (hlen : s.size + Lib.countB s old * new.size ≤ 140737488355328) :
    Calls Tryz.prog 43 #[.string s, .string old, .string new] w fun e w' =>
      e = .returned (.string ⟨(Lib.replaceAll s.data.toList old.data.toList new.data.toList).toArray⟩) ∧ Below w.heap.size w w' := Any.strings_ReplaceAll Tryz.lays155 Tryz.Builder_Extra_155 s old new m w hs hm h1 hlen
end Go.Proofs
