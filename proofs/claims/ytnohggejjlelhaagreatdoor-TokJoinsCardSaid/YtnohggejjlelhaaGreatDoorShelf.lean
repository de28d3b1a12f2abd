-- pruned2
/-
  DERIVED: THE SHELF's CONTRACTS AT THIS DUMP, IN PLAIN WORDS (tools/lay-plain.mjs out of 'TryzShelf.lean', which tools/lay-shelf.mjs wrote): THE SAME DECLARATIONS UNDER THE SAME NAMES: 'import', 'namespace', 'open', 'def', 'theorem' AND NOTHING ELSE: no command of the shelf's: FOR A HAND-IN. Each laying: the table of numbers ('.._ren') and one theorem, a field a fact of the dump's own or the kernel's comparison; each contract: ONE APPLICATION.
-/
import Derived.Shelf.Strings.Builder1
import Derived.Shelf.Strings.Builder2
import Derived.Shelf.Small.Strs
import Derived.Shelf.LaysM
import Derived.Shelf.Strconv.Clone
import Derived.Shelf.Strconv.SyntaxError
import Derived.Shelf.LaysC
import Derived.Shelf.Strconv.ToError
import Derived.Shelf.Strconv.Lower
import Derived.Shelf.Strconv.ParseUintEmpty
import Derived.Shelf.Strings.Search1
import Derived.Shelf.Strings.Search2
import Derived.Shelf.Strings.Search3
import Derived.Shelf.Strings.Cut
import Derived.Shelf.Strings.Count
import Derived.Shelf.Strings.Shaped
import Derived.Shelf.Strings.LastIndex
import Derived.Shelf.Strings.Prefix
import Derived.Shelf.Strings.Split
import Derived.Shelf.Strings.Replace
import Derived.Shelf.Unicode.DecodeSlow
import Derived.Test.YtnohggejjlelhaaGreatDoorProg
namespace Go.Proofs
open Go.Shelf
def Tryz.lays169_ren : Go.Shelf.Ren := ⟨fun | 169 => 59 | n => n, fun | 70 => 81 | 9 => 9 | 0 => 0 | 72 => 83 | 37 => 73 | 127 => 96 | 3 => 3 | 5 => 5 | n => n, fun | n => n⟩
theorem Tryz.lays169 : Go.Proofs.Lays.n169 Tryz.prog Tryz.lays169_ren := {
  mixed := by kernel_rfl
  f169 := Tryz.func59.trans (congrArg some (by kernel_rfl))
  t0 := Tryz.underlying0
  a0 := Tryz.isAgg0
  z0 := Tryz.sizeOf0
  v0 := Tryz.zeroValue0
  t3 := Tryz.underlying3
  a3 := Tryz.isAgg3
  z3 := Tryz.sizeOf3
  v3 := Tryz.zeroValue3
  t9 := Tryz.underlying9
  a9 := Tryz.isAgg9
  z9 := Tryz.sizeOf9
  v9 := Tryz.zeroValue9
  t37 := Tryz.underlying73
  a37 := Tryz.isAgg73
  z37 := Tryz.sizeOf73
  v37 := Tryz.zeroValue73
  t70 := Tryz.underlying81
  a70 := Tryz.isAgg81
  z70 := Tryz.sizeOf81
  v70 := Tryz.zeroValue81
  t72 := Tryz.underlying83
  a72 := Tryz.isAgg83
  z72 := Tryz.sizeOf83
  v72 := Tryz.zeroValue83
  t127 := Tryz.underlying96
  a127 := Tryz.isAgg96
  z127 := Tryz.sizeOf96
  v127 := Tryz.zeroValue96 }
theorem Tryz.Builder_Extra_169 : Builder.Extra Tryz.prog Tryz.lays169_ren := {
  sizeBuilder := by kernel_rfl
  liesBuilder := by kernel_rfl
  t5 := Tryz.underlying5
  a5 := Tryz.isAgg5
  z5 := Tryz.sizeOf5
  v5 := Tryz.zeroValue5
  infoByte := by kernel_rfl
  cellsByte := by kernel_rfl
  sizeByte := by kernel_rfl
  neB5 := by decide }
open Go.RowKit in
theorem Tryz.Builder_String_any (B b : Nat) (l : List UInt8) (w : World) (h : Lib.IsBuilder 83 5 B b (Lib.byteCells l) w) (hBw : B ≤ w.heap.size) :
    Calls Tryz.prog 59 #[.pointer (some ⟨b, 0, none⟩)] w fun e w' => e = .returned (.string ⟨l.toArray⟩) ∧ Below B w w' := Any.Builder_String_any Tryz.lays169 Tryz.Builder_Extra_169 B b l w h hBw
def Tryz.lays137_ren : Go.Shelf.Ren := ⟨fun | 137 => 56 | 217 => 69 | 266 => 85 | n => n, fun | 9 => 9 | 5 => 5 | 3 => 3 | n => n, fun | n => n⟩
theorem Tryz.lays137 : Go.Proofs.Lays.n137 Tryz.prog Tryz.lays137_ren := {
  mixed := by kernel_rfl
  f137 := Tryz.func56.trans (congrArg some (by kernel_rfl))
  f217 := Tryz.func69.trans (congrArg some (by kernel_rfl))
  f266 := Tryz.func85.trans (congrArg some (by kernel_rfl))
  t3 := Tryz.underlying3
  a3 := Tryz.isAgg3
  z3 := Tryz.sizeOf3
  v3 := Tryz.zeroValue3
  t5 := Tryz.underlying5
  a5 := Tryz.isAgg5
  z5 := Tryz.sizeOf5
  v5 := Tryz.zeroValue5
  t9 := Tryz.underlying9
  a9 := Tryz.isAgg9
  z9 := Tryz.sizeOf9
  v9 := Tryz.zeroValue9 }
open Go.RowKit in
theorem Tryz.strings_IndexByte (s : ByteArray) (c : Int) (w : World) :
    Calls Tryz.prog 56 #[.string s, .int .u8 c] w fun e w' => e = .returned (.int .i64 (Lib.indexByte s.data.toList c.toNat.toUInt8)) ∧ w' = w := Any.strings_IndexByte Tryz.lays137 s c w
def Tryz.laysC245_ren : Go.Shelf.Ren := ⟨fun | 245 => 108 | 279 => 112 | 280 => 113 | 281 => 114 | 282 => 115 | 316 => 116 | 171 => 118 | 205 => 117 | 243 => 119 | 246 => 120 | 283 => 121 | 284 => 122 | 285 => 123 | 286 => 124 | 129 => 126 | 317 => 125 | 318 => 127 | 319 => 128 | 320 => 129 | 337 => 130 | 338 => 131 | n => n, fun | 9 => 9 | 3 => 3 | 75 => 85 | 167 => 131 | 4 => 4 | 168 => 133 | 210 => 137 | 37 => 73 | 0 => 0 | 127 => 96 | 145 => 141 | 143 => 139 | 2 => 2 | 171 => 143 | 53 => 122 | 5 => 5 | 173 => 146 | 212 => 149 | 51 => 117 | 20 => 20 | 213 => 150 | 46 => 107 | 232 => 153 | 233 => 154 | 80 => 88 | n => n, fun | 15 => 3 | 16 => 4 | 17 => 5 | 18 => 6 | 19 => 7 | n => n⟩
theorem Tryz.laysC245 : Go.Proofs.LaysC.n245 Tryz.prog Tryz.laysC245_ren := {
  mixed := by kernel_rfl
  f129 := Tryz.func126.trans (congrArg some (by kernel_rfl))
  f171 := Tryz.func118.trans (congrArg some (by kernel_rfl))
  f205 := Tryz.func117.trans (congrArg some (by kernel_rfl))
  f243 := Tryz.func119.trans (congrArg some (by kernel_rfl))
  f245 := Tryz.func108.trans (congrArg some (by kernel_rfl))
  f246 := Tryz.func120.trans (congrArg some (by kernel_rfl))
  f279 := Tryz.func112.trans (congrArg some (by kernel_rfl))
  f280 := Tryz.func113.trans (congrArg some (by kernel_rfl))
  f281 := Tryz.func114.trans (congrArg some (by kernel_rfl))
  f282 := Tryz.func115.trans (congrArg some (by kernel_rfl))
  f283 := Tryz.func121.trans (congrArg some (by kernel_rfl))
  f284 := Tryz.func122.trans (congrArg some (by kernel_rfl))
  f285 := Tryz.func123.trans (congrArg some (by kernel_rfl))
  f286 := Tryz.func124.trans (congrArg some (by kernel_rfl))
  f316 := Tryz.func116.trans (congrArg some (by kernel_rfl))
  f317 := Tryz.func125.trans (congrArg some (by kernel_rfl))
  f318 := Tryz.func127.trans (congrArg some (by kernel_rfl))
  f319 := Tryz.func128.trans (congrArg some (by kernel_rfl))
  f320 := Tryz.func129.trans (congrArg some (by kernel_rfl))
  f337 := Tryz.func130.trans (congrArg some (by kernel_rfl))
  f338 := Tryz.func131.trans (congrArg some (by kernel_rfl))
  t0 := Tryz.underlying0
  a0 := Tryz.isAgg0
  z0 := Tryz.sizeOf0
  v0 := Tryz.zeroValue0
  t2 := Tryz.underlying2
  a2 := Tryz.isAgg2
  z2 := Tryz.sizeOf2
  v2 := Tryz.zeroValue2
  t3 := Tryz.underlying3
  a3 := Tryz.isAgg3
  z3 := Tryz.sizeOf3
  v3 := Tryz.zeroValue3
  t4 := Tryz.underlying4
  a4 := Tryz.isAgg4
  z4 := Tryz.sizeOf4
  v4 := Tryz.zeroValue4
  t5 := Tryz.underlying5
  a5 := Tryz.isAgg5
  z5 := Tryz.sizeOf5
  v5 := Tryz.zeroValue5
  t9 := Tryz.underlying9
  a9 := Tryz.isAgg9
  z9 := Tryz.sizeOf9
  v9 := Tryz.zeroValue9
  t20 := Tryz.underlying20
  a20 := Tryz.isAgg20
  z20 := Tryz.sizeOf20
  v20 := Tryz.zeroValue20
  t37 := Tryz.underlying73
  a37 := Tryz.isAgg73
  z37 := Tryz.sizeOf73
  v37 := Tryz.zeroValue73
  t46 := Tryz.underlying107
  a46 := Tryz.isAgg107
  z46 := Tryz.sizeOf107
  v46 := Tryz.zeroValue107
  t51 := Tryz.underlying117
  a51 := Tryz.isAgg117
  z51 := Tryz.sizeOf117
  v51 := Tryz.zeroValue117
  t53 := Tryz.underlying122
  a53 := Tryz.isAgg122
  z53 := Tryz.sizeOf122
  v53 := Tryz.zeroValue122
  t75 := Tryz.underlying85
  a75 := Tryz.isAgg85
  z75 := Tryz.sizeOf85
  v75 := Tryz.zeroValue85
  t127 := Tryz.underlying96
  a127 := Tryz.isAgg96
  z127 := Tryz.sizeOf96
  v127 := Tryz.zeroValue96
  t143 := Tryz.underlying139
  a143 := Tryz.isAgg139
  z143 := Tryz.sizeOf139
  v143 := Tryz.zeroValue139
  t145 := Tryz.underlying141
  a145 := Tryz.isAgg141
  z145 := Tryz.sizeOf141
  v145 := Tryz.zeroValue141
  t167 := Tryz.underlying131
  a167 := Tryz.isAgg131
  z167 := Tryz.sizeOf131
  v167 := Tryz.zeroValue131
  t168 := Tryz.underlying133
  a168 := Tryz.isAgg133
  z168 := Tryz.sizeOf133
  v168 := Tryz.zeroValue133
  t171 := Tryz.underlying143
  a171 := Tryz.isAgg143
  z171 := Tryz.sizeOf143
  v171 := Tryz.zeroValue143
  t173 := Tryz.underlying146
  a173 := Tryz.isAgg146
  z173 := Tryz.sizeOf146
  v173 := Tryz.zeroValue146
  t210 := Tryz.underlying137
  a210 := Tryz.isAgg137
  z210 := Tryz.sizeOf137
  v210 := Tryz.zeroValue137
  t212 := Tryz.underlying149
  a212 := Tryz.isAgg149
  z212 := Tryz.sizeOf149
  v212 := Tryz.zeroValue149
  t213 := Tryz.underlying150
  a213 := Tryz.isAgg150
  z213 := Tryz.sizeOf150
  t232 := Tryz.underlying153
  a232 := Tryz.isAgg153
  z232 := Tryz.sizeOf153
  v232 := Tryz.zeroValue153
  t233 := Tryz.underlying154
  a233 := Tryz.isAgg154
  z233 := Tryz.sizeOf154
  v233 := Tryz.zeroValue154
  g15 := by kernel_rfl
  g16 := by kernel_rfl
  g17 := by kernel_rfl
  g18 := by kernel_rfl
  g19 := by kernel_rfl
  t80 := Tryz.underlying88
  a80 := Tryz.isAgg88
  z80 := Tryz.sizeOf88
  v80 := Tryz.zeroValue88
  i0 := by kernel_rfl
  i2 := by kernel_rfl
  i3 := by kernel_rfl
  i4 := by kernel_rfl
  i5 := by kernel_rfl
  i9 := by kernel_rfl
  i20 := by kernel_rfl
  i37 := by kernel_rfl
  i46 := by kernel_rfl
  i51 := by kernel_rfl
  i53 := by kernel_rfl
  i75 := by kernel_rfl
  i80 := by kernel_rfl
  i127 := by kernel_rfl
  i143 := by kernel_rfl
  i145 := by kernel_rfl
  i167 := by kernel_rfl
  i168 := by kernel_rfl
  i171 := by kernel_rfl
  i173 := by kernel_rfl
  i210 := by kernel_rfl
  i212 := by kernel_rfl
  i232 := by kernel_rfl
  i233 := by kernel_rfl
  m15 := by kernel_rfl
  m16 := by kernel_rfl
  m17 := by kernel_rfl
  m18 := by kernel_rfl
  m19 := by kernel_rfl
  c0 := by kernel_rfl
  c2 := by kernel_rfl
  c3 := by kernel_rfl
  c4 := by kernel_rfl
  c5 := by kernel_rfl
  c9 := by kernel_rfl
  c20 := by kernel_rfl
  c37 := by kernel_rfl
  c46 := by kernel_rfl
  c51 := by kernel_rfl
  c53 := by kernel_rfl
  c75 := by kernel_rfl
  c80 := by kernel_rfl
  c127 := by kernel_rfl
  c143 := by kernel_rfl
  c145 := by kernel_rfl
  c167 := by kernel_rfl
  c168 := by kernel_rfl
  c171 := by kernel_rfl
  c173 := by kernel_rfl
  c210 := by kernel_rfl
  c212 := by kernel_rfl
  c213 := by kernel_rfl
  c232 := by kernel_rfl
  c233 := by kernel_rfl }
open Go.RowKit in
theorem Tryz.strconv_toError_syntax (fn s : ByteArray) (base bits : Int) (ev : Value) (w : World) (hlim : s.size ≤ 281474976710656) (hv : w.cell? ⟨3, 0, none⟩ = some ev) (hev : ev = .nilIface ∨ ∃ te pe, ev = .iface te pe) :
    Calls Tryz.prog 108 #[.string fn, .string s, .int .i64 base, .int .i64 bits, .iface 131 (.int .i64 2)] w fun e w' => ∃ N, e = .returned (.iface 133 (.pointer (some ⟨N, 0, none⟩))) ∧ w.heap.size ≤ N ∧ w'.heap[N]? = some (.cells #[.string fn, .string s, ev] 137 (0, 0)) ∧ Below w.heap.size w w' := Any.strconv_toError_syntax Tryz.laysC245 fn s base bits ev w hlim hv hev
def Tryz.lays321_ren : Go.Shelf.Ren := ⟨fun | 321 => 110 | n => n, fun | 5 => 5 | n => n, fun | n => n⟩
theorem Tryz.lays321 : Go.Proofs.Lays.n321 Tryz.prog Tryz.lays321_ren := {
  mixed := by kernel_rfl
  f321 := Tryz.func110.trans (congrArg some (by kernel_rfl))
  t5 := Tryz.underlying5
  a5 := Tryz.isAgg5
  z5 := Tryz.sizeOf5
  v5 := Tryz.zeroValue5 }
open Go.RowKit in
theorem Tryz.internal_strconv_lower (c : Int) (w : World) :
    Calls Tryz.prog 110 #[.int .u8 c] w fun e w' => e = .returned (.int .u8 (bits .or .u8 c 32)) ∧ w' = w := Any.internal_strconv_lower Tryz.lays321 c w
def Tryz.lays287_ren : Go.Shelf.Ren := ⟨fun | 287 => 107 | 321 => 110 | 322 => 111 | n => n, fun | 9 => 9 | 3 => 3 | 53 => 122 | 75 => 85 | 4 => 4 | 167 => 131 | 5 => 5 | 46 => 107 | 37 => 73 | 0 => 0 | 21 => 21 | 80 => 88 | n => n, fun | n => n⟩
theorem Tryz.lays287 : Go.Proofs.Lays.n287 Tryz.prog Tryz.lays287_ren := {
  mixed := by kernel_rfl
  f287 := Tryz.func107.trans (congrArg some (by kernel_rfl))
  f321 := Tryz.func110.trans (congrArg some (by kernel_rfl))
  f322 := Tryz.func111.trans (congrArg some (by kernel_rfl))
  t0 := Tryz.underlying0
  a0 := Tryz.isAgg0
  z0 := Tryz.sizeOf0
  v0 := Tryz.zeroValue0
  t3 := Tryz.underlying3
  a3 := Tryz.isAgg3
  z3 := Tryz.sizeOf3
  v3 := Tryz.zeroValue3
  t4 := Tryz.underlying4
  a4 := Tryz.isAgg4
  z4 := Tryz.sizeOf4
  v4 := Tryz.zeroValue4
  t5 := Tryz.underlying5
  a5 := Tryz.isAgg5
  z5 := Tryz.sizeOf5
  v5 := Tryz.zeroValue5
  t9 := Tryz.underlying9
  a9 := Tryz.isAgg9
  z9 := Tryz.sizeOf9
  v9 := Tryz.zeroValue9
  t21 := Tryz.underlying21
  a21 := Tryz.isAgg21
  z21 := Tryz.sizeOf21
  v21 := Tryz.zeroValue21
  t37 := Tryz.underlying73
  a37 := Tryz.isAgg73
  z37 := Tryz.sizeOf73
  v37 := Tryz.zeroValue73
  t46 := Tryz.underlying107
  a46 := Tryz.isAgg107
  z46 := Tryz.sizeOf107
  v46 := Tryz.zeroValue107
  t53 := Tryz.underlying122
  a53 := Tryz.isAgg122
  z53 := Tryz.sizeOf122
  v53 := Tryz.zeroValue122
  t75 := Tryz.underlying85
  a75 := Tryz.isAgg85
  z75 := Tryz.sizeOf85
  v75 := Tryz.zeroValue85
  t167 := Tryz.underlying131
  a167 := Tryz.isAgg131
  z167 := Tryz.sizeOf131
  v167 := Tryz.zeroValue131 }
open Go.RowKit in
theorem Tryz.internal_strconv_ParseUint_empty (base bits : Int) (w : World) :
    Calls Tryz.prog 107 #[.string ⟨#[]⟩, .int .i64 base, .int .i64 bits] w fun e w' => e = .returned (.tuple #[.int .u64 0, .iface 131 (.int .i64 2)]) ∧ w' = w := Any.internal_strconv_ParseUint_empty Tryz.lays287 base bits w
def Tryz.lays219_ren : Go.Shelf.Ren := ⟨fun | 219 => 68 | 217 => 69 | 225 => 82 | 224 => 83 | 267 => 84 | 266 => 85 | 314 => 101 | n => n, fun | 9 => 9 | 3 => 3 | 4 => 4 | 5 => 5 | 46 => 107 | 146 => 118 | 51 => 117 | n => n, fun | 1 => 0 | n => n⟩
theorem Tryz.lays219 : Go.Proofs.Lays.n219 Tryz.prog Tryz.lays219_ren := {
  mixed := by kernel_rfl
  f217 := Tryz.func69.trans (congrArg some (by kernel_rfl))
  f219 := Tryz.func68.trans (congrArg some (by kernel_rfl))
  f224 := Tryz.func83.trans (congrArg some (by kernel_rfl))
  f225 := Tryz.func82.trans (congrArg some (by kernel_rfl))
  f266 := Tryz.func85.trans (congrArg some (by kernel_rfl))
  f267 := Tryz.func84.trans (congrArg some (by kernel_rfl))
  f314 := Tryz.func101.trans (congrArg some (by kernel_rfl))
  t3 := Tryz.underlying3
  a3 := Tryz.isAgg3
  z3 := Tryz.sizeOf3
  v3 := Tryz.zeroValue3
  t4 := Tryz.underlying4
  a4 := Tryz.isAgg4
  z4 := Tryz.sizeOf4
  v4 := Tryz.zeroValue4
  t5 := Tryz.underlying5
  a5 := Tryz.isAgg5
  z5 := Tryz.sizeOf5
  v5 := Tryz.zeroValue5
  t9 := Tryz.underlying9
  a9 := Tryz.isAgg9
  z9 := Tryz.sizeOf9
  v9 := Tryz.zeroValue9
  t46 := Tryz.underlying107
  a46 := Tryz.isAgg107
  z46 := Tryz.sizeOf107
  v46 := Tryz.zeroValue107
  t51 := Tryz.underlying117
  a51 := Tryz.isAgg117
  z51 := Tryz.sizeOf117
  v51 := Tryz.zeroValue117
  t146 := Tryz.underlying118
  a146 := Tryz.isAgg118
  z146 := Tryz.sizeOf118
  v146 := Tryz.zeroValue118
  g1 := by kernel_rfl }
open Go.RowKit Go.Lib in
theorem Tryz.stringslite_Index_one (s : ByteArray) (c : UInt8) (w : World) :
    Calls Tryz.prog 68 #[.string s, .string ⟨#[c]⟩] w fun e w' => e = .returned (.int .i64 (Lib.indexByte s.data.toList c)) ∧ w' = w := Any.stringslite_Index_one Tryz.lays219 s c w
def Tryz.lays143_ren : Go.Shelf.Ren := ⟨fun | 143 => 62 | 219 => 68 | 217 => 69 | 225 => 82 | 224 => 83 | 267 => 84 | 266 => 85 | 314 => 101 | n => n, fun | 9 => 9 | 3 => 3 | 4 => 4 | 5 => 5 | 46 => 107 | 146 => 118 | 51 => 117 | n => n, fun | 1 => 0 | n => n⟩
theorem Tryz.lays143 : Go.Proofs.Lays.n143 Tryz.prog Tryz.lays143_ren := {
  mixed := by kernel_rfl
  f143 := Tryz.func62.trans (congrArg some (by kernel_rfl))
  f217 := Tryz.func69.trans (congrArg some (by kernel_rfl))
  f219 := Tryz.func68.trans (congrArg some (by kernel_rfl))
  f224 := Tryz.func83.trans (congrArg some (by kernel_rfl))
  f225 := Tryz.func82.trans (congrArg some (by kernel_rfl))
  f266 := Tryz.func85.trans (congrArg some (by kernel_rfl))
  f267 := Tryz.func84.trans (congrArg some (by kernel_rfl))
  f314 := Tryz.func101.trans (congrArg some (by kernel_rfl))
  t3 := Tryz.underlying3
  a3 := Tryz.isAgg3
  z3 := Tryz.sizeOf3
  v3 := Tryz.zeroValue3
  t4 := Tryz.underlying4
  a4 := Tryz.isAgg4
  z4 := Tryz.sizeOf4
  v4 := Tryz.zeroValue4
  t5 := Tryz.underlying5
  a5 := Tryz.isAgg5
  z5 := Tryz.sizeOf5
  v5 := Tryz.zeroValue5
  t9 := Tryz.underlying9
  a9 := Tryz.isAgg9
  z9 := Tryz.sizeOf9
  v9 := Tryz.zeroValue9
  t46 := Tryz.underlying107
  a46 := Tryz.isAgg107
  z46 := Tryz.sizeOf107
  v46 := Tryz.zeroValue107
  t51 := Tryz.underlying117
  a51 := Tryz.isAgg117
  z51 := Tryz.sizeOf117
  v51 := Tryz.zeroValue117
  t146 := Tryz.underlying118
  a146 := Tryz.isAgg118
  z146 := Tryz.sizeOf118
  v146 := Tryz.zeroValue118
  g1 := by kernel_rfl }
open Go.RowKit Go.Lib in
theorem Tryz.strings_Index (s sub : ByteArray) (m : Int) (w : World) (hs : s.size < 4294967281) (hm : w.cell? ⟨0, 0, none⟩ = some (.int .i64 m)) :
    Calls Tryz.prog 62 #[.string s, .string sub] w fun e w' => e = .returned (.int .i64 (Lib.index s.data.toList sub.data.toList)) ∧ w' = w := Any.strings_Index Tryz.lays143 s sub m w hs hm
def Tryz.lays149_ren : Go.Shelf.Ren := ⟨fun | 149 => 106 | 222 => 109 | n => n, fun | 9 => 9 | 5 => 5 | 3 => 3 | 4 => 4 | n => n, fun | n => n⟩
theorem Tryz.lays149 : Go.Proofs.Lays.n149 Tryz.prog Tryz.lays149_ren := {
  mixed := by kernel_rfl
  f149 := Tryz.func106.trans (congrArg some (by kernel_rfl))
  f222 := Tryz.func109.trans (congrArg some (by kernel_rfl))
  t3 := Tryz.underlying3
  a3 := Tryz.isAgg3
  z3 := Tryz.sizeOf3
  v3 := Tryz.zeroValue3
  t4 := Tryz.underlying4
  a4 := Tryz.isAgg4
  z4 := Tryz.sizeOf4
  v4 := Tryz.zeroValue4
  t5 := Tryz.underlying5
  a5 := Tryz.isAgg5
  z5 := Tryz.sizeOf5
  v5 := Tryz.zeroValue5
  t9 := Tryz.underlying9
  a9 := Tryz.isAgg9
  z9 := Tryz.sizeOf9
  v9 := Tryz.zeroValue9 }
open Go.RowKit Go.Lib in
theorem Tryz.strings_LastIndexByte (s : ByteArray) (c : Int) (hs : s.size < 4611686018427387904) (w : World) :
    Calls Tryz.prog 106 #[.string s, .int .u8 c] w fun e w' => e = .returned (.int .i64 (Lib.lastIndexByte s c)) ∧ w' = w := Any.strings_LastIndexByte Tryz.lays149 s c hs w
def Tryz.lays100_ren : Go.Shelf.Ren := ⟨fun | 100 => 94 | 207 => 81 | n => n, fun | 9 => 9 | 4 => 4 | 3 => 3 | n => n, fun | n => n⟩
theorem Tryz.lays100 : Go.Proofs.Lays.n100 Tryz.prog Tryz.lays100_ren := {
  mixed := by kernel_rfl
  f100 := Tryz.func94.trans (congrArg some (by kernel_rfl))
  f207 := Tryz.func81.trans (congrArg some (by kernel_rfl))
  t3 := Tryz.underlying3
  a3 := Tryz.isAgg3
  z3 := Tryz.sizeOf3
  v3 := Tryz.zeroValue3
  t4 := Tryz.underlying4
  a4 := Tryz.isAgg4
  z4 := Tryz.sizeOf4
  v4 := Tryz.zeroValue4
  t9 := Tryz.underlying9
  a9 := Tryz.isAgg9
  z9 := Tryz.sizeOf9
  v9 := Tryz.zeroValue9 }
open Go.RowKit Go.Lib in
theorem Tryz.strings_HasSuffix (s p : ByteArray) (w : World) (hs : s.size ≤ 9223372036854775807) :
    Calls Tryz.prog 94 #[.string s, .string p] w fun e w' => e = .returned (.bool (Lib.hasSuffix s.data.toList p.data.toList)) ∧ w' = w := Any.strings_HasSuffix Tryz.lays100 s p w hs
def Tryz.lays155_ren : Go.Shelf.Ren := ⟨fun | 155 => 43 | 154 => 63 | 138 => 78 | 165 => 79 | 143 => 62 | 166 => 58 | 197 => 80 | 169 => 59 | 195 => 97 | 218 => 98 | 240 => 71 | 241 => 99 | 219 => 68 | 260 => 100 | 276 => 86 | 277 => 105 | 217 => 69 | 225 => 82 | 224 => 83 | 267 => 84 | 266 => 85 | 314 => 101 | n => n, fun | 9 => 9 | 3 => 3 | 4 => 4 | 72 => 83 | 0 => 0 | 76 => 86 | 105 => 104 | 21 => 21 | 5 => 5 | 70 => 81 | 20 => 20 | 37 => 73 | 75 => 85 | 127 => 96 | 164 => 108 | 46 => 107 | 119 => 126 | 139 => 129 | 138 => 128 | 146 => 118 | 51 => 117 | 80 => 88 | n => n, fun | 1 => 0 | 3 => 1 | 4 => 2 | n => n⟩
theorem Tryz.lays155 : Go.Proofs.Lays.n155 Tryz.prog Tryz.lays155_ren := {
  mixed := by kernel_rfl
  f138 := Tryz.func78.trans (congrArg some (by kernel_rfl))
  f143 := Tryz.func62.trans (congrArg some (by kernel_rfl))
  f154 := Tryz.func63.trans (congrArg some (by kernel_rfl))
  f155 := Tryz.func43.trans (congrArg some (by kernel_rfl))
  f165 := Tryz.func79.trans (congrArg some (by kernel_rfl))
  f166 := Tryz.func58.trans (congrArg some (by kernel_rfl))
  f169 := Tryz.func59.trans (congrArg some (by kernel_rfl))
  f195 := Tryz.func97.trans (congrArg some (by kernel_rfl))
  f197 := Tryz.func80.trans (congrArg some (by kernel_rfl))
  f217 := Tryz.func69.trans (congrArg some (by kernel_rfl))
  f218 := Tryz.func98.trans (congrArg some (by kernel_rfl))
  f219 := Tryz.func68.trans (congrArg some (by kernel_rfl))
  f224 := Tryz.func83.trans (congrArg some (by kernel_rfl))
  f225 := Tryz.func82.trans (congrArg some (by kernel_rfl))
  f240 := Tryz.func71.trans (congrArg some (by kernel_rfl))
  f241 := Tryz.func99.trans (congrArg some (by kernel_rfl))
  f260 := Tryz.func100.trans (congrArg some (by kernel_rfl))
  f266 := Tryz.func85.trans (congrArg some (by kernel_rfl))
  f267 := Tryz.func84.trans (congrArg some (by kernel_rfl))
  f276 := Tryz.func86.trans (congrArg some (by kernel_rfl))
  f277 := Tryz.func105.trans (congrArg some (by kernel_rfl))
  f314 := Tryz.func101.trans (congrArg some (by kernel_rfl))
  t0 := Tryz.underlying0
  a0 := Tryz.isAgg0
  z0 := Tryz.sizeOf0
  v0 := Tryz.zeroValue0
  t3 := Tryz.underlying3
  a3 := Tryz.isAgg3
  z3 := Tryz.sizeOf3
  v3 := Tryz.zeroValue3
  t4 := Tryz.underlying4
  a4 := Tryz.isAgg4
  z4 := Tryz.sizeOf4
  v4 := Tryz.zeroValue4
  t5 := Tryz.underlying5
  a5 := Tryz.isAgg5
  z5 := Tryz.sizeOf5
  v5 := Tryz.zeroValue5
  t9 := Tryz.underlying9
  a9 := Tryz.isAgg9
  z9 := Tryz.sizeOf9
  v9 := Tryz.zeroValue9
  t20 := Tryz.underlying20
  a20 := Tryz.isAgg20
  z20 := Tryz.sizeOf20
  v20 := Tryz.zeroValue20
  t21 := Tryz.underlying21
  a21 := Tryz.isAgg21
  z21 := Tryz.sizeOf21
  v21 := Tryz.zeroValue21
  t37 := Tryz.underlying73
  a37 := Tryz.isAgg73
  z37 := Tryz.sizeOf73
  v37 := Tryz.zeroValue73
  t46 := Tryz.underlying107
  a46 := Tryz.isAgg107
  z46 := Tryz.sizeOf107
  v46 := Tryz.zeroValue107
  t51 := Tryz.underlying117
  a51 := Tryz.isAgg117
  z51 := Tryz.sizeOf117
  v51 := Tryz.zeroValue117
  t70 := Tryz.underlying81
  a70 := Tryz.isAgg81
  z70 := Tryz.sizeOf81
  v70 := Tryz.zeroValue81
  t72 := Tryz.underlying83
  a72 := Tryz.isAgg83
  z72 := Tryz.sizeOf83
  v72 := Tryz.zeroValue83
  t75 := Tryz.underlying85
  a75 := Tryz.isAgg85
  z75 := Tryz.sizeOf85
  v75 := Tryz.zeroValue85
  t76 := Tryz.underlying86
  a76 := Tryz.isAgg86
  z76 := Tryz.sizeOf86
  v76 := Tryz.zeroValue86
  t105 := Tryz.underlying104
  a105 := Tryz.isAgg104
  z105 := Tryz.sizeOf104
  v105 := Tryz.zeroValue104
  t119 := Tryz.underlying126
  a119 := Tryz.isAgg126
  z119 := Tryz.sizeOf126
  t127 := Tryz.underlying96
  a127 := Tryz.isAgg96
  z127 := Tryz.sizeOf96
  v127 := Tryz.zeroValue96
  t138 := Tryz.underlying128
  a138 := Tryz.isAgg128
  z138 := Tryz.sizeOf128
  v138 := Tryz.zeroValue128
  t139 := Tryz.underlying129
  a139 := Tryz.isAgg129
  z139 := Tryz.sizeOf129
  v139 := Tryz.zeroValue129
  t146 := Tryz.underlying118
  a146 := Tryz.isAgg118
  z146 := Tryz.sizeOf118
  v146 := Tryz.zeroValue118
  t164 := Tryz.underlying108
  a164 := Tryz.isAgg108
  z164 := Tryz.sizeOf108
  v164 := Tryz.zeroValue108
  g1 := by kernel_rfl
  g3 := by kernel_rfl
  g4 := by kernel_rfl }
theorem Tryz.Builder_Extra_155 : Builder.Extra Tryz.prog Tryz.lays155_ren := {
  sizeBuilder := by kernel_rfl
  liesBuilder := by kernel_rfl
  t5 := Tryz.underlying5
  a5 := Tryz.isAgg5
  z5 := Tryz.sizeOf5
  v5 := Tryz.zeroValue5
  infoByte := by kernel_rfl
  cellsByte := by kernel_rfl
  sizeByte := by kernel_rfl
  neB5 := by decide }
open Go.RowKit Go.Lib in
theorem Tryz.strings_ReplaceAll (s old new : ByteArray) (m : Int) (w : World) (hs : s.size < 4294967281) (hm : w.cell? ⟨0, 0, none⟩ = some (.int .i64 m)) (h1 : 1 ≤ old.size) (hlen : s.size + Lib.countB s old * new.size ≤ 140737488355328) :
    Calls Tryz.prog 43 #[.string s, .string old, .string new] w fun e w' =>
      e = .returned (.string ⟨(Lib.replaceAll s.data.toList old.data.toList new.data.toList).toArray⟩) ∧ Below w.heap.size w w' := Any.strings_ReplaceAll Tryz.lays155 Tryz.Builder_Extra_155 s old new m w hs hm h1 hlen
end Go.Proofs
