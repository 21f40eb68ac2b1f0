/- The contracts of Go's library that the walks of this seat use, laid at this translation by the kit's tools (lay-shelf.mjs, lay-plain.mjs), cut to what is needed. No condition. -/
import Derived.Shelf.Strings.Builder1
import Derived.Shelf.Strings.Builder2
import Derived.Shelf.Strings.OnBuilder
import Derived.Shelf.Strings.TrimSpace
import Derived.Shelf.Small.Strs
import Derived.Shelf.Strconv.Itoa0
import Derived.Shelf.Strconv.Itoa1
import Derived.Shelf.LaysM
import Derived.Shelf.Strconv.Itoa2
import Derived.Shelf.Strconv.Itoa3
import Derived.Shelf.Strings.Search1
import Derived.Shelf.Strings.LastIndex
import Derived.Shelf.Strings.Prefix
import Derived.Test.YtnchgmjeoajmiaaGreatDoorProg
namespace Go.Proofs
open Go.Shelf
def Tryz.lays159_ren : Go.Shelf.Ren := ⟨fun | 159 => 53 | 165 => 68 | 166 => 69 | 167 => 70 | 169 => 71 | 230 => 72 | 204 => 73 | 240 => 107 | 241 => 108 | 197 => 109 | 118 => 110 | 168 => 111 | 270 => 112 | 262 => 113 | 276 => 147 | 277 => 148 | 260 => 149 | 242 => 150 | 313 => 151 | 278 => 171 | 274 => 172 | 275 => 173 | n => n, fun | 9 => 9 | 4 => 4 | 3 => 3 | 5 => 5 | 72 => 118 | 0 => 0 | 76 => 120 | 75 => 59 | 107 => 125 | 70 => 116 | 20 => 20 | 37 => 46 | 127 => 171 | 21 => 21 | 105 => 172 | 164 => 203 | 162 => 209 | 203 => 207 | 119 => 128 | 46 => 81 | 139 => 234 | 138 => 233 | 51 => 155 | 160 => 235 | 208 => 250 | 206 => 248 | 80 => 123 | n => n, fun | 13 => 6 | 3 => 9 | 4 => 10 | n => n⟩
theorem Tryz.lays159 : Go.Proofs.Lays.n159 Tryz.prog Tryz.lays159_ren := {
  mixed := by kernel_rfl
  f118 := Tryz.func110.trans (congrArg some (by kernel_rfl))
  f159 := Tryz.func53.trans (congrArg some (by kernel_rfl))
  f165 := Tryz.func68.trans (congrArg some (by kernel_rfl))
  f166 := Tryz.func69.trans (congrArg some (by kernel_rfl))
  f167 := Tryz.func70.trans (congrArg some (by kernel_rfl))
  f168 := Tryz.func111.trans (congrArg some (by kernel_rfl))
  f169 := Tryz.func71.trans (congrArg some (by kernel_rfl))
  f197 := Tryz.func109.trans (congrArg some (by kernel_rfl))
  f204 := Tryz.func73.trans (congrArg some (by kernel_rfl))
  f230 := Tryz.func72.trans (congrArg some (by kernel_rfl))
  f240 := Tryz.func107.trans (congrArg some (by kernel_rfl))
  f241 := Tryz.func108.trans (congrArg some (by kernel_rfl))
  f242 := Tryz.func150.trans (congrArg some (by kernel_rfl))
  f260 := Tryz.func149.trans (congrArg some (by kernel_rfl))
  f262 := Tryz.func113.trans (congrArg some (by kernel_rfl))
  f270 := Tryz.func112.trans (congrArg some (by kernel_rfl))
  f274 := Tryz.func172.trans (congrArg some (by kernel_rfl))
  f275 := Tryz.func173.trans (congrArg some (by kernel_rfl))
  f276 := Tryz.func147.trans (congrArg some (by kernel_rfl))
  f277 := Tryz.func148.trans (congrArg some (by kernel_rfl))
  f278 := Tryz.func171.trans (congrArg some (by kernel_rfl))
  f313 := Tryz.func151.trans (congrArg some (by kernel_rfl))
  t0 := Tryz.underlying0
  a0 := Tryz.isAgg0
  z0 := Tryz.sizeOf0
  v0 := Tryz.zeroValue0
  t3 := Tryz.underlying3
  a3 := Tryz.isAgg3
  z3 := Tryz.sizeOf3
  v3 := Tryz.zeroValue3
  t4 := Tryz.underlying4
  a4 := Tryz.isAgg4
  z4 := Tryz.sizeOf4
  v4 := Tryz.zeroValue4
  t5 := Tryz.underlying5
  a5 := Tryz.isAgg5
  z5 := Tryz.sizeOf5
  v5 := Tryz.zeroValue5
  t9 := Tryz.underlying9
  a9 := Tryz.isAgg9
  z9 := Tryz.sizeOf9
  v9 := Tryz.zeroValue9
  t20 := Tryz.underlying20
  a20 := Tryz.isAgg20
  z20 := Tryz.sizeOf20
  v20 := Tryz.zeroValue20
  t21 := Tryz.underlying21
  a21 := Tryz.isAgg21
  z21 := Tryz.sizeOf21
  v21 := Tryz.zeroValue21
  t37 := Tryz.underlying46
  a37 := Tryz.isAgg46
  z37 := Tryz.sizeOf46
  v37 := Tryz.zeroValue46
  t46 := Tryz.underlying81
  a46 := Tryz.isAgg81
  z46 := Tryz.sizeOf81
  v46 := Tryz.zeroValue81
  t51 := Tryz.underlying155
  a51 := Tryz.isAgg155
  z51 := Tryz.sizeOf155
  v51 := Tryz.zeroValue155
  t70 := Tryz.underlying116
  a70 := Tryz.isAgg116
  z70 := Tryz.sizeOf116
  v70 := Tryz.zeroValue116
  t72 := Tryz.underlying118
  a72 := Tryz.isAgg118
  z72 := Tryz.sizeOf118
  v72 := Tryz.zeroValue118
  t75 := Tryz.underlying59
  a75 := Tryz.isAgg59
  z75 := Tryz.sizeOf59
  v75 := Tryz.zeroValue59
  t76 := Tryz.underlying120
  a76 := Tryz.isAgg120
  z76 := Tryz.sizeOf120
  v76 := Tryz.zeroValue120
  t105 := Tryz.underlying172
  a105 := Tryz.isAgg172
  z105 := Tryz.sizeOf172
  v105 := Tryz.zeroValue172
  t107 := Tryz.underlying125
  a107 := Tryz.isAgg125
  z107 := Tryz.sizeOf125
  v107 := Tryz.zeroValue125
  t119 := Tryz.underlying128
  a119 := Tryz.isAgg128
  z119 := Tryz.sizeOf128
  t127 := Tryz.underlying171
  a127 := Tryz.isAgg171
  z127 := Tryz.sizeOf171
  v127 := Tryz.zeroValue171
  t138 := Tryz.underlying233
  a138 := Tryz.isAgg233
  z138 := Tryz.sizeOf233
  v138 := Tryz.zeroValue233
  t139 := Tryz.underlying234
  a139 := Tryz.isAgg234
  z139 := Tryz.sizeOf234
  v139 := Tryz.zeroValue234
  t160 := Tryz.underlying235
  a160 := Tryz.isAgg235
  z160 := Tryz.sizeOf235
  v160 := Tryz.zeroValue235
  t162 := Tryz.underlying209
  a162 := Tryz.isAgg209
  z162 := Tryz.sizeOf209
  v162 := Tryz.zeroValue209
  t164 := Tryz.underlying203
  a164 := Tryz.isAgg203
  z164 := Tryz.sizeOf203
  v164 := Tryz.zeroValue203
  t203 := Tryz.underlying207
  a203 := Tryz.isAgg207
  z203 := Tryz.sizeOf207
  v203 := Tryz.zeroValue207
  t206 := Tryz.underlying248
  a206 := Tryz.isAgg248
  z206 := Tryz.sizeOf248
  v206 := Tryz.zeroValue248
  t208 := Tryz.underlying250
  a208 := Tryz.isAgg250
  z208 := Tryz.sizeOf250
  v208 := Tryz.zeroValue250
  g3 := by kernel_rfl
  g4 := by kernel_rfl
  g13 := by kernel_rfl }
theorem Tryz.Builder_Extra_159 : Builder.Extra Tryz.prog Tryz.lays159_ren := {
  sizeBuilder := by kernel_rfl
  liesBuilder := by kernel_rfl
  t5 := Tryz.underlying5
  a5 := Tryz.isAgg5
  z5 := Tryz.sizeOf5
  v5 := Tryz.zeroValue5
  infoByte := by kernel_rfl
  cellsByte := by kernel_rfl
  sizeByte := by kernel_rfl
  neB5 := by decide }
open Go.RowKit in

theorem Tryz.strings_ToLower_ascii (s : ByteArray) (w : World) (hs : s.size ≤ 140737488355328) (hascii : ∀ (j : Nat) (b : UInt8), s.data.toList[j]? = some b → b.toNat < 128) :
    Calls Tryz.prog 53 #[.string s] w fun e w' => e = .returned (.string ⟨(Lib.toLowerA s.data.toList).toArray⟩) ∧ Below w.heap.size w w' := Any.strings_ToLower_ascii Tryz.lays159 Tryz.Builder_Extra_159 s w hs hascii
def Tryz.lays163_ren : Go.Shelf.Ren := ⟨fun | 163 => 54 | 237 => 74 | 199 => 75 | 238 => 76 | 272 => 114 | 261 => 115 | 273 => 116 | 197 => 109 | 315 => 152 | 311 => 153 | 312 => 154 | 271 => 155 | 260 => 149 | 120 => 174 | n => n, fun | 9 => 9 | 37 => 46 | 3 => 3 | 0 => 0 | 5 => 5 | 4 => 4 | 40 => 127 | 119 => 128 | 21 => 21 | 51 => 155 | 141 => 178 | 105 => 172 | 196 => 213 | 193 => 210 | 198 => 216 | 49 => 214 | 194 => 211 | 201 => 219 | 226 => 238 | 46 => 81 | 227 => 239 | 139 => 234 | 138 => 233 | n => n, fun | 0 => 0 | 6 => 4 | 3 => 9 | 4 => 10 | n => n⟩
theorem Tryz.lays163 : Go.Proofs.Lays.n163 Tryz.prog Tryz.lays163_ren := {
  mixed := by kernel_rfl
  f120 := Tryz.func174.trans (congrArg some (by kernel_rfl))
  f163 := Tryz.func54.trans (congrArg some (by kernel_rfl))
  f197 := Tryz.func109.trans (congrArg some (by kernel_rfl))
  f199 := Tryz.func75.trans (congrArg some (by kernel_rfl))
  f237 := Tryz.func74.trans (congrArg some (by kernel_rfl))
  f238 := Tryz.func76.trans (congrArg some (by kernel_rfl))
  f260 := Tryz.func149.trans (congrArg some (by kernel_rfl))
  f261 := Tryz.func115.trans (congrArg some (by kernel_rfl))
  f271 := Tryz.func155.trans (congrArg some (by kernel_rfl))
  f272 := Tryz.func114.trans (congrArg some (by kernel_rfl))
  f273 := Tryz.func116.trans (congrArg some (by kernel_rfl))
  f311 := Tryz.func153.trans (congrArg some (by kernel_rfl))
  f312 := Tryz.func154.trans (congrArg some (by kernel_rfl))
  f315 := Tryz.func152.trans (congrArg some (by kernel_rfl))
  t0 := Tryz.underlying0
  a0 := Tryz.isAgg0
  z0 := Tryz.sizeOf0
  v0 := Tryz.zeroValue0
  t3 := Tryz.underlying3
  a3 := Tryz.isAgg3
  z3 := Tryz.sizeOf3
  v3 := Tryz.zeroValue3
  t4 := Tryz.underlying4
  a4 := Tryz.isAgg4
  z4 := Tryz.sizeOf4
  v4 := Tryz.zeroValue4
  t5 := Tryz.underlying5
  a5 := Tryz.isAgg5
  z5 := Tryz.sizeOf5
  v5 := Tryz.zeroValue5
  t9 := Tryz.underlying9
  a9 := Tryz.isAgg9
  z9 := Tryz.sizeOf9
  v9 := Tryz.zeroValue9
  t21 := Tryz.underlying21
  a21 := Tryz.isAgg21
  z21 := Tryz.sizeOf21
  v21 := Tryz.zeroValue21
  t37 := Tryz.underlying46
  a37 := Tryz.isAgg46
  z37 := Tryz.sizeOf46
  v37 := Tryz.zeroValue46
  t40 := Tryz.underlying127
  a40 := Tryz.isAgg127
  z40 := Tryz.sizeOf127
  v40 := Tryz.zeroValue127
  t46 := Tryz.underlying81
  a46 := Tryz.isAgg81
  z46 := Tryz.sizeOf81
  v46 := Tryz.zeroValue81
  t49 := Tryz.underlying214
  a49 := Tryz.isAgg214
  z49 := Tryz.sizeOf214
  v49 := Tryz.zeroValue214
  t51 := Tryz.underlying155
  a51 := Tryz.isAgg155
  z51 := Tryz.sizeOf155
  v51 := Tryz.zeroValue155
  t105 := Tryz.underlying172
  a105 := Tryz.isAgg172
  z105 := Tryz.sizeOf172
  v105 := Tryz.zeroValue172
  t119 := Tryz.underlying128
  a119 := Tryz.isAgg128
  z119 := Tryz.sizeOf128
  t138 := Tryz.underlying233
  a138 := Tryz.isAgg233
  z138 := Tryz.sizeOf233
  v138 := Tryz.zeroValue233
  t139 := Tryz.underlying234
  a139 := Tryz.isAgg234
  z139 := Tryz.sizeOf234
  v139 := Tryz.zeroValue234
  t141 := Tryz.underlying178
  a141 := Tryz.isAgg178
  z141 := Tryz.sizeOf178
  v141 := Tryz.zeroValue178
  t193 := Tryz.underlying210
  a193 := Tryz.isAgg210
  z193 := Tryz.sizeOf210
  v193 := Tryz.zeroValue210
  t194 := Tryz.underlying211
  a194 := Tryz.isAgg211
  z194 := Tryz.sizeOf211
  v194 := Tryz.zeroValue211
  t196 := Tryz.underlying213
  a196 := Tryz.isAgg213
  z196 := Tryz.sizeOf213
  v196 := Tryz.zeroValue213
  t198 := Tryz.underlying216
  a198 := Tryz.isAgg216
  z198 := Tryz.sizeOf216
  v198 := Tryz.zeroValue216
  t201 := Tryz.underlying219
  a201 := Tryz.isAgg219
  z201 := Tryz.sizeOf219
  v201 := Tryz.zeroValue219
  t226 := Tryz.underlying238
  a226 := Tryz.isAgg238
  z226 := Tryz.sizeOf238
  v226 := Tryz.zeroValue238
  t227 := Tryz.underlying239
  a227 := Tryz.isAgg239
  z227 := Tryz.sizeOf239
  v227 := Tryz.zeroValue239
  g0 := by kernel_rfl
  g3 := by kernel_rfl
  g4 := by kernel_rfl
  g6 := by kernel_rfl }
theorem Tryz.Space_Extra_163 : Space.Extra Tryz.prog Tryz.lays163_ren := {
  gNamed := by kernel_rfl }
open Go.RowKit in
theorem Tryz.strings_TrimSpace (s : ByteArray) (w : World) (hs : s.size ≤ 9223372036854775807) (hascii : ∀ (j : Nat) b, s.data.toList[j]? = some b → b.toNat < 128) (htab : Lib.TabIs Tryz.prog w "strings.asciiSpace" .u8 Lib.asciiSpaceTab) :
    Calls Tryz.prog 54 #[.string s] w fun e w' => e = .returned (.string ⟨(Lib.trimSpace s.data.toList).toArray⟩) ∧ w' = Lib.bytesWorld w 5 s := Any.strings_TrimSpace Tryz.lays163 Tryz.Space_Extra_163 s w hs hascii htab
def Tryz.lays137_ren : Go.Shelf.Ren := ⟨fun | 137 => 86 | 217 => 123 | 266 => 126 | n => n, fun | 9 => 9 | 5 => 5 | 3 => 3 | n => n, fun | n => n⟩
theorem Tryz.lays137 : Go.Proofs.Lays.n137 Tryz.prog Tryz.lays137_ren := {
  mixed := by kernel_rfl
  f137 := Tryz.func86.trans (congrArg some (by kernel_rfl))
  f217 := Tryz.func123.trans (congrArg some (by kernel_rfl))
  f266 := Tryz.func126.trans (congrArg some (by kernel_rfl))
  t3 := Tryz.underlying3
  a3 := Tryz.isAgg3
  z3 := Tryz.sizeOf3
  v3 := Tryz.zeroValue3
  t5 := Tryz.underlying5
  a5 := Tryz.isAgg5
  z5 := Tryz.sizeOf5
  v5 := Tryz.zeroValue5
  t9 := Tryz.underlying9
  a9 := Tryz.isAgg9
  z9 := Tryz.sizeOf9
  v9 := Tryz.zeroValue9 }
open Go.RowKit in

theorem Tryz.strings_IndexByte (s : ByteArray) (c : Int) (w : World) :
    Calls Tryz.prog 86 #[.string s, .int .u8 c] w fun e w' => e = .returned (.int .i64 (Lib.indexByte s.data.toList c.toNat.toUInt8)) ∧ w' = w := Any.strings_IndexByte Tryz.lays137 s c w
def Tryz.laysM171_ren : Go.Shelf.Ren := ⟨fun | 171 => 41 | 243 => 49 | 246 => 63 | 283 => 97 | 284 => 98 | 285 => 99 | 286 => 100 | 129 => 132 | 317 => 131 | 318 => 133 | 319 => 134 | 320 => 135 | 337 => 159 | 338 => 160 | n => n, fun | 3 => 3 | 9 => 9 | 2 => 2 | 4 => 4 | 171 => 159 | 0 => 0 | 53 => 101 | 37 => 46 | 5 => 5 | 173 => 161 | 212 => 192 | 51 => 155 | 20 => 20 | 213 => 193 | 46 => 81 | 232 => 240 | 233 => 231 | n => n, fun | 17 => 5 | 18 => 11 | 19 => 12 | n => n⟩
theorem Tryz.laysM171 : Go.Proofs.LaysM.n171 Tryz.prog Tryz.laysM171_ren := {
  mixed := by kernel_rfl
  f129 := Tryz.func132.trans (congrArg some (by kernel_rfl))
  f171 := Tryz.func41.trans (congrArg some (by kernel_rfl))
  f243 := Tryz.func49.trans (congrArg some (by kernel_rfl))
  f246 := Tryz.func63.trans (congrArg some (by kernel_rfl))
  f283 := Tryz.func97.trans (congrArg some (by kernel_rfl))
  f284 := Tryz.func98.trans (congrArg some (by kernel_rfl))
  f285 := Tryz.func99.trans (congrArg some (by kernel_rfl))
  f286 := Tryz.func100.trans (congrArg some (by kernel_rfl))
  f317 := Tryz.func131.trans (congrArg some (by kernel_rfl))
  f318 := Tryz.func133.trans (congrArg some (by kernel_rfl))
  f319 := Tryz.func134.trans (congrArg some (by kernel_rfl))
  f320 := Tryz.func135.trans (congrArg some (by kernel_rfl))
  f337 := Tryz.func159.trans (congrArg some (by kernel_rfl))
  f338 := Tryz.func160.trans (congrArg some (by kernel_rfl))
  t0 := Tryz.underlying0
  a0 := Tryz.isAgg0
  z0 := Tryz.sizeOf0
  v0 := Tryz.zeroValue0
  t2 := Tryz.underlying2
  a2 := Tryz.isAgg2
  z2 := Tryz.sizeOf2
  v2 := Tryz.zeroValue2
  t3 := Tryz.underlying3
  a3 := Tryz.isAgg3
  z3 := Tryz.sizeOf3
  v3 := Tryz.zeroValue3
  t4 := Tryz.underlying4
  a4 := Tryz.isAgg4
  z4 := Tryz.sizeOf4
  v4 := Tryz.zeroValue4
  t5 := Tryz.underlying5
  a5 := Tryz.isAgg5
  z5 := Tryz.sizeOf5
  v5 := Tryz.zeroValue5
  t9 := Tryz.underlying9
  a9 := Tryz.isAgg9
  z9 := Tryz.sizeOf9
  v9 := Tryz.zeroValue9
  t20 := Tryz.underlying20
  a20 := Tryz.isAgg20
  z20 := Tryz.sizeOf20
  v20 := Tryz.zeroValue20
  t37 := Tryz.underlying46
  a37 := Tryz.isAgg46
  z37 := Tryz.sizeOf46
  v37 := Tryz.zeroValue46
  t46 := Tryz.underlying81
  a46 := Tryz.isAgg81
  z46 := Tryz.sizeOf81
  v46 := Tryz.zeroValue81
  t51 := Tryz.underlying155
  a51 := Tryz.isAgg155
  z51 := Tryz.sizeOf155
  v51 := Tryz.zeroValue155
  t53 := Tryz.underlying101
  a53 := Tryz.isAgg101
  z53 := Tryz.sizeOf101
  v53 := Tryz.zeroValue101
  t171 := Tryz.underlying159
  a171 := Tryz.isAgg159
  z171 := Tryz.sizeOf159
  v171 := Tryz.zeroValue159
  t173 := Tryz.underlying161
  a173 := Tryz.isAgg161
  z173 := Tryz.sizeOf161
  v173 := Tryz.zeroValue161
  t212 := Tryz.underlying192
  a212 := Tryz.isAgg192
  z212 := Tryz.sizeOf192
  v212 := Tryz.zeroValue192
  t213 := Tryz.underlying193
  a213 := Tryz.isAgg193
  z213 := Tryz.sizeOf193
  t232 := Tryz.underlying240
  a232 := Tryz.isAgg240
  z232 := Tryz.sizeOf240
  v232 := Tryz.zeroValue240
  t233 := Tryz.underlying231
  a233 := Tryz.isAgg231
  z233 := Tryz.sizeOf231
  v233 := Tryz.zeroValue231
  g17 := by kernel_rfl
  g18 := by kernel_rfl
  g19 := by kernel_rfl
  i0 := by kernel_rfl
  i2 := by kernel_rfl
  i3 := by kernel_rfl
  i4 := by kernel_rfl
  i5 := by kernel_rfl
  i9 := by kernel_rfl
  i20 := by kernel_rfl
  i37 := by kernel_rfl
  i46 := by kernel_rfl
  i51 := by kernel_rfl
  i53 := by kernel_rfl
  i171 := by kernel_rfl
  i173 := by kernel_rfl
  i212 := by kernel_rfl
  i232 := by kernel_rfl
  i233 := by kernel_rfl
  m17 := by kernel_rfl
  m18 := by kernel_rfl
  m19 := by kernel_rfl }
open Go.RowKit Go.Sort Go.Lib in

theorem Tryz.strconv_Itoa (n : Int) (h0 : -9223372036854775808 ≤ n) (h1 : n ≤ 9223372036854775807) (w : World) (htab : Lib.TabIs Tryz.prog w "internal/strconv.uint64pow10" .u64 Lib.pow10Tab) :
    Calls Tryz.prog 41 #[.int .i64 n] w fun e w' => e = .returned (.string ⟨(Lib.itoa n).toArray⟩) ∧ ∃ k os, w' = grow (w.drewN k) os := Any.strconv_Itoa Tryz.laysM171 n h0 h1 w htab
def Tryz.lays149_ren : Go.Shelf.Ren := ⟨fun | 149 => 85 | 222 => 122 | n => n, fun | 9 => 9 | 5 => 5 | 3 => 3 | 4 => 4 | n => n, fun | n => n⟩
theorem Tryz.lays149 : Go.Proofs.Lays.n149 Tryz.prog Tryz.lays149_ren := {
  mixed := by kernel_rfl
  f149 := Tryz.func85.trans (congrArg some (by kernel_rfl))
  f222 := Tryz.func122.trans (congrArg some (by kernel_rfl))
  t3 := Tryz.underlying3
  a3 := Tryz.isAgg3
  z3 := Tryz.sizeOf3
  v3 := Tryz.zeroValue3
  t4 := Tryz.underlying4
  a4 := Tryz.isAgg4
  z4 := Tryz.sizeOf4
  v4 := Tryz.zeroValue4
  t5 := Tryz.underlying5
  a5 := Tryz.isAgg5
  z5 := Tryz.sizeOf5
  v5 := Tryz.zeroValue5
  t9 := Tryz.underlying9
  a9 := Tryz.isAgg9
  z9 := Tryz.sizeOf9
  v9 := Tryz.zeroValue9 }
open Go.RowKit Go.Lib in

theorem Tryz.strings_LastIndexByte (s : ByteArray) (c : Int) (hs : s.size < 4611686018427387904) (w : World) :
    Calls Tryz.prog 85 #[.string s, .int .u8 c] w fun e w' => e = .returned (.int .i64 (Lib.lastIndexByte s c)) ∧ w' = w := Any.strings_LastIndexByte Tryz.lays149 s c hs w
def Tryz.lays148_ren : Go.Shelf.Ren := ⟨fun | 148 => 163 | 222 => 122 | 223 => 175 | 269 => 177 | n => n, fun | 9 => 9 | 3 => 3 | 4 => 4 | 5 => 5 | 146 => 251 | 51 => 155 | 46 => 81 | n => n, fun | n => n⟩
theorem Tryz.lays148 : Go.Proofs.Lays.n148 Tryz.prog Tryz.lays148_ren := {
  mixed := by kernel_rfl
  f148 := Tryz.func163.trans (congrArg some (by kernel_rfl))
  f222 := Tryz.func122.trans (congrArg some (by kernel_rfl))
  f223 := Tryz.func175.trans (congrArg some (by kernel_rfl))
  f269 := Tryz.func177.trans (congrArg some (by kernel_rfl))
  t3 := Tryz.underlying3
  a3 := Tryz.isAgg3
  z3 := Tryz.sizeOf3
  v3 := Tryz.zeroValue3
  t4 := Tryz.underlying4
  a4 := Tryz.isAgg4
  z4 := Tryz.sizeOf4
  v4 := Tryz.zeroValue4
  t5 := Tryz.underlying5
  a5 := Tryz.isAgg5
  z5 := Tryz.sizeOf5
  v5 := Tryz.zeroValue5
  t9 := Tryz.underlying9
  a9 := Tryz.isAgg9
  z9 := Tryz.sizeOf9
  v9 := Tryz.zeroValue9
  t46 := Tryz.underlying81
  a46 := Tryz.isAgg81
  z46 := Tryz.sizeOf81
  v46 := Tryz.zeroValue81
  t51 := Tryz.underlying155
  a51 := Tryz.isAgg155
  z51 := Tryz.sizeOf155
  v51 := Tryz.zeroValue155
  t146 := Tryz.underlying251
  a146 := Tryz.isAgg251
  z146 := Tryz.sizeOf251
  v146 := Tryz.zeroValue251 }
open Go.RowKit Go.Lib in

theorem Tryz.strings_LastIndex_one (s sub : ByteArray) (h1 : sub.size = 1) (hs : s.size < 4611686018427387904) (w : World) :
    Calls Tryz.prog 163 #[.string s, .string sub] w fun e w' => e = .returned (.int .i64 (Lib.lastIndexByte s ((sub[0]'(by omega)).toNat : Int))) ∧ w' = w := Any.strings_LastIndex_one Tryz.lays148 s sub h1 hs w
open Go.RowKit Go.Lib in

theorem Tryz.strings_LastIndex_empty (s sub : ByteArray) (h0 : sub.size = 0) (w : World) :
    Calls Tryz.prog 163 #[.string s, .string sub] w fun e w' => e = .returned (.int .i64 s.size) ∧ w' = w := Any.strings_LastIndex_empty Tryz.lays148 s sub h0 w
open Go.RowKit Go.Lib in

theorem Tryz.strings_LastIndex_longer (s sub : ByteArray) (h2 : 2 ≤ sub.size) (hl : s.size < sub.size) (w : World) :
    Calls Tryz.prog 163 #[.string s, .string sub] w fun e w' => e = .returned (.int .i64 (-1)) ∧ w' = w := Any.strings_LastIndex_longer Tryz.lays148 s sub h2 hl w
def Tryz.lays99_ren : Go.Shelf.Ren := ⟨fun | 99 => 58 | 206 => 88 | n => n, fun | 9 => 9 | 4 => 4 | 3 => 3 | n => n, fun | n => n⟩
theorem Tryz.lays99 : Go.Proofs.Lays.n99 Tryz.prog Tryz.lays99_ren := {
  mixed := by kernel_rfl
  f99 := Tryz.func58.trans (congrArg some (by kernel_rfl))
  f206 := Tryz.func88.trans (congrArg some (by kernel_rfl))
  t3 := Tryz.underlying3
  a3 := Tryz.isAgg3
  z3 := Tryz.sizeOf3
  v3 := Tryz.zeroValue3
  t4 := Tryz.underlying4
  a4 := Tryz.isAgg4
  z4 := Tryz.sizeOf4
  v4 := Tryz.zeroValue4
  t9 := Tryz.underlying9
  a9 := Tryz.isAgg9
  z9 := Tryz.sizeOf9
  v9 := Tryz.zeroValue9 }
open Go.RowKit Go.Lib in

theorem Tryz.strings_HasPrefix (s p : ByteArray) (w : World) :
    Calls Tryz.prog 58 #[.string s, .string p] w fun e w' => e = .returned (.bool (Lib.hasPrefix s.data.toList p.data.toList)) ∧ w' = w := Any.strings_HasPrefix Tryz.lays99 s p w
def Tryz.lays100_ren : Go.Shelf.Ren := ⟨fun | 100 => 140 | 207 => 162 | n => n, fun | 9 => 9 | 4 => 4 | 3 => 3 | n => n, fun | n => n⟩
theorem Tryz.lays100 : Go.Proofs.Lays.n100 Tryz.prog Tryz.lays100_ren := {
  mixed := by kernel_rfl
  f100 := Tryz.func140.trans (congrArg some (by kernel_rfl))
  f207 := Tryz.func162.trans (congrArg some (by kernel_rfl))
  t3 := Tryz.underlying3
  a3 := Tryz.isAgg3
  z3 := Tryz.sizeOf3
  v3 := Tryz.zeroValue3
  t4 := Tryz.underlying4
  a4 := Tryz.isAgg4
  z4 := Tryz.sizeOf4
  v4 := Tryz.zeroValue4
  t9 := Tryz.underlying9
  a9 := Tryz.isAgg9
  z9 := Tryz.sizeOf9
  v9 := Tryz.zeroValue9 }
open Go.RowKit Go.Lib in

theorem Tryz.strings_HasSuffix (s p : ByteArray) (w : World) (hs : s.size ≤ 9223372036854775807) :
    Calls Tryz.prog 140 #[.string s, .string p] w fun e w' => e = .returned (.bool (Lib.hasSuffix s.data.toList p.data.toList)) ∧ w' = w := Any.strings_HasSuffix Tryz.lays100 s p w hs
end Go.Proofs
