/- FnParse: the texts Shelf P6 P7 of the workbench, laid together. -/
import Derived.Shelf.Strings.Builder1
import Derived.Shelf.Strings.Builder2
import Derived.Shelf.Strings.OnBuilder
import Derived.Shelf.Small.Utf8
import Derived.Shelf.Small.Bits
import Derived.Shelf.Small.Wraps
import Derived.Shelf.Strings.BuilderF
import Derived.Shelf.Strings.BuilderK
import Derived.Shelf.Strings.BuilderRune
import Derived.Shelf.Utf8.AppendRune
import Derived.Shelf.Strconv.Atoi
import Derived.Shelf.Strconv.Itoa0
import Derived.Shelf.Strconv.Itoa1
import Derived.Shelf.LaysM
import Derived.Shelf.Strconv.Itoa2
import Derived.Shelf.Strconv.Itoa3
import Derived.Shelf.Strconv.AtoiErrFast
import Derived.Shelf.Strconv.ParseIntEmpty
import Derived.Shelf.Strconv.AtoiFail
import Derived.Shelf.Strconv.Clone
import Derived.Shelf.Strconv.SyntaxError
import Derived.Shelf.LaysC
import Derived.Shelf.Strconv.ToError
import Derived.Shelf.Strconv.AtoiErr
import Derived.Shelf.Strconv.Lower
import Derived.Shelf.Strconv.ParseUint10
import Derived.Shelf.Strconv.ParseUint10Empty
import Derived.Shelf.Strconv.ParseUint10Any
import Derived.Shelf.Strconv.ParseInt10
import Derived.Shelf.Strconv.AtoiLong
import Derived.Shelf.Strconv.AtoiInnerAll
import Derived.Shelf.Strconv.RangeError
import Derived.Shelf.Strconv.ToErrorRange
import Derived.Shelf.Strconv.AtoiAll
import Derived.Shelf.Strconv.ErrVarAll
import Derived.Shelf.Strconv.ParseUintEmpty
import Derived.Shelf.Strconv.ParseUint10b64
import Derived.Shelf.Strconv.ParseUint10b32
import Derived.Shelf.Strconv.ParseUint10b16
import Derived.Shelf.Strconv.ParseUint10b8
import Derived.Shelf.Strconv.ParseUint10At
import Derived.Shelf.Strconv.ParseInt10At64
import Derived.Shelf.Strconv.ParseInt10At32
import Derived.Shelf.Strconv.ParseInt10At16
import Derived.Shelf.Strconv.ParseInt10At8
import Derived.Shelf.Strconv.ParseInt10All
import Derived.Shelf.Sort.Plain
import Derived.Shelf.GgClosure.StringsIndexFunc
import Derived.Shelf.GgClosure.StringsTrimFunc
import Derived.Shelf.GgClosure.StringsRunes
import Derived.Shelf.Strings.Prefix
import Derived.Shelf.Unicode.Decode
import Derived.Shelf.Bits.Mul64
import Derived.Shelf.Unicode.DecodeSlow
import Derived.Shelf.Unicode.DecodeAny
import Derived.Shelf.Unicode.DecodeLast
import Derived.Shelf.Strings.FuncGrows
import Derived.Shelf.Slices.In.SortNone
import Derived.Shelf.Slices.In.SortNone2
import Derived.Ground.PaProg
import Derived.Shelf.Hex.Lens
import Derived.Shelf.Hex.Encode
import Derived.Shelf.Hex.Decode
import Derived.Shelf.Hex.DecodeOwns
import Derived.Shelf.Hex.More
import Derived.Test.YtfkecmlmnhbmoaaGreatDoorProg
import Derived.Test.YtfkecmlmnhbmoaaGreatDoorZ8
set_option linter.unusedVariables false
set_option linter.unusedSimpArgs false
namespace Go.Proofs
open Go.Shelf
def Tryz.lays169_ren:Go.Shelf.Ren:=⟨fun | 169=>219 | n=>n,fun | 70=>294 | 9=>9 | 0=>0 | 72=>296 | 37=>84 | 127=>232 | 3=>3 | 5=>5 | n=>n,fun | n=>n⟩
theorem Tryz.lays169:Go.Proofs.Lays.n169 Tryz.prog Tryz.lays169_ren:={
  mixed:=by kernel_rfl
  f169:=Tryz.func219.trans (congrArg some (by kernel_rfl))
  t0:=Tryz.underlying0
  a0:=Tryz.isAgg0
  z0:=Tryz.sizeOf0
  v0:=Tryz.zeroValue0
  t3:=Tryz.underlying3
  a3:=Tryz.isAgg3
  z3:=Tryz.sizeOf3
  v3:=Tryz.zeroValue3
  t9:=Tryz.underlying9
  a9:=Tryz.isAgg9
  z9:=Tryz.sizeOf9
  v9:=Tryz.zeroValue9
  t37:=Tryz.underlying84
  a37:=Tryz.isAgg84
  z37:=Tryz.sizeOf84
  v37:=Tryz.zeroValue84
  t70:=Tryz.underlying294
  a70:=Tryz.isAgg294
  z70:=Tryz.sizeOf294
  v70:=Tryz.zeroValue294
  t72:=Tryz.underlying296
  a72:=Tryz.isAgg296
  z72:=Tryz.sizeOf296
  v72:=Tryz.zeroValue296
  t127:=Tryz.underlying232
  a127:=Tryz.isAgg232
  z127:=Tryz.sizeOf232
  v127:=Tryz.zeroValue232 }
theorem Tryz.Builder_Extra_169:Builder.Extra Tryz.prog Tryz.lays169_ren:={
  sizeBuilder:=by kernel_rfl
  liesBuilder:=by kernel_rfl
  t5:=Tryz.underlying5
  a5:=Tryz.isAgg5
  z5:=Tryz.sizeOf5
  v5:=Tryz.zeroValue5
  infoByte:=by kernel_rfl
  cellsByte:=by kernel_rfl
  sizeByte:=by kernel_rfl
  neB5:=by decide }
open Go.RowKit in
theorem Tryz.Builder_String_any (B b:Nat) (l:List UInt8) (w:World) (h:Lib.IsBuilder 296 5 B b (Lib.byteCells l) w) (hBw:B≤w.heap.size) :
    Calls Tryz.prog 219 #[.pointer (some ⟨b,0,none⟩)] w fun e w'=>e=.returned (.string ⟨l.toArray⟩)∧Below B w w':=Any.Builder_String_any Tryz.lays169 Tryz.Builder_Extra_169 B b l w h hBw
def Tryz.lays129_ren:Go.Shelf.Ren:=⟨fun | 129=>116 | n=>n,fun | 53=>171 | 3=>3 | 4=>4 | 46=>197 | 5=>5 | 9=>9 | n=>n,fun | n=>n⟩
theorem Tryz.lays129:Go.Proofs.Lays.n129 Tryz.prog Tryz.lays129_ren:={
  mixed:=by kernel_rfl
  f129:=Tryz.func116.trans (congrArg some (by kernel_rfl))
  t3:=Tryz.underlying3
  a3:=Tryz.isAgg3
  z3:=Tryz.sizeOf3
  v3:=Tryz.zeroValue3
  t4:=Tryz.underlying4
  a4:=Tryz.isAgg4
  z4:=Tryz.sizeOf4
  v4:=Tryz.zeroValue4
  t5:=Tryz.underlying5
  a5:=Tryz.isAgg5
  z5:=Tryz.sizeOf5
  v5:=Tryz.zeroValue5
  t9:=Tryz.underlying9
  a9:=Tryz.isAgg9
  z9:=Tryz.sizeOf9
  v9:=Tryz.zeroValue9
  t46:=Tryz.underlying197
  a46:=Tryz.isAgg197
  z46:=Tryz.sizeOf197
  v46:=Tryz.zeroValue197
  t53:=Tryz.underlying171
  a53:=Tryz.isAgg171
  z53:=Tryz.sizeOf171
  v53:=Tryz.zeroValue171 }
theorem Tryz.bits_Len64 (x:Int) (w:World) (h0:0≤x) (h1:x≤18446744073709551615) :
    Calls Tryz.prog 116 #[.int .u64 x] w fun e w'=>e=.returned (.int .i64 (Lib.bitLen x.toNat))∧w'=w:=Any.bits_Len64 Tryz.lays129 x w h0 h1
def Tryz.laysC172_ren:Go.Shelf.Ren:=⟨fun | 172=>77 | 244=>92 | 245=>73 | 247=>126 | 279=>86 | 280=>87 | 281=>88 | 282=>89 | 287=>177 | 316=>108 | 171=>110 | 205=>109 | 321=>158 | 322=>199 | 243=>155 | 246=>203 | 283=>204 | 284=>119 | 285=>167 | 286=>205 | 129=>116 | 317=>120 | 318=>168 | 319=>227 | 320=>228 | 337=>237 | 338=>238 | n=>n,fun | 9=>9 | 3=>3 | 75=>92 | 76=>118 | 4=>4 | 5=>5 | 167=>133 | 37=>84 | 0=>0 | 85=>193 | 2=>2 | 168=>134 | 53=>171 | 175=>254 | 46=>197 | 210=>168 | 127=>232 | 145=>235 | 143=>233 | 21=>21 | 171=>185 | 173=>278 | 212=>249 | 51=>172 | 20=>20 | 213=>305 | 232=>178 | 233=>317 | 80=>54 | n=>n,fun | 15=>2 | 16=>3 | 17=>12 | 18=>24 | 19=>25 | n=>n⟩
theorem Tryz.laysC172:Go.Proofs.LaysC.n172 Tryz.prog Tryz.laysC172_ren:={
  mixed:=by kernel_rfl
  f129:=Tryz.func116.trans (congrArg some (by kernel_rfl))
  f171:=Tryz.func110.trans (congrArg some (by kernel_rfl))
  f172:=Tryz.func77.trans (congrArg some (by kernel_rfl))
  f205:=Tryz.func109.trans (congrArg some (by kernel_rfl))
  f243:=Tryz.func155.trans (congrArg some (by kernel_rfl))
  f244:=Tryz.func92.trans (congrArg some (by kernel_rfl))
  f245:=Tryz.func73.trans (congrArg some (by kernel_rfl))
  f246:=Tryz.func203.trans (congrArg some (by kernel_rfl))
  f247:=Tryz.func126.trans (congrArg some (by kernel_rfl))
  f279:=Tryz.func86.trans (congrArg some (by kernel_rfl))
  f280:=Tryz.func87.trans (congrArg some (by kernel_rfl))
  f281:=Tryz.func88.trans (congrArg some (by kernel_rfl))
  f282:=Tryz.func89.trans (congrArg some (by kernel_rfl))
  f283:=Tryz.func204.trans (congrArg some (by kernel_rfl))
  f284:=Tryz.func119.trans (congrArg some (by kernel_rfl))
  f285:=Tryz.func167.trans (congrArg some (by kernel_rfl))
  f286:=Tryz.func205.trans (congrArg some (by kernel_rfl))
  f287:=Tryz.func177.trans (congrArg some (by kernel_rfl))
  f316:=Tryz.func108.trans (congrArg some (by kernel_rfl))
  f317:=Tryz.func120.trans (congrArg some (by kernel_rfl))
  f318:=Tryz.func168.trans (congrArg some (by kernel_rfl))
  f319:=Tryz.func227.trans (congrArg some (by kernel_rfl))
  f320:=Tryz.func228.trans (congrArg some (by kernel_rfl))
  f321:=Tryz.func158.trans (congrArg some (by kernel_rfl))
  f322:=Tryz.func199.trans (congrArg some (by kernel_rfl))
  f337:=Tryz.func237.trans (congrArg some (by kernel_rfl))
  f338:=Tryz.func238.trans (congrArg some (by kernel_rfl))
  t0:=Tryz.underlying0
  a0:=Tryz.isAgg0
  z0:=Tryz.sizeOf0
  v0:=Tryz.zeroValue0
  t2:=Tryz.underlying2
  a2:=Tryz.isAgg2
  z2:=Tryz.sizeOf2
  v2:=Tryz.zeroValue2
  t3:=Tryz.underlying3
  a3:=Tryz.isAgg3
  z3:=Tryz.sizeOf3
  v3:=Tryz.zeroValue3
  t4:=Tryz.underlying4
  a4:=Tryz.isAgg4
  z4:=Tryz.sizeOf4
  v4:=Tryz.zeroValue4
  t5:=Tryz.underlying5
  a5:=Tryz.isAgg5
  z5:=Tryz.sizeOf5
  v5:=Tryz.zeroValue5
  t9:=Tryz.underlying9
  a9:=Tryz.isAgg9
  z9:=Tryz.sizeOf9
  v9:=Tryz.zeroValue9
  t20:=Tryz.underlying20
  a20:=Tryz.isAgg20
  z20:=Tryz.sizeOf20
  v20:=Tryz.zeroValue20
  t21:=Tryz.underlying21
  a21:=Tryz.isAgg21
  z21:=Tryz.sizeOf21
  v21:=Tryz.zeroValue21
  t37:=Tryz.underlying84
  a37:=Tryz.isAgg84
  z37:=Tryz.sizeOf84
  v37:=Tryz.zeroValue84
  t46:=Tryz.underlying197
  a46:=Tryz.isAgg197
  z46:=Tryz.sizeOf197
  v46:=Tryz.zeroValue197
  t51:=Tryz.underlying172
  a51:=Tryz.isAgg172
  z51:=Tryz.sizeOf172
  v51:=Tryz.zeroValue172
  t53:=Tryz.underlying171
  a53:=Tryz.isAgg171
  z53:=Tryz.sizeOf171
  v53:=Tryz.zeroValue171
  t75:=Tryz.underlying92
  a75:=Tryz.isAgg92
  z75:=Tryz.sizeOf92
  v75:=Tryz.zeroValue92
  t76:=Tryz.underlying118
  a76:=Tryz.isAgg118
  z76:=Tryz.sizeOf118
  v76:=Tryz.zeroValue118
  t85:=Tryz.underlying193
  a85:=Tryz.isAgg193
  z85:=Tryz.sizeOf193
  v85:=Tryz.zeroValue193
  t127:=Tryz.underlying232
  a127:=Tryz.isAgg232
  z127:=Tryz.sizeOf232
  v127:=Tryz.zeroValue232
  t143:=Tryz.underlying233
  a143:=Tryz.isAgg233
  z143:=Tryz.sizeOf233
  v143:=Tryz.zeroValue233
  t145:=Tryz.underlying235
  a145:=Tryz.isAgg235
  z145:=Tryz.sizeOf235
  v145:=Tryz.zeroValue235
  t167:=Tryz.underlying133
  a167:=Tryz.isAgg133
  z167:=Tryz.sizeOf133
  v167:=Tryz.zeroValue133
  t168:=Tryz.underlying134
  a168:=Tryz.isAgg134
  z168:=Tryz.sizeOf134
  v168:=Tryz.zeroValue134
  t171:=Tryz.underlying185
  a171:=Tryz.isAgg185
  z171:=Tryz.sizeOf185
  v171:=Tryz.zeroValue185
  t173:=Tryz.underlying278
  a173:=Tryz.isAgg278
  z173:=Tryz.sizeOf278
  v173:=Tryz.zeroValue278
  t175:=Tryz.underlying254
  a175:=Tryz.isAgg254
  z175:=Tryz.sizeOf254
  v175:=Tryz.zeroValue254
  t210:=Tryz.underlying168
  a210:=Tryz.isAgg168
  z210:=Tryz.sizeOf168
  v210:=Tryz.zeroValue168
  t212:=Tryz.underlying249
  a212:=Tryz.isAgg249
  z212:=Tryz.sizeOf249
  v212:=Tryz.zeroValue249
  t213:=Tryz.underlying305
  a213:=Tryz.isAgg305
  z213:=Tryz.sizeOf305
  t232:=Tryz.underlying178
  a232:=Tryz.isAgg178
  z232:=Tryz.sizeOf178
  v232:=Tryz.zeroValue178
  t233:=Tryz.underlying317
  a233:=Tryz.isAgg317
  z233:=Tryz.sizeOf317
  v233:=Tryz.zeroValue317
  g15:=by kernel_rfl
  g16:=by kernel_rfl
  g17:=by kernel_rfl
  g18:=by kernel_rfl
  g19:=by kernel_rfl
  t80:=Tryz.underlying54
  a80:=Tryz.isAgg54
  z80:=Tryz.sizeOf54
  v80:=Tryz.zeroValue54
  i0:=by kernel_rfl
  i2:=by kernel_rfl
  i3:=by kernel_rfl
  i4:=by kernel_rfl
  i5:=by kernel_rfl
  i9:=by kernel_rfl
  i20:=by kernel_rfl
  i21:=by kernel_rfl
  i37:=by kernel_rfl
  i46:=by kernel_rfl
  i51:=by kernel_rfl
  i53:=by kernel_rfl
  i75:=by kernel_rfl
  i76:=by kernel_rfl
  i80:=by kernel_rfl
  i85:=by kernel_rfl
  i127:=by kernel_rfl
  i143:=by kernel_rfl
  i145:=by kernel_rfl
  i167:=by kernel_rfl
  i168:=by kernel_rfl
  i171:=by kernel_rfl
  i173:=by kernel_rfl
  i175:=by kernel_rfl
  i210:=by kernel_rfl
  i212:=by kernel_rfl
  i232:=by kernel_rfl
  i233:=by kernel_rfl
  m15:=by kernel_rfl
  m16:=by kernel_rfl
  m17:=by kernel_rfl
  m18:=by kernel_rfl
  m19:=by kernel_rfl
  c0:=by kernel_rfl
  c2:=by kernel_rfl
  c3:=by kernel_rfl
  c4:=by kernel_rfl
  c5:=by kernel_rfl
  c9:=by kernel_rfl
  c20:=by kernel_rfl
  c21:=by kernel_rfl
  c37:=by kernel_rfl
  c46:=by kernel_rfl
  c51:=by kernel_rfl
  c53:=by kernel_rfl
  c75:=by kernel_rfl
  c76:=by kernel_rfl
  c80:=by kernel_rfl
  c85:=by kernel_rfl
  c127:=by kernel_rfl
  c143:=by kernel_rfl
  c145:=by kernel_rfl
  c167:=by kernel_rfl
  c168:=by kernel_rfl
  c171:=by kernel_rfl
  c173:=by kernel_rfl
  c175:=by kernel_rfl
  c210:=by kernel_rfl
  c212:=by kernel_rfl
  c213:=by kernel_rfl
  c232:=by kernel_rfl
  c233:=by kernel_rfl }
open Go.RowKit in
theorem Tryz.strconv_Atoi_ok (s:ByteArray) (hmax:s.size≤9223372036854775806) (v:Int) (h:Lib.atoiAll s.data.toList=.ok v) (w:World) :
    Calls Tryz.prog 77 #[.string s] w fun e w'=>e=.returned (.tuple #[.int .i64 v,.nilIface])∧(w'=w∨∃ t,w'=Lib.bytesWorld w 5 t):=Any.strconv_Atoi_ok Tryz.laysC172 s hmax v h w
open Go.RowKit in
theorem Tryz.strconv_Atoi_syntax (s:ByteArray) (hlim:s.size≤281474976710656) (h:Lib.atoiAll s.data.toList=Lib.atoiAll []) (ev:Value) (w:World) (hv:w.cell? ⟨2,0,none⟩=some ev) (hev:ev=.nilIface∨∃ te pe,ev=.iface te pe) :
    Calls Tryz.prog 77 #[.string s] w fun e w'=>∃ N,e=.returned (.tuple #[.int .i64 (0),.iface 134 (.pointer (some ⟨N,0,none⟩))])∧w.heap.size≤N∧w'.heap[N]?=some (.cells #[.string ⟨#[65,116,111,105]⟩,.string s,ev] 168 (0,0))∧Below w.heap.size w w':=Any.strconv_Atoi_syntax Tryz.laysC172 s hlim h ev w hv hev
open Go.RowKit in
theorem Tryz.strconv_Atoi_range (s:ByteArray) (hlim:s.size≤281474976710656) (h:Lib.atoiAll s.data.toList=.range) (ev:Value) (w:World) (hv:w.cell? ⟨3,0,none⟩=some ev) (hev:ev=.nilIface∨∃ te pe,ev=.iface te pe) :
    Calls Tryz.prog 77 #[.string s] w fun e w'=>∃ N,e=.returned (.tuple #[.int .i64 (Lib.atoiSat s.data.toList),.iface 134 (.pointer (some ⟨N,0,none⟩))])∧w.heap.size≤N∧w'.heap[N]?=some (.cells #[.string ⟨#[65,116,111,105]⟩,.string s,ev] 168 (0,0))∧Below w.heap.size w w':=Any.strconv_Atoi_range Tryz.laysC172 s hlim h ev w hv hev
def Tryz.lays192_ren:Go.Shelf.Ren:=⟨fun | 192=>78 | 190=>93 | 125=>128 | 258=>127 | 128=>187 | 129=>116 | 302=>178 | 303=>179 | 304=>180 | 305=>181 | 306=>182 | 307=>183 | 308=>184 | 309=>185 | 310=>186 | 333=>209 | 329=>210 | 330=>211 | 334=>212 | 335=>213 | 336=>214 | 344=>229 | n=>n,fun | 31=>23 | 0=>0 | 9=>9 | 3=>3 | 46=>197 | 51=>172 | 53=>171 | 4=>4 | 183=>258 | 182=>257 | 131=>262 | 5=>5 | 218=>290 | 222=>46 | 228=>307 | 229=>182 | n=>n,fun | n=>n⟩
theorem Tryz.lays192:Go.Proofs.Lays.n192 Tryz.prog Tryz.lays192_ren:={
  mixed:=by kernel_rfl
  f125:=Tryz.func128.trans (congrArg some (by kernel_rfl))
  f128:=Tryz.func187.trans (congrArg some (by kernel_rfl))
  f129:=Tryz.func116.trans (congrArg some (by kernel_rfl))
  f190:=Tryz.func93.trans (congrArg some (by kernel_rfl))
  f192:=Tryz.func78.trans (congrArg some (by kernel_rfl))
  f258:=Tryz.func127.trans (congrArg some (by kernel_rfl))
  f302:=Tryz.func178.trans (congrArg some (by kernel_rfl))
  f303:=Tryz.func179.trans (congrArg some (by kernel_rfl))
  f304:=Tryz.func180.trans (congrArg some (by kernel_rfl))
  f305:=Tryz.func181.trans (congrArg some (by kernel_rfl))
  f306:=Tryz.func182.trans (congrArg some (by kernel_rfl))
  f307:=Tryz.func183.trans (congrArg some (by kernel_rfl))
  f308:=Tryz.func184.trans (congrArg some (by kernel_rfl))
  f309:=Tryz.func185.trans (congrArg some (by kernel_rfl))
  f310:=Tryz.func186.trans (congrArg some (by kernel_rfl))
  f329:=Tryz.func210.trans (congrArg some (by kernel_rfl))
  f330:=Tryz.func211.trans (congrArg some (by kernel_rfl))
  f333:=Tryz.func209.trans (congrArg some (by kernel_rfl))
  f334:=Tryz.func212.trans (congrArg some (by kernel_rfl))
  f335:=Tryz.func213.trans (congrArg some (by kernel_rfl))
  f336:=Tryz.func214.trans (congrArg some (by kernel_rfl))
  f344:=Tryz.func229.trans (congrArg some (by kernel_rfl))
  t0:=Tryz.underlying0
  a0:=Tryz.isAgg0
  z0:=Tryz.sizeOf0
  v0:=Tryz.zeroValue0
  t3:=Tryz.underlying3
  a3:=Tryz.isAgg3
  z3:=Tryz.sizeOf3
  v3:=Tryz.zeroValue3
  t4:=Tryz.underlying4
  a4:=Tryz.isAgg4
  z4:=Tryz.sizeOf4
  v4:=Tryz.zeroValue4
  t5:=Tryz.underlying5
  a5:=Tryz.isAgg5
  z5:=Tryz.sizeOf5
  v5:=Tryz.zeroValue5
  t9:=Tryz.underlying9
  a9:=Tryz.isAgg9
  z9:=Tryz.sizeOf9
  v9:=Tryz.zeroValue9
  t31:=Tryz.underlying23
  a31:=Tryz.isAgg23
  z31:=Tryz.sizeOf23
  v31:=Tryz.zeroValue23
  t46:=Tryz.underlying197
  a46:=Tryz.isAgg197
  z46:=Tryz.sizeOf197
  v46:=Tryz.zeroValue197
  t51:=Tryz.underlying172
  a51:=Tryz.isAgg172
  z51:=Tryz.sizeOf172
  v51:=Tryz.zeroValue172
  t53:=Tryz.underlying171
  a53:=Tryz.isAgg171
  z53:=Tryz.sizeOf171
  v53:=Tryz.zeroValue171
  t131:=Tryz.underlying262
  a131:=Tryz.isAgg262
  z131:=Tryz.sizeOf262
  v131:=Tryz.zeroValue262
  t182:=Tryz.underlying257
  a182:=Tryz.isAgg257
  z182:=Tryz.sizeOf257
  v182:=Tryz.zeroValue257
  t183:=Tryz.underlying258
  a183:=Tryz.isAgg258
  z183:=Tryz.sizeOf258
  v183:=Tryz.zeroValue258
  t218:=Tryz.underlying290
  a218:=Tryz.isAgg290
  z218:=Tryz.sizeOf290
  v218:=Tryz.zeroValue290
  t222:=Tryz.underlying46
  a222:=Tryz.isAgg46
  z222:=Tryz.sizeOf46
  v222:=Tryz.zeroValue46
  t228:=Tryz.underlying307
  a228:=Tryz.isAgg307
  z228:=Tryz.sizeOf307
  v228:=Tryz.zeroValue307
  t229:=Tryz.underlying182
  a229:=Tryz.isAgg182
  z229:=Tryz.sizeOf182
  v229:=Tryz.zeroValue182 }
open Go.Sort Go.RowKit in
theorem Tryz.sort_Strings (blk off cap:Nat) (ss:List (List UInt8)) (w:World) (hH:Holds encStr w blk off ss.toArray) (hblk:blk < w.heap.size) (hsz:ss.length < 4611686018427387904) :
    Calls Tryz.prog 78 #[.slice (some ⟨blk,off,none⟩) ss.length cap] w fun e w' =>
      e=.returned (.tuple #[])∧∃ n os,w'=grow (putRow encStr (Sort.ahead w n) blk off (ss.mergeSort fun x y=>decide (x≤y)).toArray) os:=Any.sort_Strings Tryz.lays192 blk off cap ss w hH hblk hsz
def Tryz.lays272_ren:Go.Shelf.Ren:=⟨fun | 272=>97 | 315=>129 | n=>n,fun | 9=>9 | 40=>140 | 4=>4 | 3=>3 | 0=>0 | 21=>21 | n=>n,fun | n=>n⟩
theorem Tryz.lays272:Go.Proofs.Lays.n272 Tryz.prog Tryz.lays272_ren:={
  mixed:=by kernel_rfl
  f272:=Tryz.func97.trans (congrArg some (by kernel_rfl))
  f315:=Tryz.func129.trans (congrArg some (by kernel_rfl))
  t0:=Tryz.underlying0
  a0:=Tryz.isAgg0
  z0:=Tryz.sizeOf0
  v0:=Tryz.zeroValue0
  t3:=Tryz.underlying3
  a3:=Tryz.isAgg3
  z3:=Tryz.sizeOf3
  v3:=Tryz.zeroValue3
  t4:=Tryz.underlying4
  a4:=Tryz.isAgg4
  z4:=Tryz.sizeOf4
  v4:=Tryz.zeroValue4
  t9:=Tryz.underlying9
  a9:=Tryz.isAgg9
  z9:=Tryz.sizeOf9
  v9:=Tryz.zeroValue9
  t21:=Tryz.underlying21
  a21:=Tryz.isAgg21
  z21:=Tryz.sizeOf21
  v21:=Tryz.zeroValue21
  t40:=Tryz.underlying140
  a40:=Tryz.isAgg140
  z40:=Tryz.sizeOf140
  v40:=Tryz.zeroValue140 }
open Go.RowKit Go.Lib in
theorem Tryz.strings_TrimLeftFunc (g:Nat) (lb:Array Value) (eg:∀ args w,(callFunc g args).run Tryz.prog w=.ok (.enter g args) w) (p:Nat→Bool) (s:ByteArray) (w:World) (hp:PredAt Tryz.prog g lb encR p w) :
    Calls Tryz.prog 97 #[.string s,.func (.func g) #[] lb] w fun e w'=>e=.returned (.string (Lib.trimLeftF p s))∧Below w.heap.size w w':=Any.strings_TrimLeftFunc Tryz.lays272 g lb eg p s w hp
def Tryz.lays238_ren:Go.Shelf.Ren:=⟨fun | 238=>226 | 273=>235 | 197=>236 | 271=>241 | 260=>242 | 120=>243 | n=>n,fun | 9=>9 | 40=>140 | 4=>4 | 3=>3 | 105=>312 | 21=>21 | 5=>5 | 119=>318 | 0=>0 | 46=>197 | 139=>321 | 138=>320 | n=>n,fun | 3=>26 | 4=>27 | n=>n⟩
theorem Tryz.lays238:Go.Proofs.Lays.n238 Tryz.prog Tryz.lays238_ren:={
  mixed:=by kernel_rfl
  f120:=Tryz.func243.trans (congrArg some (by kernel_rfl))
  f197:=Tryz.func236.trans (congrArg some (by kernel_rfl))
  f238:=Tryz.func226.trans (congrArg some (by kernel_rfl))
  f260:=Tryz.func242.trans (congrArg some (by kernel_rfl))
  f271:=Tryz.func241.trans (congrArg some (by kernel_rfl))
  f273:=Tryz.func235.trans (congrArg some (by kernel_rfl))
  t0:=Tryz.underlying0
  a0:=Tryz.isAgg0
  z0:=Tryz.sizeOf0
  v0:=Tryz.zeroValue0
  t3:=Tryz.underlying3
  a3:=Tryz.isAgg3
  z3:=Tryz.sizeOf3
  v3:=Tryz.zeroValue3
  t4:=Tryz.underlying4
  a4:=Tryz.isAgg4
  z4:=Tryz.sizeOf4
  v4:=Tryz.zeroValue4
  t5:=Tryz.underlying5
  a5:=Tryz.isAgg5
  z5:=Tryz.sizeOf5
  v5:=Tryz.zeroValue5
  t9:=Tryz.underlying9
  a9:=Tryz.isAgg9
  z9:=Tryz.sizeOf9
  v9:=Tryz.zeroValue9
  t21:=Tryz.underlying21
  a21:=Tryz.isAgg21
  z21:=Tryz.sizeOf21
  v21:=Tryz.zeroValue21
  t40:=Tryz.underlying140
  a40:=Tryz.isAgg140
  z40:=Tryz.sizeOf140
  v40:=Tryz.zeroValue140
  t46:=Tryz.underlying197
  a46:=Tryz.isAgg197
  z46:=Tryz.sizeOf197
  v46:=Tryz.zeroValue197
  t105:=Tryz.underlying312
  a105:=Tryz.isAgg312
  z105:=Tryz.sizeOf312
  v105:=Tryz.zeroValue312
  t119:=Tryz.underlying318
  a119:=Tryz.isAgg318
  z119:=Tryz.sizeOf318
  t138:=Tryz.underlying320
  a138:=Tryz.isAgg320
  z138:=Tryz.sizeOf320
  v138:=Tryz.zeroValue320
  t139:=Tryz.underlying321
  a139:=Tryz.isAgg321
  z139:=Tryz.sizeOf321
  v139:=Tryz.zeroValue321
  g3:=by kernel_rfl
  g4:=by kernel_rfl }
open Go.RowKit Go.Lib in
theorem Tryz.strings_TrimRightFunc (g:Nat) (lb:Array Value) (eg:∀ args w,(callFunc g args).run Tryz.prog w=.ok (.enter g args) w) (p:Nat→Bool) (s:ByteArray) (w:World) (hs:s.size≤9223372036854775807) (hT:Lib.Utf8Tabs 26 27 w) (hp:PredAt Tryz.prog g lb encR p w) :
    Calls Tryz.prog 226 #[.string s,.func (.func g) #[] lb] w fun e w'=>e=.returned (.string (Lib.trimRightF p s))∧Below w.heap.size w w':=Any.strings_TrimRightFunc Tryz.lays238 g lb eg p s w hs hT hp
def Tryz.lays99_ren:Go.Shelf.Ren:=⟨fun | 99=>130 | 206=>188 | n=>n,fun | 9=>9 | 4=>4 | 3=>3 | n=>n,fun | n=>n⟩
theorem Tryz.lays99:Go.Proofs.Lays.n99 Tryz.prog Tryz.lays99_ren:={
  mixed:=by kernel_rfl
  f99:=Tryz.func130.trans (congrArg some (by kernel_rfl))
  f206:=Tryz.func188.trans (congrArg some (by kernel_rfl))
  t3:=Tryz.underlying3
  a3:=Tryz.isAgg3
  z3:=Tryz.sizeOf3
  v3:=Tryz.zeroValue3
  t4:=Tryz.underlying4
  a4:=Tryz.isAgg4
  z4:=Tryz.sizeOf4
  v4:=Tryz.zeroValue4
  t9:=Tryz.underlying9
  a9:=Tryz.isAgg9
  z9:=Tryz.sizeOf9
  v9:=Tryz.zeroValue9 }
open Go.RowKit Go.Lib in
theorem Tryz.strings_HasPrefix (s p:ByteArray) (w:World) :
    Calls Tryz.prog 130 #[.string s,.string p] w fun e w'=>e=.returned (.bool (Lib.hasPrefix s.data.toList p.data.toList))∧w'=w:=Any.strings_HasPrefix Tryz.lays99 s p w
def Tryz.lays264_ren:Go.Shelf.Ren:=⟨fun | 264=>206 | n=>n,fun | 53=>171 | 46=>197 | n=>n,fun | n=>n⟩
theorem Tryz.lays264:Go.Proofs.Lays.n264 Tryz.prog Tryz.lays264_ren:={
  mixed:=by kernel_rfl
  f264:=Tryz.func206.trans (congrArg some (by kernel_rfl))
  t46:=Tryz.underlying197
  a46:=Tryz.isAgg197
  z46:=Tryz.sizeOf197
  v46:=Tryz.zeroValue197
  t53:=Tryz.underlying171
  a53:=Tryz.isAgg171
  z53:=Tryz.sizeOf171
  v53:=Tryz.zeroValue171 }
open Go.RowKit Go.Lib in
theorem Tryz.bits_Mul64 (x y:Nat) (hx:x < 18446744073709551616) (hy:y < 18446744073709551616) (w:World) :
    Calls Tryz.prog 206 #[.int .u64 x,.int .u64 y] w fun e w'=>e=.returned (.tuple #[.int .u64 ((x * y / 18446744073709551616:Nat):Int),.int .u64 ((x * y % 18446744073709551616:Nat):Int)])∧w'=w:=Any.bits_Mul64 Tryz.lays264 x y hx hy w
def Tryz.lays260_ren:Go.Shelf.Ren:=⟨fun | 260=>242 | n=>n,fun | 9=>9 | 21=>21 | 3=>3 | 4=>4 | 5=>5 | 119=>318 | 0=>0 | 46=>197 | 139=>321 | 138=>320 | n=>n,fun | 3=>26 | 4=>27 | n=>n⟩
theorem Tryz.lays260:Go.Proofs.Lays.n260 Tryz.prog Tryz.lays260_ren:={
  mixed:=by kernel_rfl
  f260:=Tryz.func242.trans (congrArg some (by kernel_rfl))
  t0:=Tryz.underlying0
  a0:=Tryz.isAgg0
  z0:=Tryz.sizeOf0
  v0:=Tryz.zeroValue0
  t3:=Tryz.underlying3
  a3:=Tryz.isAgg3
  z3:=Tryz.sizeOf3
  v3:=Tryz.zeroValue3
  t4:=Tryz.underlying4
  a4:=Tryz.isAgg4
  z4:=Tryz.sizeOf4
  v4:=Tryz.zeroValue4
  t5:=Tryz.underlying5
  a5:=Tryz.isAgg5
  z5:=Tryz.sizeOf5
  v5:=Tryz.zeroValue5
  t9:=Tryz.underlying9
  a9:=Tryz.isAgg9
  z9:=Tryz.sizeOf9
  v9:=Tryz.zeroValue9
  t21:=Tryz.underlying21
  a21:=Tryz.isAgg21
  z21:=Tryz.sizeOf21
  v21:=Tryz.zeroValue21
  t46:=Tryz.underlying197
  a46:=Tryz.isAgg197
  z46:=Tryz.sizeOf197
  v46:=Tryz.zeroValue197
  t119:=Tryz.underlying318
  a119:=Tryz.isAgg318
  z119:=Tryz.sizeOf318
  t138:=Tryz.underlying320
  a138:=Tryz.isAgg320
  z138:=Tryz.sizeOf320
  v138:=Tryz.zeroValue320
  t139:=Tryz.underlying321
  a139:=Tryz.isAgg321
  z139:=Tryz.sizeOf321
  v139:=Tryz.zeroValue321
  g3:=by kernel_rfl
  g4:=by kernel_rfl }
open Go.RowKit Go.Sort in
theorem Tryz.sort_Strings_none (p:Option Addr) (cap:Nat) (w:World) :
    Calls Tryz.prog 78 #[.slice p 0 cap] w fun e w'=>e=.returned (.tuple #[])∧w'=w:=Any.sort_Strings_none Tryz.lays192 p cap w
def Tryz.laysPah43_ren:Go.Shelf.Ren:=⟨fun | 43=>216 | 42=>231 | 44=>232 | n=>n,fun | 9=>9 | 30=>84 | 35=>92 | 3=>3 | 38=>118 | 4=>4 | 0=>0 | 5=>5 | 47=>316 | 46=>197 | 45=>54 | n=>n,fun | 0=>23 | n=>n⟩
theorem Tryz.laysPah43:Go.Proofs.Lays.ph43 Tryz.prog Tryz.laysPah43_ren:={
  mixed:=by kernel_rfl
  f42:=Tryz.func231.trans (congrArg some (by kernel_rfl))
  f43:=Tryz.func216.trans (congrArg some (by kernel_rfl))
  f44:=Tryz.func232.trans (congrArg some (by kernel_rfl))
  t0:=Tryz.underlying0
  a0:=Tryz.isAgg0
  z0:=Tryz.sizeOf0
  v0:=Tryz.zeroValue0
  t3:=Tryz.underlying3
  a3:=Tryz.isAgg3
  z3:=Tryz.sizeOf3
  v3:=Tryz.zeroValue3
  t4:=Tryz.underlying4
  a4:=Tryz.isAgg4
  z4:=Tryz.sizeOf4
  v4:=Tryz.zeroValue4
  t5:=Tryz.underlying5
  a5:=Tryz.isAgg5
  z5:=Tryz.sizeOf5
  v5:=Tryz.zeroValue5
  t9:=Tryz.underlying9
  a9:=Tryz.isAgg9
  z9:=Tryz.sizeOf9
  v9:=Tryz.zeroValue9
  t30:=Tryz.underlying84
  a30:=Tryz.isAgg84
  z30:=Tryz.sizeOf84
  v30:=Tryz.zeroValue84
  t35:=Tryz.underlying92
  a35:=Tryz.isAgg92
  z35:=Tryz.sizeOf92
  v35:=Tryz.zeroValue92
  t38:=Tryz.underlying118
  a38:=Tryz.isAgg118
  z38:=Tryz.sizeOf118
  v38:=Tryz.zeroValue118
  t45:=Tryz.underlying54
  a45:=Tryz.isAgg54
  z45:=Tryz.sizeOf54
  v45:=Tryz.zeroValue54
  t46:=Tryz.underlying197
  a46:=Tryz.isAgg197
  z46:=Tryz.sizeOf197
  v46:=Tryz.zeroValue197
  t47:=Tryz.underlying316
  a47:=Tryz.isAgg316
  z47:=Tryz.sizeOf316
  v47:=Tryz.zeroValue316
  g0:=by kernel_rfl
  info5:=by kernel_rfl }
open Go.RowKit Go.Lib in
theorem Tryz.hex_DecodeString_owns (s:ByteArray) (w:World) (ev:Value) (hE:w.cell? ⟨23,0,none⟩=some ev) (hbig:s.size≤281474976710656) :
    Calls Tryz.prog 216 #[.string s] w fun e w'=>∃ v,e=.returned (.tuple #[v,Hx.errVal 316 ev (Hx.decode s.data.toList).2]) ∧
      w'.ownsRow w.heap.size 5 1 v (Hx.decode s.data.toList).1.length ((Hx.decode s.data.toList).1.map fun b=>Value.int .u8 (b.toNat:Int))∧Below w.heap.size w w':=Any.hex_DecodeString_owns Tryz.laysPah43 s w ev hE hbig
end Go.Proofs
namespace Go.Proofs.YtfkecmlmnhbmoaaGreatDoor
theorem litF_len:∀ (n:Nat) (l:By) (op:Int) (out o' r:By),l.length≤n→litF l op out=some (o',r)→r.length < l.length:=by
  intro n
  induction n with
  | zero =>
    intro l op out o' r hl h
    obtain rfl:l=[]:=List.eq_nil_of_length_eq_zero (by omega)
    rw [litF_nil] at h;exact absurd h (by simp)
  | succ n ih =>
    intro l op out o' r hl h
    cases l with
    | nil=>rw [litF_nil] at h;exact absurd h (by simp)
    | cons c l =>
      simp only [List.length_cons] at hl ⊢
      have h1:=skip10_len l
      have h2:=escF_len l
      rw [litF_cons] at h
      repeat' split at h
      all_goals first
        | (have:=ih _ _ _ _ _ (by omega) h;omega)
        | (simp at h;obtain ⟨_,rfl⟩:=h;omega)
theorem hexF_len:∀ (l:By) (od:Bool) (half:Int) (out:By) (o:Bool),(hexF l od half out o).1=0→(hexF l od half out o).2.2.1.length < l.length:=by
  intro l
  induction l with
  | nil=>intro od half out o h;simp [hexF] at h
  | cons c l ih =>
    intro od half out o h
    simp only [hexF] at h ⊢
    split at h
    · rename_i hc;simp only [hc,if_true];simp
    · rename_i hc
      simp only [hc]
      simp only [Bool.false_eq_true,if_false]
      split at h
      · rename_i hw;simp only [hw,if_true];exact Nat.lt_succ_of_lt (ih _ _ _ _ h)
      · rename_i hw
        simp only [hw,Bool.false_eq_true,if_false]
        split at h
        · simp at h
        · rename_i hv
          rw [if_neg hv]
          split at h
          · rename_i ho;simp only [ho,if_true];exact Nat.lt_succ_of_lt (ih _ _ _ _ h)
          · rename_i ho;simp only [ho];exact Nat.lt_succ_of_lt (ih _ _ _ _ h)
theorem refF_len {pf:By→Nat} {n:Int} {t l:By} {o:Bool} {x:PV} {r:By} {o':Bool} (h:refF pf n t l o=some (x,r,o')):r.length≤l.length:=by
  have h1:=passM_len false l o
  have h2:=wordR_len (passM false l o).1
  have h3:=passM_len false (wordR (passM false l o).1) (wordO (passM false l o).1 (passM false l o).2)
  have h4:=wordR_len (passM false (wordR (passM false l o).1) (wordO (passM false l o).1 (passM false l o).2)).1
  simp only [refF] at h
  repeat' split at h
  all_goals simp at h
  · obtain ⟨_,rfl,_⟩:=h;exact Nat.le_refl _
  · obtain ⟨_,rfl,_⟩:=h;exact Nat.le_refl _
  · obtain ⟨_,rfl,_⟩:=h;omega
theorem rdNum_len {pf:By→Nat} {l:By} {o:Bool} {x:PV} {r:By} {o':Bool} (h:rdNum pf l o=some (x,r,o')):r.length < l.length:=by
  have hs:(wordT l).length + (wordR l).length=l.length:=by rw [←List.length_append,word_split]
  have hne:wordT l≠[]:=by
    intro e
    simp only [rdNum,e] at h
    simp [wTrue,wFalse,wNull,numF,numStrip,numScan] at h
  have hp:0 < (wordT l).length:=List.length_pos_iff.2 hne
  simp only [rdNum] at h
  repeat' split at h
  · simp at h;obtain ⟨_,rfl,_⟩:=h;omega
  · simp at h;obtain ⟨_,rfl,_⟩:=h;omega
  · simp at h;obtain ⟨_,rfl,_⟩:=h;omega
  · simp at h
  · simp at h;obtain ⟨_,rfl,_⟩:=h;omega
  · have:=refF_len h;omega
theorem rdArr_len {f:By→Bool→Rd PV} (hf:∀ l o x r o',f l o=some (x,r,o')→r.length < l.length):∀ (m:Nat) (l:By) (o:Bool) (acc kids:List PV) (r:By) (o':Bool),rdArr f m l o acc=some (kids,r,o')→r.length < l.length:=by
  intro m
  induction m with
  | zero=>intro l o acc kids r o' h;simp [rdArr] at h
  | succ m ih =>
    intro l o acc kids r o' h
    have h1:=passM_len false l o
    simp only [rdArr] at h
    generalize passM false l o=a at h h1
    obtain ⟨la,oa⟩:=a
    simp only at h h1
    split at h
    · rename_i hc
      simp at h
      obtain ⟨_,rfl,_⟩:=h
      cases la with
      | nil=>simp [headIs] at hc
      | cons c la=>simp at h1 ⊢;omega
    · split at h
      · simp at h
      · rename_i x l2 o2 e
        have:=hf _ _ _ _ _ e
        have:=ih _ _ _ _ _ _ h
        omega
theorem rdDict_len {f:By→Bool→Rd PV} (hf:∀ l o x r o',f l o=some (x,r,o')→r.length < l.length):∀ (m:Nat) (l:By) (o:Bool) (ks:List By) (acc:List PV) (res:List By × List PV) (r:By) (o':Bool),rdDict f m l o ks acc=some (res,r,o')→r.length < l.length:=by
  intro m
  induction m with
  | zero=>intro l o ks acc res r o' h;simp [rdDict] at h
  | succ m ih =>
    intro l o ks acc res r o' h
    have h1:=passM_len false l o
    simp only [rdDict] at h
    generalize passM false l o=a at h h1
    obtain ⟨la,oa⟩:=a
    simp only at h h1
    split at h
    · rename_i hc
      simp at h
      obtain ⟨_,rfl,_⟩:=h
      cases la with
      | nil=>simp [is2] at hc
      | cons c la =>
        cases la with
        | nil=>simp [is2] at hc
        | cons d la=>simp at h1 ⊢;omega
    · split at h
      · rename_i hc
        cases la with
        | nil=>simp [headIs] at hc
        | cons c la =>
          simp only [List.tail_cons] at h
          have h2:=wordR_len la
          simp only [List.length_cons] at h1
          split at h
          · simp at h
          · split at h
            · simp at h
            · split at h
              · simp at h
              · rename_i x l2 o2 e
                have:=hf _ _ _ _ _ e
                have:=ih _ _ _ _ _ _ _ h
                omega
      · simp at h
theorem rdV_len (pf:By→Nat):∀ (n:Nat) (l:By) (o:Bool) (x:PV) (r:By) (o':Bool),rdV pf n l o=some (x,r,o')→r.length < l.length:=by
  intro n
  induction n with
  | zero=>intro l o x r o' h;simp [rdV] at h
  | succ n ih =>
    intro l o x r o' h
    have h1:=passM_len false l o
    simp only [rdV] at h
    generalize passM false l o=a at h h1
    obtain ⟨la,oa⟩:=a
    simp only at h h1
    cases la with
    | nil=>simp at h
    | cons c la =>
      simp only [List.length_cons] at h1
      simp only at h
      split at h
      · simp at h
        obtain ⟨a1,b1,e,_,rfl,_⟩:=h
        have:=litF_len _ _ _ _ _ _ (Nat.le_refl _) e
        simp at this;omega
      · split at h
        · rename_i hc
          cases la with
          | nil=>simp [is2] at hc
          | cons d la =>
            rw [Option.map_eq_some_iff] at h
            obtain ⟨⟨q,r1,o1⟩,e,h⟩:=h
            simp at h
            obtain ⟨_,rfl,_⟩:=h
            have:=rdDict_len ih _ _ _ _ _ _ _ _ e
            simp at h1 this;omega
        · split at h
          · split at h
            · rename_i hh
              simp at h
              obtain ⟨_,rfl,_⟩:=h
              have:=hexF_len _ _ _ _ _ (by simpa using hh)
              omega
            · simp at h
          · split at h
            · simp at h
              obtain ⟨a1,e,_,rfl,_⟩:=h
              have:=wordR_len la
              omega
            · split at h
              · rw [Option.map_eq_some_iff] at h
                obtain ⟨⟨q,r1,o1⟩,e,h⟩:=h
                simp at h
                obtain ⟨_,rfl,_⟩:=h
                have:=rdArr_len ih _ _ _ _ _ _ _ e
                omega
              · split at h
                · simp at h
                · have:=rdNum_len h
                  simp at this;omega
end Go.Proofs.YtfkecmlmnhbmoaaGreatDoor
namespace Go.Proofs.YtfkecmlmnhbmoaaGreatDoor
theorem passM_odd:∀ (l:By) (b o:Bool),(passM b l o).2=false→o=false:=by
  intro l
  induction l with
  | nil=>intro b o h;cases b<;>simpa [passM] using h
  | cons c l ih =>
    intro b o h
    cases b
    all_goals
      simp only [passM] at h
      split at h
    · exact ih _ _ h
    · split at h
      · exact ih _ _ h
      · exact h
    · exact ih _ _ h
    · have:=ih _ _ h
      simp at this
      exact this.1
theorem wordO_odd:∀ (l:By) (o:Bool),wordO l o=false→o=false:=by
  intro l
  induction l with
  | nil=>intro o h;exact h
  | cons c l ih =>
    intro o h
    simp only [wordO] at h
    split at h
    · have:=ih _ h
      simp at this
      exact this.1
    · simp at h;exact h.1
theorem wordO_plain:∀ (l:By),wordO l false=false→(∀ c∈wordT l,isReg (c.toNat:Int)=true∧isPlain (c.toNat:Int)=true)∧∀ c∈(wordR l).head?,isReg (c.toNat:Int)=false∧(c.toNat:Int)≠123∧(c.toNat:Int)≠125∧(c.toNat:Int)≠41:=by
  intro l
  induction l with
  | nil=>intro h;simp [wordT,wordR]
  | cons c l ih =>
    intro h
    simp only [wordO] at h
    by_cases hc:isReg (c.toNat:Int)=true
    · rw [if_pos hc] at h
      have hp:=wordO_odd _ _ h
      simp at hp
      rw [hp] at h
      simp only [Bool.or_false,Bool.not_true] at h
      obtain ⟨h1,h2⟩:=ih h
      have e1:wordT (c::l)=c::wordT l:=by simp only [wordT,List.takeWhile_cons,hc,if_true]
      have e2:wordR (c::l)=wordR l:=by simp only [wordR,List.dropWhile_cons,hc,if_true]
      rw [e1,e2]
      refine ⟨fun d hd=>?_,h2⟩
      rcases List.mem_cons.1 hd with rfl | hd
      · exact ⟨hc,hp⟩
      · exact h1 d hd
    · rw [if_neg hc] at h
      simp at h hc
      simp only [wordT,wordR,List.takeWhile_cons,List.dropWhile_cons,hc]
      simp
      exact ⟨hc,by omega,by omega,by omega⟩
theorem wordR_head (l:By):∀ c∈(wordR l).head?,isReg (c.toNat:Int)=false:=by
  intro c hc
  unfold wordR at hc
  have:=List.head?_dropWhile_not (p:=fun c:UInt8=>isReg (c.toNat:Int)) l
  rw [Option.mem_def] at hc
  rw [hc] at this
  simpa using this
theorem passM_head:∀ (l:By) (b o:Bool),∀ c∈(passM b l o).1.head?,isWhite (c.toNat:Int)=false∧(c.toNat:Int)≠37:=by
  intro l
  induction l with
  | nil=>intro b o c hc;cases b<;>simp [passM] at hc
  | cons d l ih =>
    intro b o c hc
    cases b
    all_goals
      simp only [passM] at hc
      split at hc
    · exact ih _ _ _ hc
    · rename_i hw
      split at hc
      · exact ih _ _ _ hc
      · rename_i hp
        simp at hc;subst hc
        simp at hw hp
        exact ⟨hw,hp⟩
    · exact ih _ _ _ hc
    · exact ih _ _ _ hc
theorem passM_white:∀ (l:By) (o:Bool),passM false l o=passM false (l.dropWhile fun c=>isWhite (c.toNat:Int)) o:=by
  intro l
  induction l with
  | nil=>intro o;rfl
  | cons c l ih =>
    intro o
    by_cases hc:isWhite (c.toNat:Int)=true
    · simp only [List.dropWhile_cons,hc,if_true]
      rw [←ih]
      simp only [passM,hc,if_true]
    · simp only [List.dropWhile_cons,hc]
      simp
theorem passM_cmt:∀ (l:By) (r:By),passM true l false=(r,false)→∃ cm rest,l=cm ++ rest∧(∀ c∈cm,isPlain (c.toNat:Int)=true)∧(rest=[]∧r=[]∨∃ e l2,rest=e::l2∧((e.toNat:Int)=10∨(e.toNat:Int)=13)∧passM false l2 false=(r,false)):=by
  intro l
  induction l with
  | nil=>intro r h;simp [passM] at h;exact ⟨[],[],rfl,by simp,.inl ⟨rfl,by simp [h]⟩⟩
  | cons c l ih =>
    intro r h
    simp only [passM] at h
    split at h
    · rename_i hc
      simp at hc
      exact ⟨[],c::l,rfl,by simp,.inr ⟨c,l,rfl,by omega,h⟩⟩
    · have hp:=passM_odd l true (false || !isPlain (c.toNat:Int)) (by rw [h])
      rw [hp] at h
      obtain ⟨cm,rest,rfl,h1,h2⟩:=ih r h
      refine ⟨c::cm,rest,rfl,fun d hd=>?_,h2⟩
      rcases List.mem_cons.1 hd with rfl | hd
      · simpa using hp
      · exact h1 d hd
theorem oct_split:∀ (n:Nat) (l:By) (out:Int),∃ q,l=q ++ (octM n l out).2∧(∀ c∈q,48≤(c.toNat:Int)∧(c.toNat:Int)≤55)∧∀ m:By,m.head?=(octM n l out).2.head?→octM n (q ++ m) out=((octM n l out).1,m):=by
  intro n
  induction n with
  | zero=>intro l out;exact ⟨[],rfl,by simp,fun m _=>rfl⟩
  | succ n ih =>
    intro l out
    cases l with
    | nil =>
      refine ⟨[],rfl,by simp,fun m hm=>?_⟩
      cases m with
      | nil=>rfl
      | cons c m=>simp [octM] at hm
    | cons c l =>
      simp only [octM]
      split
      · rename_i hc
        obtain ⟨q,h1,h2,h3⟩:=ih l (8 * out + ((c.toNat:Int) - 48))
        refine ⟨c::q,by rw [List.cons_append,←h1],fun d hd=>?_,fun m hm=>?_⟩
        · rcases List.mem_cons.1 hd with rfl | hd
          · exact hc
          · exact h2 d hd
        · simp only [List.cons_append,octM,if_pos hc]
          exact h3 m hm
      · rename_i hc
        refine ⟨[],rfl,by simp,fun m hm=>?_⟩
        cases m with
        | nil=>simp at hm
        | cons d m =>
          simp at hm;subst hm
          simp only [List.nil_append,octM,if_neg hc]
theorem esc_split (d:UInt8) (l:By):∃ q,l=q ++ (escF (d::l)).2.2∧(∀ c∈q,(c.toNat:Int)=10∨48≤(c.toNat:Int)∧(c.toNat:Int)≤55)∧∀ m:By,m.head?=(escF (d::l)).2.2.head?→escF (d::(q ++ m))=((escF (d::l)).1,(escF (d::l)).2.1,m):=by
  obtain ⟨q,h1,h2,h3⟩:=oct_split 2 l ((d.toNat:Int) - 48)
  simp only [escF]
  repeat' split
  all_goals first
    | exact ⟨[],rfl,by simp,fun m _=>rfl⟩
    | skip
  · cases l with
    | nil =>
      refine ⟨[],rfl,by simp,fun m hm=>?_⟩
      cases m with
      | nil=>rfl
      | cons c m=>simp [esc13] at hm
    | cons e l =>
      simp only [esc13]
      split
      · rename_i he
        refine ⟨[e],rfl,fun c hc=>?_,fun m hm=>?_⟩
        · simp at hc;subst hc;simp at he;exact .inl he
        · simp [esc13,he]
      · rename_i he
        refine ⟨[],rfl,by simp,fun m hm=>?_⟩
        cases m with
        | nil=>simp at hm
        | cons c m=>simp at hm;subst hm;simp [esc13,he]
  · refine ⟨q,h1,fun c hc=>.inr (h2 c hc),fun m hm=>?_⟩
    rw [h3 m hm]
def balF:Bool→By→Nat→Option (By × By)
  | _,[],_=>none
  | true,c::l,j=>(balF false l j).map fun r=>(c::r.1,r.2)
  | false,c::l,j =>
    if (c.toNat:Int) == 92 then (balF true l j).map fun r=>(c::r.1,r.2)
    else if (c.toNat:Int) == 40 then (balF false l (j + 1)).map fun r=>(c::r.1,r.2)
    else if (c.toNat:Int) == 41 then (if j=1 then some ([],l) else (balF false l (j - 1)).map fun r=>(c::r.1,r.2))
    else (balF false l j).map fun r=>(c::r.1,r.2)
theorem balF_skip:∀ (q l:By) (j:Nat),(∀ c∈q,(c.toNat:Int)=10∨48≤(c.toNat:Int)∧(c.toNat:Int)≤55)→balF false (q ++ l) j=(balF false l j).map fun r=>(q ++ r.1,r.2):=by
  intro q
  induction q with
  | nil=>intro l j h;simp
  | cons c q ih =>
    intro l j h
    have hc:=h c (by simp)
    have e1:((c.toNat:Int) == 92)=false:=by simp;omega
    have e2:((c.toNat:Int) == 40)=false:=by simp;omega
    have e3:((c.toNat:Int) == 41)=false:=by simp;omega
    simp only [List.cons_append,balF,e1,e2,e3]
    rw [ih l j (fun d hd=>h d (by simp [hd]))]
    cases balF false l j<;>simp
theorem skip10_split2 (l:By):∃ q,l=q ++ skip10 l∧(∀ c∈q,(c.toNat:Int)=10)∧∀ m:By,m.head?=(skip10 l).head?→skip10 (q ++ m)=m:=by
  cases l with
  | nil =>
    refine ⟨[],rfl,by simp,fun m hm=>?_⟩
    cases m with
    | nil=>rfl
    | cons c m=>simp [skip10] at hm
  | cons c l =>
    simp only [skip10]
    split
    · rename_i hc
      refine ⟨[c],rfl,by simpa using hc,fun m _=>(by simp [skip10,hc])⟩
    · rename_i hc
      refine ⟨[],rfl,by simp,fun m hm=>?_⟩
      cases m with
      | nil=>simp at hm
      | cons d m=>simp at hm;subst hm;simp [skip10,hc]
theorem head_close (s r:By):(s ++ [41]).head?=(s ++ 41::r).head?:=by cases s<;>rfl
theorem lit_bal : ∀ (n : Nat) (l : By) (j : Nat) (out t r : By), l.length ≤ n → 1 ≤ j → litF l j out = some (t, r) →
    ∃ s,l=s ++ 41::r∧balF false l j=some (s,r)∧litF (s ++ [41]) j out=some (t,[]):=by
  intro n
  induction n with
  | zero =>
    intro l j out t r hl hj h
    obtain rfl:l=[]:=List.eq_nil_of_length_eq_zero (by omega)
    rw [litF_nil] at h;exact absurd h (by simp)
  | succ n ih =>
    intro l j out t r hl hj h
    cases l with
    | nil=>rw [litF_nil] at h;exact absurd h (by simp)
    | cons c l =>
      simp only [List.length_cons] at hl
      rw [litF_cons] at h
      by_cases h40:((c.toNat:Int) == 40)=true
      · have hj1:((j:Int) + 1 == 1)=false:=by simp;omega
        have e1:((c.toNat:Int) == 92)=false:=by simp at h40 ⊢;omega
        rw [if_pos h40,hj1] at h
        simp only [Bool.false_eq_true,if_false] at h
        obtain ⟨s,rfl,h2,h3⟩:=ih l (j + 1) _ t r (by omega) (by omega) (by simpa using h)
        refine ⟨c::s,rfl,?_,?_⟩
        · simp only [balF,e1,h40,if_true,h2];rfl
        · rw [List.cons_append,litF_cons,if_pos h40,hj1]
          simp only [Bool.false_eq_true,if_false]
          simpa using h3
      · rw [if_neg h40] at h
        by_cases h41:((c.toNat:Int) == 41)=true
        · rw [if_pos h41] at h
          have e1:((c.toNat:Int) == 92)=false:=by simp at h41 ⊢;omega
          by_cases hj1:j=1
          · subst hj1
            simp at h
            obtain ⟨rfl,rfl⟩:=h
            have hc:c=41:=by apply UInt8.toNat_inj.1;simp at h41 ⊢;omega
            subst hc
            refine ⟨[],rfl,by simp [balF],by rw [List.nil_append,litF_cons];simp⟩
          · have hj2:((j:Int) - 1 == 0)=false:=by simp;omega
            rw [hj2] at h
            simp only [Bool.false_eq_true,if_false] at h
            obtain ⟨s,rfl,h2,h3⟩:=ih l (j - 1) _ t r (by omega) (by omega) (by rw [show ((j - 1:Nat):Int)=(j:Int) - 1 by omega];exact h)
            refine ⟨c::s,rfl,?_,?_⟩
            · simp only [balF,e1,h40,h41,if_true,if_neg hj1,h2,Bool.false_eq_true,if_false];rfl
            · rw [List.cons_append,litF_cons,if_neg h40,if_pos h41,hj2]
              simp only [Bool.false_eq_true,if_false]
              rw [show ((j - 1:Nat):Int)=(j:Int) - 1 by omega] at h3
              exact h3
        · rw [if_neg h41] at h
          by_cases h13:((c.toNat:Int) == 13)=true
          · rw [if_pos h13] at h
            have e1:((c.toNat:Int) == 92)=false:=by simp at h13 ⊢;omega
            obtain ⟨q,hq1,hq2,hq3⟩:=skip10_split2 l
            have hlen:=skip10_len l
            obtain ⟨s,h1,h2,h3⟩:=ih (skip10 l) j _ t r (by omega) hj h
            refine ⟨c::(q ++ s),?_,?_,?_⟩
            · conv=>lhs;rw [hq1,h1]
              simp
            · simp only [balF,e1,h40,h41,Bool.false_eq_true,if_false]
              rw [hq1,balF_skip q _ j (fun c hc=>.inl (hq2 c hc)),h2];rfl
            · rw [List.cons_append,litF_cons,if_neg h40,if_neg h41,if_pos h13,List.append_assoc,hq3 _ (by rw [h1];exact head_close s r)]
              exact h3
          · rw [if_neg h13] at h
            by_cases h92:((c.toNat:Int) == 92)=true
            · rw [if_pos h92] at h
              cases l with
              | nil=>simp [escF,litF_nil] at h
              | cons d l =>
                obtain ⟨q,hq1,hq2,hq3⟩:=esc_split d l
                have hlen:=escF_len (d::l)
                have hlen2:(escF (d::l)).2.2.length≤n:=by omega
                have key:∃ out',litF (escF (d::l)).2.2 j out'=some (t,r)∧∀ m,(if (escF (d::l)).2.1=true then litF m j (out ++ [UInt8.ofNat (escF (d::l)).1.toNat]) else litF m j out)=litF m j out':=by
                  split at h
                  · rename_i hh;exact ⟨_,h,fun m=>by rw [if_pos hh]⟩
                  · rename_i hh;exact ⟨_,h,fun m=>by rw [if_neg hh]⟩
                obtain ⟨out',h',hm⟩:=key
                obtain ⟨s,h1,h2,h3⟩:=ih _ j _ t r hlen2 hj h'
                refine ⟨c::d::(q ++ s),?_,?_,?_⟩
                · conv=>lhs;rw [hq1,h1]
                  simp
                · simp only [balF,h92,if_true]
                  rw [hq1,balF_skip q _ j hq2,h2];rfl
                · rw [List.cons_append,litF_cons,if_neg h40,if_neg h41,if_neg h13,if_pos h92,List.cons_append,List.append_assoc,hq3 _ (by rw [h1];exact head_close s r)]
                  rw [hm];exact h3
            · rw [if_neg h92] at h
              obtain ⟨s,rfl,h2,h3⟩:=ih l j _ t r (by omega) hj h
              refine ⟨c::s,rfl,?_,?_⟩
              · simp only [balF,h92,h40,h41,Bool.false_eq_true,if_false,h2];rfl
              · rw [List.cons_append,litF_cons,if_neg h40,if_neg h41,if_neg h13,if_neg h92]
                exact h3
end Go.Proofs.YtfkecmlmnhbmoaaGreatDoor
