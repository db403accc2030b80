/- DERIVED: THE SHELF's CONTRACTS AT THIS DUMP, IN PLAIN WORDS (tools/lay-plain.mjs out of 'TryzShelf.lean', which tools/lay-shelf.mjs wrote): THE SAME DECLARATIONS UNDER THE SAME NAMES: 'import', 'namespace', 'open', 'def', 'theorem' AND NOTHING ELSE: no command of the shelf's: FOR A HAND-IN. Each laying: the table of numbers ('.._ren') and one theorem, a field a fact of the dump's own or the kernel's comparison; each contract: ONE APPLICATION. Walks: codepoint.Check. -/
import Derived.Shelf.Strings.Builder1
import Derived.Shelf.Strings.Builder2
import Derived.Shelf.Strings.Trim
import Derived.Shelf.Small.Utf8
import Derived.Shelf.Small.Strs
import Derived.Shelf.Small.Wraps
import Derived.Shelf.Strings.BuilderF
import Derived.Shelf.Strings.BuilderK
import Derived.Shelf.Strings.Builder2Cap
import Derived.Shelf.Strconv.Atoi
import Derived.Shelf.Strconv.Itoa0
import Derived.Shelf.Strconv.Itoa1
import Derived.Shelf.LaysM
import Derived.Shelf.Strconv.Itoa2
import Derived.Shelf.Strconv.Itoa3
import Derived.Shelf.Strconv.AtoiErrFast
import Derived.Shelf.Strconv.ParseIntEmpty
import Derived.Shelf.Strconv.AtoiFail
import Derived.Shelf.Strconv.Clone
import Derived.Shelf.Strconv.SyntaxError
import Derived.Shelf.LaysC
import Derived.Shelf.Strconv.ToError
import Derived.Shelf.Strconv.Lower
import Derived.Shelf.Strconv.ParseUint10
import Derived.Shelf.Strconv.ParseUint10Empty
import Derived.Shelf.Strconv.ParseUint10Any
import Derived.Shelf.Strconv.ParseInt10
import Derived.Shelf.Strconv.AtoiLong
import Derived.Shelf.Strconv.AtoiInnerAll
import Derived.Shelf.Strconv.RangeError
import Derived.Shelf.Strconv.ToErrorRange
import Derived.Shelf.Strconv.AtoiAll
import Derived.Shelf.Strconv.ErrVarAll
import Derived.Ground.MpProg
import Derived.Shelf.Pu.ParseUintPublic10
import Derived.Shelf.Strings.Search1
import Derived.Shelf.Strings.Search2
import Derived.Shelf.Strings.Cut
import Derived.Shelf.Strings.Shaped
import Derived.Shelf.Strings.Prefix
import Derived.Shelf.Strings.Runes
import Derived.Shelf.Strings.AsciiSet
import Derived.Shelf.Bits.Mul64
import Derived.Shelf.Strings.Repeat
import Derived.Shelf.Unicode.DecodeSlow
import Derived.Shelf.Unicode.DecodeAny
import Derived.Shelf.Strings.BuilderCap
import Derived.Test.YtoigpackhninoaaGreatDoorProg
import GoSem.Core.Utf8
import Derived.Test.YtoigpackhninoaaGreatDoorGr
import Derived.Test.YtoigpackhninoaaGreatDoorZ01
import Derived.Lib.Hide
import Derived.Lib.OthersKept
import Derived.Laws.RangeAny
import Derived.Outline
import Derived.Deep.DeepCutAuto
import Derived.Deep.CutBlock
import Derived.BigRegion
namespace Go.Proofs
open Go.Shelf
def Tryz.lays162_ren:Go.Shelf.Ren:=⟨fun| 162=>161| 232=>185| 227=>186| 234=>187| 236=>188| 228=>205| 271=>206| 151=>207| 120=>217| 197=>91| 152=>218| 260=>123| 137=>107| 119=>222| 224=>193| 225=>192| 217=>140| 266=>165|n=>n,fun| 9=>9| 4=>4| 3=>3| 5=>5| 117=>219| 116=>218| 0=>0| 124=>222| 21=>21| 105=>131| 46=>194| 119=>193| 139=>197| 138=>196|n=>n,fun| 3=>1| 4=>2|n=>n⟩
theorem Tryz.lays162:Go.Proofs.Lays.n162 Tryz.prog Tryz.lays162_ren:={
 mixed:=by kernel_rfl
 f119:=Tryz.func222.trans (congrArg some (by kernel_rfl))
 f120:=Tryz.func217.trans (congrArg some (by kernel_rfl))
 f137:=Tryz.func107.trans (congrArg some (by kernel_rfl))
 f151:=Tryz.func207.trans (congrArg some (by kernel_rfl))
 f152:=Tryz.func218.trans (congrArg some (by kernel_rfl))
 f162:=Tryz.func161.trans (congrArg some (by kernel_rfl))
 f197:=Tryz.func91.trans (congrArg some (by kernel_rfl))
 f217:=Tryz.func140.trans (congrArg some (by kernel_rfl))
 f224:=Tryz.func193.trans (congrArg some (by kernel_rfl))
 f225:=Tryz.func192.trans (congrArg some (by kernel_rfl))
 f227:=Tryz.func186.trans (congrArg some (by kernel_rfl))
 f228:=Tryz.func205.trans (congrArg some (by kernel_rfl))
 f232:=Tryz.func185.trans (congrArg some (by kernel_rfl))
 f234:=Tryz.func187.trans (congrArg some (by kernel_rfl))
 f236:=Tryz.func188.trans (congrArg some (by kernel_rfl))
 f260:=Tryz.func123.trans (congrArg some (by kernel_rfl))
 f266:=Tryz.func165.trans (congrArg some (by kernel_rfl))
 f271:=Tryz.func206.trans (congrArg some (by kernel_rfl))
 t0:=Tryz.underlying0
 a0:=Tryz.isAgg0
 z0:=Tryz.sizeOf0
 v0:=Tryz.zeroValue0
 t3:=Tryz.underlying3
 a3:=Tryz.isAgg3
 z3:=Tryz.sizeOf3
 v3:=Tryz.zeroValue3
 t4:=Tryz.underlying4
 a4:=Tryz.isAgg4
 z4:=Tryz.sizeOf4
 v4:=Tryz.zeroValue4
 t5:=Tryz.underlying5
 a5:=Tryz.isAgg5
 z5:=Tryz.sizeOf5
 v5:=Tryz.zeroValue5
 t9:=Tryz.underlying9
 a9:=Tryz.isAgg9
 z9:=Tryz.sizeOf9
 v9:=Tryz.zeroValue9
 t21:=Tryz.underlying21
 a21:=Tryz.isAgg21
 z21:=Tryz.sizeOf21
 v21:=Tryz.zeroValue21
 t46:=Tryz.underlying194
 a46:=Tryz.isAgg194
 z46:=Tryz.sizeOf194
 v46:=Tryz.zeroValue194
 t105:=Tryz.underlying131
 a105:=Tryz.isAgg131
 z105:=Tryz.sizeOf131
 v105:=Tryz.zeroValue131
 t116:=Tryz.underlying218
 a116:=Tryz.isAgg218
 z116:=Tryz.sizeOf218
 t117:=Tryz.underlying219
 a117:=Tryz.isAgg219
 z117:=Tryz.sizeOf219
 v117:=Tryz.zeroValue219
 t119:=Tryz.underlying193
 a119:=Tryz.isAgg193
 z119:=Tryz.sizeOf193
 t124:=Tryz.underlying222
 a124:=Tryz.isAgg222
 z124:=Tryz.sizeOf222
 v124:=Tryz.zeroValue222
 t138:=Tryz.underlying196
 a138:=Tryz.isAgg196
 z138:=Tryz.sizeOf196
 v138:=Tryz.zeroValue196
 t139:=Tryz.underlying197
 a139:=Tryz.isAgg197
 z139:=Tryz.sizeOf197
 v139:=Tryz.zeroValue197
 g3:=by kernel_rfl
 g4:=by kernel_rfl}
open Go.RowKit in
theorem Tryz.strings_TrimRight_one (s:ByteArray) (c:UInt8) (hc:c.toNat<128) (w:World) (hs:s.size<=9223372036854775807):
 Calls Tryz.prog 161 #[.string s,.string ⟨#[c]⟩] w fun e w'=>e=.returned (.string ⟨(Lib.trimRightB s.data.toList c).toArray⟩)/\w'=w:=Any.strings_TrimRight_one Tryz.lays162 s c hc w hs
def Tryz.lays137_ren:Go.Shelf.Ren:=⟨fun| 137=>107| 217=>140| 266=>165|n=>n,fun| 9=>9| 5=>5| 3=>3|n=>n,fun|n=>n⟩
theorem Tryz.lays137:Go.Proofs.Lays.n137 Tryz.prog Tryz.lays137_ren:={
 mixed:=by kernel_rfl
 f137:=Tryz.func107.trans (congrArg some (by kernel_rfl))
 f217:=Tryz.func140.trans (congrArg some (by kernel_rfl))
 f266:=Tryz.func165.trans (congrArg some (by kernel_rfl))
 t3:=Tryz.underlying3
 a3:=Tryz.isAgg3
 z3:=Tryz.sizeOf3
 v3:=Tryz.zeroValue3
 t5:=Tryz.underlying5
 a5:=Tryz.isAgg5
 z5:=Tryz.sizeOf5
 v5:=Tryz.zeroValue5
 t9:=Tryz.underlying9
 a9:=Tryz.isAgg9
 z9:=Tryz.sizeOf9
 v9:=Tryz.zeroValue9}
open Go.RowKit in
theorem Tryz.strings_IndexByte (s:ByteArray) (c:Int) (w:World):
 Calls Tryz.prog 107 #[.string s,.int .u8 c] w fun e w'=>e=.returned (.int .i64 (Lib.indexByte s.data.toList c.toNat.toUInt8))/\w'=w:=Any.strings_IndexByte Tryz.lays137 s c w
def Tryz.lays103_ren:Go.Shelf.Ren:=⟨fun| 103=>114| 210=>146| 206=>171|n=>n,fun| 9=>9| 4=>4| 24=>158| 3=>3|n=>n,fun|n=>n⟩
theorem Tryz.lays103:Go.Proofs.Lays.n103 Tryz.prog Tryz.lays103_ren:={
 mixed:=by kernel_rfl
 f103:=Tryz.func114.trans (congrArg some (by kernel_rfl))
 f206:=Tryz.func171.trans (congrArg some (by kernel_rfl))
 f210:=Tryz.func146.trans (congrArg some (by kernel_rfl))
 t3:=Tryz.underlying3
 a3:=Tryz.isAgg3
 z3:=Tryz.sizeOf3
 v3:=Tryz.zeroValue3
 t4:=Tryz.underlying4
 a4:=Tryz.isAgg4
 z4:=Tryz.sizeOf4
 v4:=Tryz.zeroValue4
 t9:=Tryz.underlying9
 a9:=Tryz.isAgg9
 z9:=Tryz.sizeOf9
 v9:=Tryz.zeroValue9
 t24:=Tryz.underlying158
 a24:=Tryz.isAgg158
 z24:=Tryz.sizeOf158
 v24:=Tryz.zeroValue158}
open Go.RowKit in
theorem Tryz.strings_CutPrefix (s p:ByteArray) (w:World):
 Calls Tryz.prog 114 #[.string s,.string p] w fun e w'=>e=.returned (.tuple #[.string ⟨(Lib.trimPrefix s.data.toList p.data.toList).toArray⟩,.bool (Lib.hasPrefix s.data.toList p.data.toList)])/\w'=w:=Any.strings_CutPrefix Tryz.lays103 s p w
def Tryz.lays129_ren:Go.Shelf.Ren:=⟨fun| 129=>150|n=>n,fun| 53=>72| 3=>3| 4=>4| 46=>194| 5=>5| 9=>9|n=>n,fun|n=>n⟩
theorem Tryz.lays129:Go.Proofs.Lays.n129 Tryz.prog Tryz.lays129_ren:={
 mixed:=by kernel_rfl
 f129:=Tryz.func150.trans (congrArg some (by kernel_rfl))
 t3:=Tryz.underlying3
 a3:=Tryz.isAgg3
 z3:=Tryz.sizeOf3
 v3:=Tryz.zeroValue3
 t4:=Tryz.underlying4
 a4:=Tryz.isAgg4
 z4:=Tryz.sizeOf4
 v4:=Tryz.zeroValue4
 t5:=Tryz.underlying5
 a5:=Tryz.isAgg5
 z5:=Tryz.sizeOf5
 v5:=Tryz.zeroValue5
 t9:=Tryz.underlying9
 a9:=Tryz.isAgg9
 z9:=Tryz.sizeOf9
 v9:=Tryz.zeroValue9
 t46:=Tryz.underlying194
 a46:=Tryz.isAgg194
 z46:=Tryz.sizeOf194
 v46:=Tryz.zeroValue194
 t53:=Tryz.underlying72
 a53:=Tryz.isAgg72
 z53:=Tryz.sizeOf72
 v53:=Tryz.zeroValue72}
theorem Tryz.bits_Len64 (x:Int) (w:World) (h0:0<=x) (h1:x<=18446744073709551615):
 Calls Tryz.prog 150 #[.int .u64 x] w fun e w'=>e=.returned (.int .i64 (Lib.bitLen x.toNat))/\w'=w:=Any.bits_Len64 Tryz.lays129 x w h0 h1
def Tryz.lays283_ren:Go.Shelf.Ren:=⟨fun| 283=>195|n=>n,fun| 3=>3| 9=>9| 4=>4|n=>n,fun|n=>n⟩
theorem Tryz.lays283:Go.Proofs.Lays.n283 Tryz.prog Tryz.lays283_ren:={
 mixed:=by kernel_rfl
 f283:=Tryz.func195.trans (congrArg some (by kernel_rfl))
 t3:=Tryz.underlying3
 a3:=Tryz.isAgg3
 z3:=Tryz.sizeOf3
 v3:=Tryz.zeroValue3
 t4:=Tryz.underlying4
 a4:=Tryz.isAgg4
 z4:=Tryz.sizeOf4
 v4:=Tryz.zeroValue4
 t9:=Tryz.underlying9
 a9:=Tryz.isAgg9
 z9:=Tryz.sizeOf9
 v9:=Tryz.zeroValue9}
open Go.Lib in
theorem Tryz.internal_strconv_small (i:Nat) (h:i<100) (w:World):
 Calls Tryz.prog 195 #[.int .i64 i] w fun e w'=>e=.returned (.string ⟨(Lib.decDigits i).toArray⟩)/\w'=w:=Any.internal_strconv_small Tryz.lays283 i h w
def Tryz.laysM284_ren:Go.Shelf.Ren:=⟨fun| 284=>196| 129=>150| 317=>209| 318=>210|n=>n,fun| 53=>72| 3=>3| 212=>249| 0=>0| 4=>4| 46=>194| 5=>5| 9=>9|n=>n,fun| 17=>7|n=>n⟩
theorem Tryz.laysM284:Go.Proofs.LaysM.n284 Tryz.prog Tryz.laysM284_ren:={
 mixed:=by kernel_rfl
 f129:=Tryz.func150.trans (congrArg some (by kernel_rfl))
 f284:=Tryz.func196.trans (congrArg some (by kernel_rfl))
 f317:=Tryz.func209.trans (congrArg some (by kernel_rfl))
 f318:=Tryz.func210.trans (congrArg some (by kernel_rfl))
 t0:=Tryz.underlying0
 a0:=Tryz.isAgg0
 z0:=Tryz.sizeOf0
 v0:=Tryz.zeroValue0
 t3:=Tryz.underlying3
 a3:=Tryz.isAgg3
 z3:=Tryz.sizeOf3
 v3:=Tryz.zeroValue3
 t4:=Tryz.underlying4
 a4:=Tryz.isAgg4
 z4:=Tryz.sizeOf4
 v4:=Tryz.zeroValue4
 t5:=Tryz.underlying5
 a5:=Tryz.isAgg5
 z5:=Tryz.sizeOf5
 v5:=Tryz.zeroValue5
 t9:=Tryz.underlying9
 a9:=Tryz.isAgg9
 z9:=Tryz.sizeOf9
 v9:=Tryz.zeroValue9
 t46:=Tryz.underlying194
 a46:=Tryz.isAgg194
 z46:=Tryz.sizeOf194
 v46:=Tryz.zeroValue194
 t53:=Tryz.underlying72
 a53:=Tryz.isAgg72
 z53:=Tryz.sizeOf72
 v53:=Tryz.zeroValue72
 t212:=Tryz.underlying249
 a212:=Tryz.isAgg249
 z212:=Tryz.sizeOf249
 v212:=Tryz.zeroValue249
 g17:=by kernel_rfl
 i0:=by kernel_rfl
 i3:=by kernel_rfl
 i4:=by kernel_rfl
 i5:=by kernel_rfl
 i9:=by kernel_rfl
 i46:=by kernel_rfl
 i53:=by kernel_rfl
 i212:=by kernel_rfl
 m17:=by kernel_rfl}
open Go.Lib in
theorem Tryz.internal_strconv_numDigits (u:Nat) (h1:1<=u) (h2:u<18446744073709551616) (w:World) (htab:Lib.TabIs Tryz.prog w "internal/strconv.uint64pow10" .u64 Lib.pow10Tab):
 Calls Tryz.prog 196 #[.int .u64 u] w fun e w'=>e=.returned (.int .i64 (Lib.nDigits u))/\w'=w:=Any.internal_strconv_numDigits Tryz.laysM284 u h1 h2 w htab
def Tryz.lays285_ren:Go.Shelf.Ren:=⟨fun| 285=>197|n=>n,fun| 37=>119| 53=>72| 3=>3| 4=>4| 51=>245| 9=>9| 5=>5| 0=>0|n=>n,fun|n=>n⟩
theorem Tryz.lays285:Go.Proofs.Lays.n285 Tryz.prog Tryz.lays285_ren:={
 mixed:=by kernel_rfl
 f285:=Tryz.func197.trans (congrArg some (by kernel_rfl))
 t0:=Tryz.underlying0
 a0:=Tryz.isAgg0
 z0:=Tryz.sizeOf0
 v0:=Tryz.zeroValue0
 t3:=Tryz.underlying3
 a3:=Tryz.isAgg3
 z3:=Tryz.sizeOf3
 v3:=Tryz.zeroValue3
 t4:=Tryz.underlying4
 a4:=Tryz.isAgg4
 z4:=Tryz.sizeOf4
 v4:=Tryz.zeroValue4
 t5:=Tryz.underlying5
 a5:=Tryz.isAgg5
 z5:=Tryz.sizeOf5
 v5:=Tryz.zeroValue5
 t9:=Tryz.underlying9
 a9:=Tryz.isAgg9
 z9:=Tryz.sizeOf9
 v9:=Tryz.zeroValue9
 t37:=Tryz.underlying119
 a37:=Tryz.isAgg119
 z37:=Tryz.sizeOf119
 v37:=Tryz.zeroValue119
 t51:=Tryz.underlying245
 a51:=Tryz.isAgg245
 z51:=Tryz.sizeOf245
 v51:=Tryz.zeroValue245
 t53:=Tryz.underlying72
 a53:=Tryz.isAgg72
 z53:=Tryz.sizeOf72
 v53:=Tryz.zeroValue72}
open Go.RowKit Go.Sort Go.Lib in
theorem Tryz.internal_strconv_formatBase10 (blk off cap:Nat) (u:Nat) (d:Array UInt8) (w:World) (hH:Holds (fun(b:UInt8)=>Value.int .u8 (b.toNat:Int)) w blk off d) (hu:u<10 ^ d.size) (hu64:u<18446744073709551616) (hsz:d.size<4611686018427387904):
 Calls Tryz.prog 197 #[.slice (some ⟨blk,off,none⟩) d.size cap,.int .u64 u] w fun e w'=>
  e=.returned (.tuple #[])/\∃(n v':Nat) (dk:Array UInt8),w'=(putRow (fun(b:UInt8)=>Value.int .u8 (b.toNat:Int)) w blk off dk).drewN n/\FmtInv d.size u 0 v' dk:=Any.internal_strconv_formatBase10 Tryz.lays285 blk off cap u d w hH hu hu64 hsz
def Tryz.laysM171_ren:Go.Shelf.Ren:=⟨fun| 171=>145| 243=>174| 246=>191| 283=>195| 284=>196| 285=>197| 286=>198| 129=>150| 317=>209| 318=>210| 319=>211| 320=>212| 337=>219| 338=>181|n=>n,fun| 3=>3| 9=>9| 2=>2| 4=>4| 171=>229| 0=>0| 53=>72| 37=>119| 5=>5| 173=>231| 212=>249| 51=>245| 20=>20| 213=>250| 46=>194| 232=>261| 233=>228|n=>n,fun| 17=>7| 18=>8| 19=>6|n=>n⟩
theorem Tryz.laysM171:Go.Proofs.LaysM.n171 Tryz.prog Tryz.laysM171_ren:={
 mixed:=by kernel_rfl
 f129:=Tryz.func150.trans (congrArg some (by kernel_rfl))
 f171:=Tryz.func145.trans (congrArg some (by kernel_rfl))
 f243:=Tryz.func174.trans (congrArg some (by kernel_rfl))
 f246:=Tryz.func191.trans (congrArg some (by kernel_rfl))
 f283:=Tryz.func195.trans (congrArg some (by kernel_rfl))
 f284:=Tryz.func196.trans (congrArg some (by kernel_rfl))
 f285:=Tryz.func197.trans (congrArg some (by kernel_rfl))
 f286:=Tryz.func198.trans (congrArg some (by kernel_rfl))
 f317:=Tryz.func209.trans (congrArg some (by kernel_rfl))
 f318:=Tryz.func210.trans (congrArg some (by kernel_rfl))
 f319:=Tryz.func211.trans (congrArg some (by kernel_rfl))
 f320:=Tryz.func212.trans (congrArg some (by kernel_rfl))
 f337:=Tryz.func219.trans (congrArg some (by kernel_rfl))
 f338:=Tryz.func181.trans (congrArg some (by kernel_rfl))
 t0:=Tryz.underlying0
 a0:=Tryz.isAgg0
 z0:=Tryz.sizeOf0
 v0:=Tryz.zeroValue0
 t2:=Tryz.underlying2
 a2:=Tryz.isAgg2
 z2:=Tryz.sizeOf2
 v2:=Tryz.zeroValue2
 t3:=Tryz.underlying3
 a3:=Tryz.isAgg3
 z3:=Tryz.sizeOf3
 v3:=Tryz.zeroValue3
 t4:=Tryz.underlying4
 a4:=Tryz.isAgg4
 z4:=Tryz.sizeOf4
 v4:=Tryz.zeroValue4
 t5:=Tryz.underlying5
 a5:=Tryz.isAgg5
 z5:=Tryz.sizeOf5
 v5:=Tryz.zeroValue5
 t9:=Tryz.underlying9
 a9:=Tryz.isAgg9
 z9:=Tryz.sizeOf9
 v9:=Tryz.zeroValue9
 t20:=Tryz.underlying20
 a20:=Tryz.isAgg20
 z20:=Tryz.sizeOf20
 v20:=Tryz.zeroValue20
 t37:=Tryz.underlying119
 a37:=Tryz.isAgg119
 z37:=Tryz.sizeOf119
 v37:=Tryz.zeroValue119
 t46:=Tryz.underlying194
 a46:=Tryz.isAgg194
 z46:=Tryz.sizeOf194
 v46:=Tryz.zeroValue194
 t51:=Tryz.underlying245
 a51:=Tryz.isAgg245
 z51:=Tryz.sizeOf245
 v51:=Tryz.zeroValue245
 t53:=Tryz.underlying72
 a53:=Tryz.isAgg72
 z53:=Tryz.sizeOf72
 v53:=Tryz.zeroValue72
 t171:=Tryz.underlying229
 a171:=Tryz.isAgg229
 z171:=Tryz.sizeOf229
 v171:=Tryz.zeroValue229
 t173:=Tryz.underlying231
 a173:=Tryz.isAgg231
 z173:=Tryz.sizeOf231
 v173:=Tryz.zeroValue231
 t212:=Tryz.underlying249
 a212:=Tryz.isAgg249
 z212:=Tryz.sizeOf249
 v212:=Tryz.zeroValue249
 t213:=Tryz.underlying250
 a213:=Tryz.isAgg250
 z213:=Tryz.sizeOf250
 t232:=Tryz.underlying261
 a232:=Tryz.isAgg261
 z232:=Tryz.sizeOf261
 v232:=Tryz.zeroValue261
 t233:=Tryz.underlying228
 a233:=Tryz.isAgg228
 z233:=Tryz.sizeOf228
 v233:=Tryz.zeroValue228
 g17:=by kernel_rfl
 g18:=by kernel_rfl
 g19:=by kernel_rfl
 i0:=by kernel_rfl
 i2:=by kernel_rfl
 i3:=by kernel_rfl
 i4:=by kernel_rfl
 i5:=by kernel_rfl
 i9:=by kernel_rfl
 i20:=by kernel_rfl
 i37:=by kernel_rfl
 i46:=by kernel_rfl
 i51:=by kernel_rfl
 i53:=by kernel_rfl
 i171:=by kernel_rfl
 i173:=by kernel_rfl
 i212:=by kernel_rfl
 i232:=by kernel_rfl
 i233:=by kernel_rfl
 m17:=by kernel_rfl
 m18:=by kernel_rfl
 m19:=by kernel_rfl}
open Go.RowKit Go.Sort Go.Lib in
theorem Tryz.strconv_Itoa (n:Int) (h0:-9223372036854775808<=n) (h1:n<=9223372036854775807) (w:World) (htab:Lib.TabIs Tryz.prog w "internal/strconv.uint64pow10" .u64 Lib.pow10Tab):
 Calls Tryz.prog 145 #[.int .i64 n] w fun e w'=>e=.returned (.string ⟨(Lib.itoa n).toArray⟩)/\∃k os,w'=grow (w.drewN k) os:=Any.strconv_Itoa Tryz.laysM171 n h0 h1 w htab
def Tryz.laysC172_ren:Go.Shelf.Ren:=⟨fun| 172=>108| 244=>141| 245=>142| 247=>166| 279=>167| 280=>168| 281=>169| 282=>170| 287=>149| 316=>189| 171=>145| 205=>190| 321=>176| 322=>177| 243=>174| 246=>191| 283=>195| 284=>196| 285=>197| 286=>198| 129=>150| 317=>209| 318=>210| 319=>211| 320=>212| 337=>219| 338=>181|n=>n,fun| 9=>9| 3=>3| 75=>150| 76=>151| 4=>4| 5=>5| 167=>202| 37=>119| 0=>0| 85=>203| 2=>2| 168=>205| 53=>72| 175=>164| 46=>194| 210=>225| 127=>241| 145=>244| 143=>242| 21=>21| 171=>229| 173=>231| 212=>249| 51=>245| 20=>20| 213=>250| 232=>261| 233=>228| 80=>157|n=>n,fun| 15=>4| 16=>5| 17=>7| 18=>8| 19=>6|n=>n⟩
theorem Tryz.laysC172:Go.Proofs.LaysC.n172 Tryz.prog Tryz.laysC172_ren:={
 mixed:=by kernel_rfl
 f129:=Tryz.func150.trans (congrArg some (by kernel_rfl))
 f171:=Tryz.func145.trans (congrArg some (by kernel_rfl))
 f172:=Tryz.func108.trans (congrArg some (by kernel_rfl))
 f205:=Tryz.func190.trans (congrArg some (by kernel_rfl))
 f243:=Tryz.func174.trans (congrArg some (by kernel_rfl))
 f244:=Tryz.func141.trans (congrArg some (by kernel_rfl))
 f245:=Tryz.func142.trans (congrArg some (by kernel_rfl))
 f246:=Tryz.func191.trans (congrArg some (by kernel_rfl))
 f247:=Tryz.func166.trans (congrArg some (by kernel_rfl))
 f279:=Tryz.func167.trans (congrArg some (by kernel_rfl))
 f280:=Tryz.func168.trans (congrArg some (by kernel_rfl))
 f281:=Tryz.func169.trans (congrArg some (by kernel_rfl))
 f282:=Tryz.func170.trans (congrArg some (by kernel_rfl))
 f283:=Tryz.func195.trans (congrArg some (by kernel_rfl))
 f284:=Tryz.func196.trans (congrArg some (by kernel_rfl))
 f285:=Tryz.func197.trans (congrArg some (by kernel_rfl))
 f286:=Tryz.func198.trans (congrArg some (by kernel_rfl))
 f287:=Tryz.func149.trans (congrArg some (by kernel_rfl))
 f316:=Tryz.func189.trans (congrArg some (by kernel_rfl))
 f317:=Tryz.func209.trans (congrArg some (by kernel_rfl))
 f318:=Tryz.func210.trans (congrArg some (by kernel_rfl))
 f319:=Tryz.func211.trans (congrArg some (by kernel_rfl))
 f320:=Tryz.func212.trans (congrArg some (by kernel_rfl))
 f321:=Tryz.func176.trans (congrArg some (by kernel_rfl))
 f322:=Tryz.func177.trans (congrArg some (by kernel_rfl))
 f337:=Tryz.func219.trans (congrArg some (by kernel_rfl))
 f338:=Tryz.func181.trans (congrArg some (by kernel_rfl))
 t0:=Tryz.underlying0
 a0:=Tryz.isAgg0
 z0:=Tryz.sizeOf0
 v0:=Tryz.zeroValue0
 t2:=Tryz.underlying2
 a2:=Tryz.isAgg2
 z2:=Tryz.sizeOf2
 v2:=Tryz.zeroValue2
 t3:=Tryz.underlying3
 a3:=Tryz.isAgg3
 z3:=Tryz.sizeOf3
 v3:=Tryz.zeroValue3
 t4:=Tryz.underlying4
 a4:=Tryz.isAgg4
 z4:=Tryz.sizeOf4
 v4:=Tryz.zeroValue4
 t5:=Tryz.underlying5
 a5:=Tryz.isAgg5
 z5:=Tryz.sizeOf5
 v5:=Tryz.zeroValue5
 t9:=Tryz.underlying9
 a9:=Tryz.isAgg9
 z9:=Tryz.sizeOf9
 v9:=Tryz.zeroValue9
 t20:=Tryz.underlying20
 a20:=Tryz.isAgg20
 z20:=Tryz.sizeOf20
 v20:=Tryz.zeroValue20
 t21:=Tryz.underlying21
 a21:=Tryz.isAgg21
 z21:=Tryz.sizeOf21
 v21:=Tryz.zeroValue21
 t37:=Tryz.underlying119
 a37:=Tryz.isAgg119
 z37:=Tryz.sizeOf119
 v37:=Tryz.zeroValue119
 t46:=Tryz.underlying194
 a46:=Tryz.isAgg194
 z46:=Tryz.sizeOf194
 v46:=Tryz.zeroValue194
 t51:=Tryz.underlying245
 a51:=Tryz.isAgg245
 z51:=Tryz.sizeOf245
 v51:=Tryz.zeroValue245
 t53:=Tryz.underlying72
 a53:=Tryz.isAgg72
 z53:=Tryz.sizeOf72
 v53:=Tryz.zeroValue72
 t75:=Tryz.underlying150
 a75:=Tryz.isAgg150
 z75:=Tryz.sizeOf150
 v75:=Tryz.zeroValue150
 t76:=Tryz.underlying151
 a76:=Tryz.isAgg151
 z76:=Tryz.sizeOf151
 v76:=Tryz.zeroValue151
 t85:=Tryz.underlying203
 a85:=Tryz.isAgg203
 z85:=Tryz.sizeOf203
 v85:=Tryz.zeroValue203
 t127:=Tryz.underlying241
 a127:=Tryz.isAgg241
 z127:=Tryz.sizeOf241
 v127:=Tryz.zeroValue241
 t143:=Tryz.underlying242
 a143:=Tryz.isAgg242
 z143:=Tryz.sizeOf242
 v143:=Tryz.zeroValue242
 t145:=Tryz.underlying244
 a145:=Tryz.isAgg244
 z145:=Tryz.sizeOf244
 v145:=Tryz.zeroValue244
 t167:=Tryz.underlying202
 a167:=Tryz.isAgg202
 z167:=Tryz.sizeOf202
 v167:=Tryz.zeroValue202
 t168:=Tryz.underlying205
 a168:=Tryz.isAgg205
 z168:=Tryz.sizeOf205
 v168:=Tryz.zeroValue205
 t171:=Tryz.underlying229
 a171:=Tryz.isAgg229
 z171:=Tryz.sizeOf229
 v171:=Tryz.zeroValue229
 t173:=Tryz.underlying231
 a173:=Tryz.isAgg231
 z173:=Tryz.sizeOf231
 v173:=Tryz.zeroValue231
 t175:=Tryz.underlying164
 a175:=Tryz.isAgg164
 z175:=Tryz.sizeOf164
 v175:=Tryz.zeroValue164
 t210:=Tryz.underlying225
 a210:=Tryz.isAgg225
 z210:=Tryz.sizeOf225
 v210:=Tryz.zeroValue225
 t212:=Tryz.underlying249
 a212:=Tryz.isAgg249
 z212:=Tryz.sizeOf249
 v212:=Tryz.zeroValue249
 t213:=Tryz.underlying250
 a213:=Tryz.isAgg250
 z213:=Tryz.sizeOf250
 t232:=Tryz.underlying261
 a232:=Tryz.isAgg261
 z232:=Tryz.sizeOf261
 v232:=Tryz.zeroValue261
 t233:=Tryz.underlying228
 a233:=Tryz.isAgg228
 z233:=Tryz.sizeOf228
 v233:=Tryz.zeroValue228
 g15:=by kernel_rfl
 g16:=by kernel_rfl
 g17:=by kernel_rfl
 g18:=by kernel_rfl
 g19:=by kernel_rfl
 t80:=Tryz.underlying157
 a80:=Tryz.isAgg157
 z80:=Tryz.sizeOf157
 v80:=Tryz.zeroValue157
 i0:=by kernel_rfl
 i2:=by kernel_rfl
 i3:=by kernel_rfl
 i4:=by kernel_rfl
 i5:=by kernel_rfl
 i9:=by kernel_rfl
 i20:=by kernel_rfl
 i21:=by kernel_rfl
 i37:=by kernel_rfl
 i46:=by kernel_rfl
 i51:=by kernel_rfl
 i53:=by kernel_rfl
 i75:=by kernel_rfl
 i76:=by kernel_rfl
 i80:=by kernel_rfl
 i85:=by kernel_rfl
 i127:=by kernel_rfl
 i143:=by kernel_rfl
 i145:=by kernel_rfl
 i167:=by kernel_rfl
 i168:=by kernel_rfl
 i171:=by kernel_rfl
 i173:=by kernel_rfl
 i175:=by kernel_rfl
 i210:=by kernel_rfl
 i212:=by kernel_rfl
 i232:=by kernel_rfl
 i233:=by kernel_rfl
 m15:=by kernel_rfl
 m16:=by kernel_rfl
 m17:=by kernel_rfl
 m18:=by kernel_rfl
 m19:=by kernel_rfl
 c0:=by kernel_rfl
 c2:=by kernel_rfl
 c3:=by kernel_rfl
 c4:=by kernel_rfl
 c5:=by kernel_rfl
 c9:=by kernel_rfl
 c20:=by kernel_rfl
 c21:=by kernel_rfl
 c37:=by kernel_rfl
 c46:=by kernel_rfl
 c51:=by kernel_rfl
 c53:=by kernel_rfl
 c75:=by kernel_rfl
 c76:=by kernel_rfl
 c80:=by kernel_rfl
 c85:=by kernel_rfl
 c127:=by kernel_rfl
 c143:=by kernel_rfl
 c145:=by kernel_rfl
 c167:=by kernel_rfl
 c168:=by kernel_rfl
 c171:=by kernel_rfl
 c173:=by kernel_rfl
 c175:=by kernel_rfl
 c210:=by kernel_rfl
 c212:=by kernel_rfl
 c213:=by kernel_rfl
 c232:=by kernel_rfl
 c233:=by kernel_rfl}
open Go.RowKit in
theorem Tryz.strconv_Atoi_ok (s:ByteArray) (hmax:s.size<=9223372036854775806) (v:Int) (h:Lib.atoiAll s.data.toList=.ok v) (w:World):
 Calls Tryz.prog 108 #[.string s] w fun e w'=>e=.returned (.tuple #[.int .i64 v,.nilIface])/\(w'=w\/∃t,w'=Lib.bytesWorld w 5 t):=Any.strconv_Atoi_ok Tryz.laysC172 s hmax v h w
open Go.RowKit in
theorem Tryz.strconv_Atoi_syntax (s:ByteArray) (hlim:s.size<=281474976710656) (h:Lib.atoiAll s.data.toList=.«syntax») (ev:Value) (w:World) (hv:w.cell? ⟨4,0,none⟩=some ev) (hev:ev=.nilIface\/∃te pe,ev=.iface te pe):
 Calls Tryz.prog 108 #[.string s] w fun e w'=>∃N,e=.returned (.tuple #[.int .i64 (0),.iface 205 (.pointer (some ⟨N,0,none⟩))])/\w.heap.size<=N/\w'.heap[N]? =some (.cells #[.string ⟨#[65,116,111,105]⟩,.string s,ev] 225 (0,0))/\Below w.heap.size w w':=Any.strconv_Atoi_syntax Tryz.laysC172 s hlim h ev w hv hev
open Go.RowKit in
theorem Tryz.strconv_Atoi_range (s:ByteArray) (hlim:s.size<=281474976710656) (h:Lib.atoiAll s.data.toList=.range) (ev:Value) (w:World) (hv:w.cell? ⟨5,0,none⟩=some ev) (hev:ev=.nilIface\/∃te pe,ev=.iface te pe):
 Calls Tryz.prog 108 #[.string s] w fun e w'=>∃N,e=.returned (.tuple #[.int .i64 (Lib.atoiSat s.data.toList),.iface 205 (.pointer (some ⟨N,0,none⟩))])/\w.heap.size<=N/\w'.heap[N]? =some (.cells #[.string ⟨#[65,116,111,105]⟩,.string s,ev] 225 (0,0))/\Below w.heap.size w w':=Any.strconv_Atoi_range Tryz.laysC172 s hlim h ev w hv hev
def Tryz.laysPu14_ren:Go.Shelf.Ren:=⟨fun| 14=>118| 16=>149| 17=>142| 19=>176| 20=>177| 21=>167| 22=>168| 23=>169| 24=>170| 25=>189| 27=>145| 26=>190| 28=>174| 29=>191| 30=>195| 31=>196| 32=>197| 33=>198| 35=>150| 34=>209| 36=>210| 37=>211| 38=>212| 39=>219| 40=>181|n=>n,fun| 9=>9| 3=>3| 22=>72| 24=>150| 25=>164| 4=>4| 34=>202| 5=>5| 36=>194| 37=>119| 0=>0| 39=>205| 21=>21| 44=>225| 47=>241| 50=>244| 48=>242| 2=>2| 52=>229| 55=>231| 59=>249| 60=>245| 20=>20| 61=>250| 65=>261| 66=>228| 67=>157|n=>n,fun| 0=>4| 1=>5| 2=>7| 3=>8| 4=>6|n=>n⟩
theorem Tryz.laysPu14:Go.Proofs.LaysPu.n14 Tryz.prog Tryz.laysPu14_ren:={
 mixed:=by kernel_rfl
 f14:=Tryz.func118.trans (congrArg some (by kernel_rfl))
 f16:=Tryz.func149.trans (congrArg some (by kernel_rfl))
 f17:=Tryz.func142.trans (congrArg some (by kernel_rfl))
 f19:=Tryz.func176.trans (congrArg some (by kernel_rfl))
 f20:=Tryz.func177.trans (congrArg some (by kernel_rfl))
 f21:=Tryz.func167.trans (congrArg some (by kernel_rfl))
 f22:=Tryz.func168.trans (congrArg some (by kernel_rfl))
 f23:=Tryz.func169.trans (congrArg some (by kernel_rfl))
 f24:=Tryz.func170.trans (congrArg some (by kernel_rfl))
 f25:=Tryz.func189.trans (congrArg some (by kernel_rfl))
 f26:=Tryz.func190.trans (congrArg some (by kernel_rfl))
 f27:=Tryz.func145.trans (congrArg some (by kernel_rfl))
 f28:=Tryz.func174.trans (congrArg some (by kernel_rfl))
 f29:=Tryz.func191.trans (congrArg some (by kernel_rfl))
 f30:=Tryz.func195.trans (congrArg some (by kernel_rfl))
 f31:=Tryz.func196.trans (congrArg some (by kernel_rfl))
 f32:=Tryz.func197.trans (congrArg some (by kernel_rfl))
 f33:=Tryz.func198.trans (congrArg some (by kernel_rfl))
 f34:=Tryz.func209.trans (congrArg some (by kernel_rfl))
 f35:=Tryz.func150.trans (congrArg some (by kernel_rfl))
 f36:=Tryz.func210.trans (congrArg some (by kernel_rfl))
 f37:=Tryz.func211.trans (congrArg some (by kernel_rfl))
 f38:=Tryz.func212.trans (congrArg some (by kernel_rfl))
 f39:=Tryz.func219.trans (congrArg some (by kernel_rfl))
 f40:=Tryz.func181.trans (congrArg some (by kernel_rfl))
 t0:=Tryz.underlying0
 a0:=Tryz.isAgg0
 z0:=Tryz.sizeOf0
 v0:=Tryz.zeroValue0
 i0:=by kernel_rfl
 t2:=Tryz.underlying2
 a2:=Tryz.isAgg2
 z2:=Tryz.sizeOf2
 v2:=Tryz.zeroValue2
 i2:=by kernel_rfl
 t3:=Tryz.underlying3
 a3:=Tryz.isAgg3
 z3:=Tryz.sizeOf3
 v3:=Tryz.zeroValue3
 i3:=by kernel_rfl
 t4:=Tryz.underlying4
 a4:=Tryz.isAgg4
 z4:=Tryz.sizeOf4
 v4:=Tryz.zeroValue4
 i4:=by kernel_rfl
 t5:=Tryz.underlying5
 a5:=Tryz.isAgg5
 z5:=Tryz.sizeOf5
 v5:=Tryz.zeroValue5
 i5:=by kernel_rfl
 t9:=Tryz.underlying9
 a9:=Tryz.isAgg9
 z9:=Tryz.sizeOf9
 v9:=Tryz.zeroValue9
 i9:=by kernel_rfl
 t20:=Tryz.underlying20
 a20:=Tryz.isAgg20
 z20:=Tryz.sizeOf20
 v20:=Tryz.zeroValue20
 i20:=by kernel_rfl
 t21:=Tryz.underlying21
 a21:=Tryz.isAgg21
 z21:=Tryz.sizeOf21
 v21:=Tryz.zeroValue21
 i21:=by kernel_rfl
 t22:=Tryz.underlying72
 a22:=Tryz.isAgg72
 z22:=Tryz.sizeOf72
 v22:=Tryz.zeroValue72
 i22:=by kernel_rfl
 t24:=Tryz.underlying150
 a24:=Tryz.isAgg150
 z24:=Tryz.sizeOf150
 v24:=Tryz.zeroValue150
 i24:=by kernel_rfl
 t25:=Tryz.underlying164
 a25:=Tryz.isAgg164
 z25:=Tryz.sizeOf164
 v25:=Tryz.zeroValue164
 i25:=by kernel_rfl
 t34:=Tryz.underlying202
 a34:=Tryz.isAgg202
 z34:=Tryz.sizeOf202
 v34:=Tryz.zeroValue202
 i34:=by kernel_rfl
 c34:=by kernel_rfl
 t36:=Tryz.underlying194
 a36:=Tryz.isAgg194
 z36:=Tryz.sizeOf194
 v36:=Tryz.zeroValue194
 i36:=by kernel_rfl
 t37:=Tryz.underlying119
 a37:=Tryz.isAgg119
 z37:=Tryz.sizeOf119
 v37:=Tryz.zeroValue119
 i37:=by kernel_rfl
 t39:=Tryz.underlying205
 a39:=Tryz.isAgg205
 z39:=Tryz.sizeOf205
 v39:=Tryz.zeroValue205
 i39:=by kernel_rfl
 t44:=Tryz.underlying225
 a44:=Tryz.isAgg225
 z44:=Tryz.sizeOf225
 v44:=Tryz.zeroValue225
 i44:=by kernel_rfl
 t47:=Tryz.underlying241
 a47:=Tryz.isAgg241
 z47:=Tryz.sizeOf241
 v47:=Tryz.zeroValue241
 i47:=by kernel_rfl
 t48:=Tryz.underlying242
 a48:=Tryz.isAgg242
 z48:=Tryz.sizeOf242
 v48:=Tryz.zeroValue242
 i48:=by kernel_rfl
 t50:=Tryz.underlying244
 a50:=Tryz.isAgg244
 z50:=Tryz.sizeOf244
 v50:=Tryz.zeroValue244
 i50:=by kernel_rfl
 t52:=Tryz.underlying229
 a52:=Tryz.isAgg229
 z52:=Tryz.sizeOf229
 v52:=Tryz.zeroValue229
 i52:=by kernel_rfl
 t55:=Tryz.underlying231
 a55:=Tryz.isAgg231
 z55:=Tryz.sizeOf231
 v55:=Tryz.zeroValue231
 i55:=by kernel_rfl
 t59:=Tryz.underlying249
 a59:=Tryz.isAgg249
 z59:=Tryz.sizeOf249
 v59:=Tryz.zeroValue249
 i59:=by kernel_rfl
 t60:=Tryz.underlying245
 a60:=Tryz.isAgg245
 z60:=Tryz.sizeOf245
 v60:=Tryz.zeroValue245
 i60:=by kernel_rfl
 t61:=Tryz.underlying250
 a61:=Tryz.isAgg250
 z61:=Tryz.sizeOf250
 t65:=Tryz.underlying261
 a65:=Tryz.isAgg261
 z65:=Tryz.sizeOf261
 v65:=Tryz.zeroValue261
 i65:=by kernel_rfl
 t66:=Tryz.underlying228
 a66:=Tryz.isAgg228
 z66:=Tryz.sizeOf228
 v66:=Tryz.zeroValue228
 i66:=by kernel_rfl
 t67:=Tryz.underlying157
 a67:=Tryz.isAgg157
 z67:=Tryz.sizeOf157
 v67:=Tryz.zeroValue157
 i67:=by kernel_rfl
 g0:=by kernel_rfl
 m0:=by kernel_rfl
 g1:=by kernel_rfl
 m1:=by kernel_rfl
 g2:=by kernel_rfl
 m2:=by kernel_rfl
 g3:=by kernel_rfl
 m3:=by kernel_rfl
 g4:=by kernel_rfl
 m4:=by kernel_rfl}
open Go.RowKit in
theorem Tryz.strconv_ParseUint_10_at64_ok (s:ByteArray) (hmax:s.size<=9223372036854775806) (u:Nat) (h:Lib.parseUintB 64 s.data.toList=.ok u) (w:World):
 Calls Tryz.prog 118 #[.string s,.int .i64 10,.int .i64 64] w fun e w'=>e=.returned (.tuple #[.int .u64 u,.nilIface])/\(w'=w\/w'=Lib.bytesWorld w 5 s):=Any.strconv_ParseUint_10_at64_ok Tryz.laysPu14 s hmax u h w
open Go.RowKit in
theorem Tryz.strconv_ParseUint_10_at64_syntax (s:ByteArray) (hlim:s.size<=281474976710656) (h:Lib.parseUintB 64 s.data.toList=.«syntax») (ev:Value) (w:World) (hv:w.cell? ⟨4,0,none⟩=some ev) (hev:ev=.nilIface\/∃te pe,ev=.iface te pe):
 Calls Tryz.prog 118 #[.string s,.int .i64 10,.int .i64 64] w fun e w'=>∃N,e=.returned (.tuple #[.int .u64 0,.iface 205 (.pointer (some ⟨N,0,none⟩))])/\w.heap.size<=N/\w'.heap[N]? =some (.cells #[.string ⟨#[80,97,114,115,101,85,105,110,116]⟩,.string s,ev] 225 (0,0))/\Below w.heap.size w w':=Any.strconv_ParseUint_10_at64_syntax Tryz.laysPu14 s hlim h ev w hv hev
open Go.RowKit in
theorem Tryz.strconv_ParseUint_10_at64_range (s:ByteArray) (hlim:s.size<=281474976710656) (h:Lib.parseUintB 64 s.data.toList=.range) (ev:Value) (w:World) (hv:w.cell? ⟨5,0,none⟩=some ev) (hev:ev=.nilIface\/∃te pe,ev=.iface te pe):
 Calls Tryz.prog 118 #[.string s,.int .i64 10,.int .i64 64] w fun e w'=>∃N,e=.returned (.tuple #[.int .u64 18446744073709551615,.iface 205 (.pointer (some ⟨N,0,none⟩))])/\w.heap.size<=N/\w'.heap[N]? =some (.cells #[.string ⟨#[80,97,114,115,101,85,105,110,116]⟩,.string s,ev] 225 (0,0))/\Below w.heap.size w w':=Any.strconv_ParseUint_10_at64_range Tryz.laysPu14 s hlim h ev w hv hev
def Tryz.lays101_ren:Go.Shelf.Ren:=⟨fun| 101=>109| 208=>143| 206=>171|n=>n,fun| 9=>9| 4=>4| 3=>3|n=>n,fun|n=>n⟩
theorem Tryz.lays101:Go.Proofs.Lays.n101 Tryz.prog Tryz.lays101_ren:={
 mixed:=by kernel_rfl
 f101:=Tryz.func109.trans (congrArg some (by kernel_rfl))
 f206:=Tryz.func171.trans (congrArg some (by kernel_rfl))
 f208:=Tryz.func143.trans (congrArg some (by kernel_rfl))
 t3:=Tryz.underlying3
 a3:=Tryz.isAgg3
 z3:=Tryz.sizeOf3
 v3:=Tryz.zeroValue3
 t4:=Tryz.underlying4
 a4:=Tryz.isAgg4
 z4:=Tryz.sizeOf4
 v4:=Tryz.zeroValue4
 t9:=Tryz.underlying9
 a9:=Tryz.isAgg9
 z9:=Tryz.sizeOf9
 v9:=Tryz.zeroValue9}
open Go.RowKit Go.Lib in
theorem Tryz.strings_TrimPrefix (s p:ByteArray) (w:World):
 Calls Tryz.prog 109 #[.string s,.string p] w fun e w'=>e=.returned (.string ⟨(Lib.trimPrefix s.data.toList p.data.toList).toArray⟩)/\w'=w:=Any.strings_TrimPrefix Tryz.lays101 s p w
def Tryz.lays105_ren:Go.Shelf.Ren:=⟨fun| 105=>184| 212=>199| 99=>200| 165=>201| 166=>202| 170=>203| 169=>204| 263=>213| 264=>214| 206=>171| 240=>215| 241=>216| 276=>220| 277=>221|n=>n,fun| 9=>9| 3=>3| 4=>4| 20=>20| 0=>0| 46=>194| 109=>233| 5=>5| 72=>237| 76=>151| 51=>245| 146=>246| 53=>72| 148=>253| 70=>235| 37=>119| 75=>150| 127=>241| 164=>257| 80=>157|n=>n,fun|n=>n⟩
theorem Tryz.lays105:Go.Proofs.Lays.n105 Tryz.prog Tryz.lays105_ren:={
 mixed:=by kernel_rfl
 f99:=Tryz.func200.trans (congrArg some (by kernel_rfl))
 f105:=Tryz.func184.trans (congrArg some (by kernel_rfl))
 f165:=Tryz.func201.trans (congrArg some (by kernel_rfl))
 f166:=Tryz.func202.trans (congrArg some (by kernel_rfl))
 f169:=Tryz.func204.trans (congrArg some (by kernel_rfl))
 f170:=Tryz.func203.trans (congrArg some (by kernel_rfl))
 f206:=Tryz.func171.trans (congrArg some (by kernel_rfl))
 f212:=Tryz.func199.trans (congrArg some (by kernel_rfl))
 f240:=Tryz.func215.trans (congrArg some (by kernel_rfl))
 f241:=Tryz.func216.trans (congrArg some (by kernel_rfl))
 f263:=Tryz.func213.trans (congrArg some (by kernel_rfl))
 f264:=Tryz.func214.trans (congrArg some (by kernel_rfl))
 f276:=Tryz.func220.trans (congrArg some (by kernel_rfl))
 f277:=Tryz.func221.trans (congrArg some (by kernel_rfl))
 t0:=Tryz.underlying0
 a0:=Tryz.isAgg0
 z0:=Tryz.sizeOf0
 v0:=Tryz.zeroValue0
 t3:=Tryz.underlying3
 a3:=Tryz.isAgg3
 z3:=Tryz.sizeOf3
 v3:=Tryz.zeroValue3
 t4:=Tryz.underlying4
 a4:=Tryz.isAgg4
 z4:=Tryz.sizeOf4
 v4:=Tryz.zeroValue4
 t5:=Tryz.underlying5
 a5:=Tryz.isAgg5
 z5:=Tryz.sizeOf5
 v5:=Tryz.zeroValue5
 t9:=Tryz.underlying9
 a9:=Tryz.isAgg9
 z9:=Tryz.sizeOf9
 v9:=Tryz.zeroValue9
 t20:=Tryz.underlying20
 a20:=Tryz.isAgg20
 z20:=Tryz.sizeOf20
 v20:=Tryz.zeroValue20
 t37:=Tryz.underlying119
 a37:=Tryz.isAgg119
 z37:=Tryz.sizeOf119
 v37:=Tryz.zeroValue119
 t46:=Tryz.underlying194
 a46:=Tryz.isAgg194
 z46:=Tryz.sizeOf194
 v46:=Tryz.zeroValue194
 t51:=Tryz.underlying245
 a51:=Tryz.isAgg245
 z51:=Tryz.sizeOf245
 v51:=Tryz.zeroValue245
 t53:=Tryz.underlying72
 a53:=Tryz.isAgg72
 z53:=Tryz.sizeOf72
 v53:=Tryz.zeroValue72
 t70:=Tryz.underlying235
 a70:=Tryz.isAgg235
 z70:=Tryz.sizeOf235
 v70:=Tryz.zeroValue235
 t72:=Tryz.underlying237
 a72:=Tryz.isAgg237
 z72:=Tryz.sizeOf237
 v72:=Tryz.zeroValue237
 t75:=Tryz.underlying150
 a75:=Tryz.isAgg150
 z75:=Tryz.sizeOf150
 v75:=Tryz.zeroValue150
 t76:=Tryz.underlying151
 a76:=Tryz.isAgg151
 z76:=Tryz.sizeOf151
 v76:=Tryz.zeroValue151
 t109:=Tryz.underlying233
 a109:=Tryz.isAgg233
 z109:=Tryz.sizeOf233
 v109:=Tryz.zeroValue233
 t127:=Tryz.underlying241
 a127:=Tryz.isAgg241
 z127:=Tryz.sizeOf241
 v127:=Tryz.zeroValue241
 t146:=Tryz.underlying246
 a146:=Tryz.isAgg246
 z146:=Tryz.sizeOf246
 v146:=Tryz.zeroValue246
 t148:=Tryz.underlying253
 a148:=Tryz.isAgg253
 z148:=Tryz.sizeOf253
 v148:=Tryz.zeroValue253
 t164:=Tryz.underlying257
 a164:=Tryz.isAgg257
 z164:=Tryz.sizeOf257
 v164:=Tryz.zeroValue257}
theorem Tryz.Builder_Extra_105:Builder.Extra Tryz.prog Tryz.lays105_ren:={
 sizeBuilder:=by kernel_rfl
 liesBuilder:=by kernel_rfl
 t5:=Tryz.underlying5
 a5:=Tryz.isAgg5
 z5:=Tryz.sizeOf5
 v5:=Tryz.zeroValue5
 infoByte:=by kernel_rfl
 cellsByte:=by kernel_rfl
 sizeByte:=by kernel_rfl
 neB5:=by decide}
open Go.RowKit Go.Lib in
theorem Tryz.strings_Repeat (s:ByteArray) (c:Nat) (w:World) (hc:c<=9223372036854775807) (hlen:s.size*c<=140737488355328):
 Calls Tryz.prog 184 #[.string s,.int .i64 c] w fun e w'=>e=.returned (.string ⟨(Lib.repeatL s.data.toList c).toArray⟩)/\Below w.heap.size w w':=Any.strings_Repeat Tryz.lays105 Tryz.Builder_Extra_105 s c w hc hlen
def Tryz.lays197_ren:Go.Shelf.Ren:=⟨fun| 197=>91| 260=>123|n=>n,fun| 9=>9| 21=>21| 3=>3| 4=>4| 5=>5| 105=>131| 119=>193| 0=>0| 46=>194| 139=>197| 138=>196|n=>n,fun| 3=>1| 4=>2|n=>n⟩
theorem Tryz.lays197:Go.Proofs.Lays.n197 Tryz.prog Tryz.lays197_ren:={
 mixed:=by kernel_rfl
 f197:=Tryz.func91.trans (congrArg some (by kernel_rfl))
 f260:=Tryz.func123.trans (congrArg some (by kernel_rfl))
 t0:=Tryz.underlying0
 a0:=Tryz.isAgg0
 z0:=Tryz.sizeOf0
 v0:=Tryz.zeroValue0
 t3:=Tryz.underlying3
 a3:=Tryz.isAgg3
 z3:=Tryz.sizeOf3
 v3:=Tryz.zeroValue3
 t4:=Tryz.underlying4
 a4:=Tryz.isAgg4
 z4:=Tryz.sizeOf4
 v4:=Tryz.zeroValue4
 t5:=Tryz.underlying5
 a5:=Tryz.isAgg5
 z5:=Tryz.sizeOf5
 v5:=Tryz.zeroValue5
 t9:=Tryz.underlying9
 a9:=Tryz.isAgg9
 z9:=Tryz.sizeOf9
 v9:=Tryz.zeroValue9
 t21:=Tryz.underlying21
 a21:=Tryz.isAgg21
 z21:=Tryz.sizeOf21
 v21:=Tryz.zeroValue21
 t46:=Tryz.underlying194
 a46:=Tryz.isAgg194
 z46:=Tryz.sizeOf194
 v46:=Tryz.zeroValue194
 t105:=Tryz.underlying131
 a105:=Tryz.isAgg131
 z105:=Tryz.sizeOf131
 v105:=Tryz.zeroValue131
 t119:=Tryz.underlying193
 a119:=Tryz.isAgg193
 z119:=Tryz.sizeOf193
 t138:=Tryz.underlying196
 a138:=Tryz.isAgg196
 z138:=Tryz.sizeOf196
 v138:=Tryz.zeroValue196
 t139:=Tryz.underlying197
 a139:=Tryz.isAgg197
 z139:=Tryz.sizeOf197
 v139:=Tryz.zeroValue197
 g3:=by kernel_rfl
 g4:=by kernel_rfl}
open Go.RowKit Go.Lib in
theorem Tryz.utf8_DecodeRuneInString (s:ByteArray) (w:World) (hT:Lib.Utf8Tabs 1 2 w):
 Calls Tryz.prog 91 #[.string s] w fun e w'=>e=.returned (.tuple #[.int .i32 (Lib.decodeGo s).1,.int .i64 (Lib.decodeGo s).2])/\Below w.heap.size w w':=Any.utf8_DecodeRuneInString Tryz.lays197 s w hT
end Go.Proofs
namespace Go.Proofs.YtoigpackhninoaaGreatDoor
set_option maxRecDepth 100000
set_option maxHeartbeats 16000000
namespace Utf
abbrev Str:=List UInt8
def dec (r:Str):Nat×Nat:=
 let b (k:Nat):Nat:=(r.getD k 0).toNat;let cont (k:Nat):Bool:=k<r.length && b k /64==2
 if b 0<0x80 then(b 0,1)
 else if b 0 /32==6 && cont 1 then
  let c:=(b 0%32)*64+b 1%64
  if c>=0x80 then(c,2)else(65533,1)
 else if b 0 /16==14 && cont 1 && cont 2 then
  let c:=(b 0%16)*4096+(b 1%64)*64+b 2%64
  if c>=0x800 && Utf8.valid c then(c,3)else(65533,1)
 else if b 0 /8==30 && cont 1 && cont 2 && cont 3 then
  let c:=(b 0%8)*262144+(b 1%64)*4096+(b 2%64)*64+b 3%64
  if c>=0x10000 && Utf8.valid c then(c,4)else(65533,1)
 else(65533,1)
theorem get_list (s:Str) (j:Nat):((⟨s.toArray⟩:ByteArray).get! j)=s.getD j 0:=by
 show(s.toArray)[j]! =_;rw[List.getElem!_toArray,List.getElem!_eq_getElem?_getD,List.getD_eq_getElem?_getD];rfl
theorem decode_list (s:Str) (i:Nat):Utf8.decode ⟨s.toArray⟩ i=dec (s.drop i):=by
 have hb:∀k,(⟨s.toArray⟩:ByteArray).get! (i+k)=(s.drop i).getD k 0:=by
  intro k;rw[get_list,List.getD_eq_getElem?_getD,List.getD_eq_getElem?_getD,List.getElem?_drop]
 have hs:(⟨s.toArray⟩:ByteArray).size=s.length:=by simp[ByteArray.size]
 have hc:∀k,decide (i+k<(⟨s.toArray⟩:ByteArray).size)=decide (k<(s.drop i).length):=by
  intro k;rw[hs,List.length_drop,decide_eq_decide];omega
 unfold Utf8.decode dec;simp only[hb,hc,Utf8.runeError]
def badU:Nat->Str->Nat->Option Nat
 | 0,_,_=>none
 |n+1,r,i=>match r with
  | []=>none
  |_::_=>if(dec r).1=65533/\(dec r).2=1 then some i else badU n (r.drop (dec r).2) (i+(dec r).2)
def bad (s:Str):Option Nat:=badU s.length s 0
theorem dec_width (r:Str):1<=(dec r).2/\(dec r).2<=4:=by
 unfold dec;simp only
 repeat' split
 all_goals (constructor<;>simp)
theorem dec_len (r:Str) (h:r≠[]):(dec r).2<=r.length:=by
 have h0:0<r.length:=List.length_pos_iff.2 h;unfold dec;simp only
 repeat' split
 all_goals (simp_all<;>omega)
theorem badU_fuel (n m:Nat) (r:Str) (i:Nat) (hn:r.length<=n) (hm:r.length<=m):badU n r i=badU m r i:=by
 induction n generalizing m r i with
 |zero=>
  have:r=[]:=List.eq_nil_of_length_eq_zero (by omega);subst this;cases m<;>rfl
 |succ n ih=>
  cases r with
  |nil=>cases m<;>rfl
  |cons c q=>
   cases m with
   |zero=>simp at hm
   |succ m=>
    have hw:=dec_width (c::q);unfold badU;simp only;split
    ·rfl
    ·exact ih m _ _ (by simp at hn ⊢;omega) (by simp at hm ⊢;omega)
theorem dec_ok (r:Str):r≠[]->(dec r).2<=r.length:=fun h=>dec_len r h
def badR (r:Str) (i:Nat):Option Nat:=badU r.length r i
theorem badR_step (r:Str) (i d n:Nat) (hr:r≠[]) (h:dec r=(d,n)):badR r i=if d=65533/\n=1 then some i else badR (r.drop n) (i+n):=by
 cases r with
 |nil=>exact absurd rfl hr
 |cons c q=>
  unfold badR;show badU (q.length+1) (c::q) i=_;rw[show badU (q.length+1) (c::q) i=if(dec (c::q)).1=65533/\(dec (c::q)).2=1 then some i else badU q.length ((c::q).drop (dec (c::q)).2) (i+(dec (c::q)).2)from rfl,h];split
  ·rfl
  ·have h1:=(dec_width (c::q)).1;rw[h]at h1;have h1:1<=n:=h1;refine badU_fuel _ _ _ _ ?_ (Nat.le_refl _);rw[List.length_drop,List.length_cons];omega
end Utf
open Go.RowKit
theorem extract_dropU (s:Utf.Str) (a:Nat):(⟨s.toArray⟩:ByteArray).extract a s.length=⟨(s.drop a).toArray⟩:=by
 rw[extract_list',List.take_of_length_le (by simp)]
def ckVal (o:Option Nat):Value:=match o with
 |some i=>.tuple #[.int .i64 (i:Nat),.int .i64 11]
 |none=>.tuple #[.int .i64 (-1),.int .i64 0]
theorem tabs_below {B:Nat} {w w':World} (h:Lib.Utf8Tabs 1 2 w) (hb:Below B w w') (hB:3<=B):Lib.Utf8Tabs 1 2 w':=
 ⟨fun c hc=>(hb.cell (by simp;omega)).trans (h.1 c hc),fun i hi=>⟨(hb.cell (by simp;omega)).trans (h.2 i hi).1,(hb.cell (by simp;omega)).trans (h.2 i hi).2⟩⟩
theorem decode_call (s:Utf.Str) (pos d n:Nat) (h:pos<s.length) (hd:Utf.dec (s.drop pos)=(d,n)) (W:World) (hT:Lib.Utf8Tabs 1 2 W):
 Calls Tryz.prog 91 #[.string ((⟨s.toArray⟩:ByteArray).extract pos s.length)] W fun e w'=>e=.returned (.tuple #[.int .i32 d,.int .i64 n])/\Below W.heap.size W w':=by
 have e0:(⟨s.toArray⟩:ByteArray).extract pos s.length=⟨(s.drop pos).toArray⟩:=by
  rw[extract_dropU]
 rw[e0];refine(Tryz.utf8_DecodeRuneInString _ W hT).mono ?_;rintro e w' ⟨rfl,hb⟩;have e1:Lib.decodeGo ⟨(s.drop pos).toArray⟩=(d,n):=by
  unfold Lib.decodeGo;rw[if_neg (by simp[ByteArray.size];omega),Utf.decode_list,List.drop_zero,hd]
 rw[e1];exact⟨rfl,hb⟩
theorem codepoint_any (s:Utf.Str) (hs:s.length<=1073741823) (w:World) (hT:Lib.Utf8Tabs 1 2 w) (hw:3<=w.heap.size) (v:Value) (hv:ckVal (Utf.bad s)=v):
 Calls Tryz.prog 72 #[.string ⟨s.toArray⟩] w fun e w'=>e=.returned v/\Below w.heap.size w w':=by
 have HV:=Lib.hid hv;have HT:=Lib.hid hT;clear hv hT;go_enter Tryz.func72,Tryz.ntmps72;go_wp2_with fail;go_loopw [10] (fun x wr=>∃pos:Nat,pos<=s.length/\wr.heap[w.heap.size]? =some (.stringIter ⟨s.toArray⟩ pos)/\Below w.heap.size w wr/\Hid (Utf.bad s=Utf.badR (s.drop pos) pos)) (fun _ wr=>s.length-wr.iterPos w.heap.size)
 case atStart=>exact⟨0,by omega,World.iter_heap w _ 0,(Below.refl _ _).alloc (Nat.le_refl _) _,Lib.hid rfl⟩
 case round=>
  obtain⟨pos,hp,hk,hb,HC⟩:=hrel;have HK:=Lib.hid hk;have HBW:=Lib.hid hb;by_cases hlt:pos<s.length
  ·obtain⟨d,n,hd⟩:∃d n,Utf.dec (s.drop pos)=(d,n):=⟨_,_,rfl⟩
   have hne:s.drop pos≠[]:=by intro e;have:=congrArg List.length e;simp at this;omega
   have hwd:=Utf.dec_width (s.drop pos);have hle:=Utf.dec_ok (s.drop pos) hne;rw[hd]at hwd hle;have hstep:=Utf.badR_step (s.drop pos) pos d n hne hd;rw[List.drop_drop]at hstep;have hn1:1<=n:=hwd.1;have hn2:pos+n<=s.length:=by have:n<=(s.drop pos).length:=hle;simp at this;omega
   have hnx:∀ty,(Instr.next (.pointer (some ⟨w.heap.size,0,none⟩)) true ty).run Tryz.prog wr=.ok (.tuple #[.bool true,.int .i64 pos,.int .i32 d]) (wr.iterAt w.heap.size ⟨s.toArray⟩ (pos+n)):=by
    intro ty;rw[Lib.run_next_any_at wr w.heap.size ⟨s.toArray⟩ pos ty hk (by simp[ByteArray.size];omega),Utf.decode_list,hd]
   obtain⟨w2,hw2⟩:∃w2,wr.iterAt w.heap.size ⟨s.toArray⟩ (pos+n)=w2:=⟨_,rfl⟩
   have hk2:w2.heap[w.heap.size]? =some (.stringIter ⟨s.toArray⟩ (pos+n)):=by rw[<-hw2];exact Lib.iterAt_heap wr _ _ pos _ hk
   have hb2:Below w.heap.size w w2:=by rw[<-hw2];exact Lib.below_iterAt hb (Nat.le_refl _) _ _
   rw[hw2]at hnx;have HK2:=Lib.hid hk2;have HB2:=Lib.hid hb2;have HST:=Lib.hid hstep;have HD:=Lib.hid hd;have hsz:w.heap.size<w2.heap.size:=(Array.getElem?_eq_some_iff.1 hk2).1;have hpI:(pos:Int)<=(s.length:Int):=by omega
   have HME:Hid (wr.iterPos w.heap.size=pos):=Lib.hid (iterPos_of hk);clear hw2 hk2 hb2 hstep hd hwd hle hne hk hb;by_cases h65:d=65533
   ·have k1:(d:Int)=65533:=by omega
    have HDD:Hid (Utf.dec (s.drop pos)=(65533,n)):=Lib.hid (by rw[HD.out,h65]);by_cases hn:n=1
    ·have HX:Hid (ckVal (some pos)=v):=Lib.hid (by rw[<-HV.out,HC.out,HST.out,if_pos ⟨h65,hn⟩]);have k2:(n:Int)=1:=by omega
     clear h65 hn;go_wp2_with fail;refine(decode_call s pos 65533 n hlt HDD.out _ (tabs_below HT.out HB2.out hw)).mono ?_;rintro e w3 ⟨rfl,hb3⟩;have HB3:Hid (Below w.heap.size w w3):=Lib.hid (HB2.out.trans (hb3.mono HB2.out.size));clear hb3;go_wp2_with fail;(try refine bodyPost_ret (v:=.tuple #[.int .i64 pos,.int .i64 11]) (by simp[results,Tryz.results72,go_sem]) rfl ?_);exact⟨by rw[<-HX.out];rfl,HB3.out⟩
    ·have HX:Hid (Utf.bad s=Utf.badR (s.drop (pos+n)) (pos+n)):=Lib.hid (by rw[HC.out,HST.out,if_neg (by simp[hn])]);have k2:¬((n:Int)=1):=by omega
     have k2b:((n:Int)==1)=false:=by simpa using k2
     clear h65 hn;go_wp2_with fail;refine(decode_call s pos 65533 n hlt HDD.out _ (tabs_below HT.out HB2.out hw)).mono ?_;rintro e w3 ⟨rfl,hb3⟩;have HB3:Hid (Below w.heap.size w w3):=Lib.hid (HB2.out.trans (hb3.mono HB2.out.size));have HK3:Hid (w3.heap[w.heap.size]? =some (.stringIter ⟨s.toArray⟩ (pos+n))):=Lib.hid ((hb3.block _ hsz).trans HK2.out);clear hb3;go_wp2_with fail;go_roundw
     case rel=>exact⟨pos+n,hn2,HK3.out,HB3.out,HX⟩
     case measure=>rw[iterPos_of HK3.out,HME.out];omega
   ·have k1:¬((d:Int)=65533):=by omega
    have k1b:((d:Int)==65533)=false:=by simpa using k1
    have HX:Hid (Utf.bad s=Utf.badR (s.drop (pos+n)) (pos+n)):=Lib.hid (by rw[HC.out,HST.out,if_neg (by simp[h65])]);go_wp2_with fail;go_roundw
    case rel=>exact⟨pos+n,hn2,HK2.out,HB2.out,HX⟩
    case measure=>rw[iterPos_of HK2.out,HME.out];omega
  ·have hnx:∀ty,(Instr.next (.pointer (some ⟨w.heap.size,0,none⟩)) true ty).run Tryz.prog wr=.ok (.tuple #[.bool false]) wr:=fun ty=>Lib.run_next_end_at wr w.heap.size ⟨s.toArray⟩ pos ty hk (by simp[ByteArray.size];omega)
   have HX:Hid (ckVal none=v):=Lib.hid (by rw[<-HV.out,HC.out,List.drop_eq_nil_of_le (by omega)];rfl);clear hk hb;go_wp2_with fail;(try refine bodyPost_ret (v:=.tuple #[.int .i64 (-1),.int .i64 0]) (by simp[results,Tryz.results72,go_sem]) rfl ?_);exact⟨by rw[<-HX.out];rfl,HBW.out⟩
end Go.Proofs.YtoigpackhninoaaGreatDoor
