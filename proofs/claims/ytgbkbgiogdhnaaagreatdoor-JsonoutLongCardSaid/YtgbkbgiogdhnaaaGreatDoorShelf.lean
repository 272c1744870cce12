/-
 DERIVED: THE SHELF's CONTRACTS AT THIS DUMP, IN PLAIN WORDS (tools/lay-plain.mjs out of 'TryzShelf.lean', which tools/lay-shelf.mjs wrote): THE SAME DECLARATIONS UNDER THE SAME NAMES: 'import', 'namespace', 'open', 'def', 'theorem' AND NOTHING ELSE: no command of the shelf's: FOR A HAND-IN. Each laying: the table of numbers ('.._ren') and one theorem, a field a fact of the dump's own or the kernel's comparison; each contract: ONE APPLICATION.
-/
import Derived.Shelf.Strings.Builder1
import Derived.Shelf.Strings.Builder2
import Derived.Shelf.Small.Utf8
import Derived.Shelf.Small.Strs
import Derived.Shelf.Strings.BuilderF
import Derived.Shelf.Strings.BuilderK
import Derived.Shelf.Strings.BuilderRune
import Derived.Shelf.Utf8.AppendRune
import Derived.Shelf.Utf8.AppendRunePlain
import Derived.Shelf.Strings.Builder2Cap
import Derived.Shelf.Strconv.Atoi
import Derived.Shelf.Strconv.Itoa0
import Derived.Shelf.Strconv.Itoa1
import Derived.Shelf.LaysM
import Derived.Shelf.Strconv.Itoa2
import Derived.Shelf.Strconv.Itoa3
import Derived.Shelf.Strconv.AtoiErrFast
import Derived.Shelf.Strconv.ParseIntEmpty
import Derived.Shelf.Strconv.AtoiFail
import Derived.Shelf.Strconv.Clone
import Derived.Shelf.Strconv.SyntaxError
import Derived.Shelf.LaysC
import Derived.Shelf.Strconv.ToError
import Derived.Shelf.Strconv.AtoiErr
import Derived.Shelf.Strings.Search1
import Derived.Shelf.Strings.Search2
import Derived.Shelf.Strings.Search3
import Derived.Shelf.Strings.Cut
import Derived.Shelf.Strings.Shaped
import Derived.Shelf.Strings.Prefix
import Derived.Shelf.Unicode.Decode
import Derived.Shelf.Strings.Runes
import Derived.Shelf.Strings.IndexAny
import Derived.Shelf.Strings.AsciiSet
import Derived.Shelf.Strings.IndexAnyAll
import Derived.Shelf.Bits.Mul64
import Derived.Shelf.Unicode.DecodeSlow
import Derived.Shelf.Unicode.DecodeAny
import Derived.Shelf.Strings.BuilderCap
import Derived.Test.YtgbkbgiogdhnaaaGreatDoorProg
namespace Go.Proofs
open Go.Shelf
def Tryz.lays170_ren:Go.Shelf.Ren:=⟨fun | 170=>17 | n=>n,fun | 70=>49 | 3=>3 | 0=>0 | 72=>52 | 37=>50 | 5=>5 | n=>n,fun | n=>n⟩
theorem Tryz.lays170:Go.Proofs.Lays.n170 Tryz.prog Tryz.lays170_ren:={
 mixed:=by kernel_rfl
 f170:=Tryz.func17.trans (congrArg some (by kernel_rfl))
 t0:=Tryz.underlying0
 a0:=Tryz.isAgg0
 z0:=Tryz.sizeOf0
 v0:=Tryz.zeroValue0
 t3:=Tryz.underlying3
 a3:=Tryz.isAgg3
 z3:=Tryz.sizeOf3
 v3:=Tryz.zeroValue3
 t37:=Tryz.underlying50
 a37:=Tryz.isAgg50
 z37:=Tryz.sizeOf50
 v37:=Tryz.zeroValue50
 t70:=Tryz.underlying49
 a70:=Tryz.isAgg49
 z70:=Tryz.sizeOf49
 v70:=Tryz.zeroValue49
 t72:=Tryz.underlying52
 a72:=Tryz.isAgg52
 z72:=Tryz.sizeOf52
 v72:=Tryz.zeroValue52 }
open Go.RowKit in
def Tryz.lays169_ren:Go.Shelf.Ren:=⟨fun | 169=>18 | n=>n,fun | 70=>49 | 9=>9 | 0=>0 | 72=>52 | 37=>50 | 127=>95 | 3=>3 | 5=>5 | n=>n,fun | n=>n⟩
theorem Tryz.lays169:Go.Proofs.Lays.n169 Tryz.prog Tryz.lays169_ren:={
 mixed:=by kernel_rfl
 f169:=Tryz.func18.trans (congrArg some (by kernel_rfl))
 t0:=Tryz.underlying0
 a0:=Tryz.isAgg0
 z0:=Tryz.sizeOf0
 v0:=Tryz.zeroValue0
 t3:=Tryz.underlying3
 a3:=Tryz.isAgg3
 z3:=Tryz.sizeOf3
 v3:=Tryz.zeroValue3
 t9:=Tryz.underlying9
 a9:=Tryz.isAgg9
 z9:=Tryz.sizeOf9
 v9:=Tryz.zeroValue9
 t37:=Tryz.underlying50
 a37:=Tryz.isAgg50
 z37:=Tryz.sizeOf50
 v37:=Tryz.zeroValue50
 t70:=Tryz.underlying49
 a70:=Tryz.isAgg49
 z70:=Tryz.sizeOf49
 v70:=Tryz.zeroValue49
 t72:=Tryz.underlying52
 a72:=Tryz.isAgg52
 z72:=Tryz.sizeOf52
 v72:=Tryz.zeroValue52
 t127:=Tryz.underlying95
 a127:=Tryz.isAgg95
 z127:=Tryz.sizeOf95
 v127:=Tryz.zeroValue95 }
theorem Tryz.Builder_Extra_169:Builder.Extra Tryz.prog Tryz.lays169_ren:={
 sizeBuilder:=by kernel_rfl
 liesBuilder:=by kernel_rfl
 t5:=Tryz.underlying5
 a5:=Tryz.isAgg5
 z5:=Tryz.sizeOf5
 v5:=Tryz.zeroValue5
 infoByte:=by kernel_rfl
 cellsByte:=by kernel_rfl
 sizeByte:=by kernel_rfl
 neB5:=by decide }
open Go.RowKit in
open Go.RowKit in
open Go.RowKit in
open Go.RowKit in
def Tryz.lays165_ren:Go.Shelf.Ren:=⟨fun | 165=>15 | 240=>35 | 241=>36 | 276=>59 | 277=>60 | n=>n,fun | 70=>49 | 3=>3 | 0=>0 | 4=>4 | 9=>9 | 20=>20 | 72=>52 | 37=>50 | 164=>125 | 5=>5 | n=>n,fun | n=>n⟩
theorem Tryz.lays165:Go.Proofs.Lays.n165 Tryz.prog Tryz.lays165_ren:={
 mixed:=by kernel_rfl
 f165:=Tryz.func15.trans (congrArg some (by kernel_rfl))
 f240:=Tryz.func35.trans (congrArg some (by kernel_rfl))
 f241:=Tryz.func36.trans (congrArg some (by kernel_rfl))
 f276:=Tryz.func59.trans (congrArg some (by kernel_rfl))
 f277:=Tryz.func60.trans (congrArg some (by kernel_rfl))
 t0:=Tryz.underlying0
 a0:=Tryz.isAgg0
 z0:=Tryz.sizeOf0
 v0:=Tryz.zeroValue0
 t3:=Tryz.underlying3
 a3:=Tryz.isAgg3
 z3:=Tryz.sizeOf3
 v3:=Tryz.zeroValue3
 t4:=Tryz.underlying4
 a4:=Tryz.isAgg4
 z4:=Tryz.sizeOf4
 v4:=Tryz.zeroValue4
 t9:=Tryz.underlying9
 a9:=Tryz.isAgg9
 z9:=Tryz.sizeOf9
 v9:=Tryz.zeroValue9
 t20:=Tryz.underlying20
 a20:=Tryz.isAgg20
 z20:=Tryz.sizeOf20
 v20:=Tryz.zeroValue20
 t37:=Tryz.underlying50
 a37:=Tryz.isAgg50
 z37:=Tryz.sizeOf50
 v37:=Tryz.zeroValue50
 t70:=Tryz.underlying49
 a70:=Tryz.isAgg49
 z70:=Tryz.sizeOf49
 v70:=Tryz.zeroValue49
 t72:=Tryz.underlying52
 a72:=Tryz.isAgg52
 z72:=Tryz.sizeOf52
 v72:=Tryz.zeroValue52
 t164:=Tryz.underlying125
 a164:=Tryz.isAgg125
 z164:=Tryz.sizeOf125
 v164:=Tryz.zeroValue125 }
theorem Tryz.Builder_Extra_165:Builder.Extra Tryz.prog Tryz.lays165_ren:={
 sizeBuilder:=by kernel_rfl
 liesBuilder:=by kernel_rfl
 t5:=Tryz.underlying5
 a5:=Tryz.isAgg5
 z5:=Tryz.sizeOf5
 v5:=Tryz.zeroValue5
 infoByte:=by kernel_rfl
 cellsByte:=by kernel_rfl
 sizeByte:=by kernel_rfl
 neB5:=by decide }
open Go.RowKit in
theorem Tryz.Builder_Grow_fresh (B b n:Nat) (w:World) (hB:B≤b) (hbk:w.heap[b]? = some (.cells #[.pointer none,.slice none 0 0] 52 (0,0))) (hBw:B≤w.heap.size) (hn:n≤281474976710656) :
  Calls Tryz.prog 15 #[.pointer (some ⟨b,0,none⟩),.int .i64 n] w fun e w'=>e=.returned (.tuple #[])∧(Lib.BuilderAt 52 5 B b (.pointer (some ⟨b,0,none⟩)) [] w'∧Below B w w'):=Any.Builder_Grow_fresh Tryz.lays165 Tryz.Builder_Extra_165 B b n w hB hbk hBw hn
open Go.RowKit in
def Tryz.lays106_ren:Go.Shelf.Ren:=⟨fun | 106=>112 | 213=>151 | 265=>196 | n=>n,fun | 9=>9 | 3=>3 | n=>n,fun | n=>n⟩
theorem Tryz.lays106:Go.Proofs.Lays.n106 Tryz.prog Tryz.lays106_ren:={
 mixed:=by kernel_rfl
 f106:=Tryz.func112.trans (congrArg some (by kernel_rfl))
 f213:=Tryz.func151.trans (congrArg some (by kernel_rfl))
 f265:=Tryz.func196.trans (congrArg some (by kernel_rfl))
 t3:=Tryz.underlying3
 a3:=Tryz.isAgg3
 z3:=Tryz.sizeOf3
 v3:=Tryz.zeroValue3
 t9:=Tryz.underlying9
 a9:=Tryz.isAgg9
 z9:=Tryz.sizeOf9
 v9:=Tryz.zeroValue9 }
open Go.RowKit in
theorem Tryz.strings_Compare (a b:ByteArray) (w:World) :
  Calls Tryz.prog 112 #[.string a,.string b] w fun e w'=>e=.returned (.int .i64 (Lib.compareBytes a.data.toList b.data.toList))∧w'=w:=Any.strings_Compare Tryz.lays106 a b w
def Tryz.lays137_ren:Go.Shelf.Ren:=⟨fun | 137=>50 | 217=>84 | 266=>123 | n=>n,fun | 9=>9 | 5=>5 | 3=>3 | n=>n,fun | n=>n⟩
theorem Tryz.lays137:Go.Proofs.Lays.n137 Tryz.prog Tryz.lays137_ren:={
 mixed:=by kernel_rfl
 f137:=Tryz.func50.trans (congrArg some (by kernel_rfl))
 f217:=Tryz.func84.trans (congrArg some (by kernel_rfl))
 f266:=Tryz.func123.trans (congrArg some (by kernel_rfl))
 t3:=Tryz.underlying3
 a3:=Tryz.isAgg3
 z3:=Tryz.sizeOf3
 v3:=Tryz.zeroValue3
 t5:=Tryz.underlying5
 a5:=Tryz.isAgg5
 z5:=Tryz.sizeOf5
 v5:=Tryz.zeroValue5
 t9:=Tryz.underlying9
 a9:=Tryz.isAgg9
 z9:=Tryz.sizeOf9
 v9:=Tryz.zeroValue9 }
open Go.RowKit in
theorem Tryz.strings_IndexByte (s:ByteArray) (c:Int) (w:World) :
  Calls Tryz.prog 50 #[.string s,.int .u8 c] w fun e w'=>e=.returned (.int .i64 (Lib.indexByte s.data.toList c.toNat.toUInt8))∧w'=w:=Any.strings_IndexByte Tryz.lays137 s c w
open Go.RowKit in
theorem Tryz.Builder_Len_f (B b:Nat) (bs:List Value) (w:World) (h:Lib.IsBuilderF 52 5 B b bs w) :
  Calls Tryz.prog 17 #[.pointer (some ⟨b,0,none⟩)] w fun e w'=>e=.returned (.int .i64 bs.length)∧w'=w:=Any.Builder_Len_f Tryz.lays170 B b bs w h
open Go.RowKit in
open Go.RowKit in
open Go.RowKit in
open Go.RowKit in
open Go.RowKit in
open Go.RowKit in
theorem Tryz.Builder_String_any_k (B b:Nat) (l:List UInt8) (w:World) (h:Lib.IsBuilderF 52 5 B b (Lib.byteCells l) w) (hBw:B≤w.heap.size) :
  Calls Tryz.prog 18 #[.pointer (some ⟨b,0,none⟩)] w fun e w'=>e=.returned (.string ⟨l.toArray⟩)∧(Lib.IsBuilderF 52 5 B b (Lib.byteCells l) w'∧Below B w w'∧Lib.OthersKept 5 (some b) w w'):=Any.Builder_String_any_k Tryz.lays169 Tryz.Builder_Extra_169 B b l w h hBw
open Go.RowKit in
open Go.RowKit in
open Go.RowKit in
open Go.RowKit in
open Go.RowKit in
open Go.RowKit in
open Go.RowKit in
def Tryz.lays172_ren:Go.Shelf.Ren:=⟨fun | 172=>142 | 244=>181 | 245=>182 | 247=>216 | 279=>217 | 280=>218 | 281=>219 | 282=>220 | 287=>200 | 316=>244 | 171=>109 | 205=>245 | 321=>230 | 322=>231 | 243=>148 | 246=>185 | 283=>221 | 284=>222 | 285=>223 | 286=>224 | 129=>195 | 317=>246 | 318=>247 | 319=>248 | 320=>249 | 337=>255 | 338=>235 | n=>n,fun | 9=>9 | 3=>3 | 75=>55 | 76=>56 | 4=>4 | 5=>5 | 167=>261 | 37=>50 | 0=>0 | 85=>262 | 2=>2 | 168=>264 | 53=>92 | 175=>218 | 46=>45 | 210=>286 | 127=>95 | 145=>299 | 143=>297 | 21=>21 | 171=>267 | 173=>269 | 212=>289 | 51=>89 | 20=>20 | 213=>290 | 232=>300 | 233=>293 | 80=>59 | n=>n,fun | 15=>4 | 16=>5 | 17=>6 | 18=>8 | 19=>7 | n=>n⟩
theorem Tryz.lays172:Go.Proofs.Lays.n172 Tryz.prog Tryz.lays172_ren:={
 mixed:=by kernel_rfl
 f129:=Tryz.func195.trans (congrArg some (by kernel_rfl))
 f171:=Tryz.func109.trans (congrArg some (by kernel_rfl))
 f172:=Tryz.func142.trans (congrArg some (by kernel_rfl))
 f205:=Tryz.func245.trans (congrArg some (by kernel_rfl))
 f243:=Tryz.func148.trans (congrArg some (by kernel_rfl))
 f244:=Tryz.func181.trans (congrArg some (by kernel_rfl))
 f245:=Tryz.func182.trans (congrArg some (by kernel_rfl))
 f246:=Tryz.func185.trans (congrArg some (by kernel_rfl))
 f247:=Tryz.func216.trans (congrArg some (by kernel_rfl))
 f279:=Tryz.func217.trans (congrArg some (by kernel_rfl))
 f280:=Tryz.func218.trans (congrArg some (by kernel_rfl))
 f281:=Tryz.func219.trans (congrArg some (by kernel_rfl))
 f282:=Tryz.func220.trans (congrArg some (by kernel_rfl))
 f283:=Tryz.func221.trans (congrArg some (by kernel_rfl))
 f284:=Tryz.func222.trans (congrArg some (by kernel_rfl))
 f285:=Tryz.func223.trans (congrArg some (by kernel_rfl))
 f286:=Tryz.func224.trans (congrArg some (by kernel_rfl))
 f287:=Tryz.func200.trans (congrArg some (by kernel_rfl))
 f316:=Tryz.func244.trans (congrArg some (by kernel_rfl))
 f317:=Tryz.func246.trans (congrArg some (by kernel_rfl))
 f318:=Tryz.func247.trans (congrArg some (by kernel_rfl))
 f319:=Tryz.func248.trans (congrArg some (by kernel_rfl))
 f320:=Tryz.func249.trans (congrArg some (by kernel_rfl))
 f321:=Tryz.func230.trans (congrArg some (by kernel_rfl))
 f322:=Tryz.func231.trans (congrArg some (by kernel_rfl))
 f337:=Tryz.func255.trans (congrArg some (by kernel_rfl))
 f338:=Tryz.func235.trans (congrArg some (by kernel_rfl))
 t0:=Tryz.underlying0
 a0:=Tryz.isAgg0
 z0:=Tryz.sizeOf0
 v0:=Tryz.zeroValue0
 t2:=Tryz.underlying2
 a2:=Tryz.isAgg2
 z2:=Tryz.sizeOf2
 v2:=Tryz.zeroValue2
 t3:=Tryz.underlying3
 a3:=Tryz.isAgg3
 z3:=Tryz.sizeOf3
 v3:=Tryz.zeroValue3
 t4:=Tryz.underlying4
 a4:=Tryz.isAgg4
 z4:=Tryz.sizeOf4
 v4:=Tryz.zeroValue4
 t5:=Tryz.underlying5
 a5:=Tryz.isAgg5
 z5:=Tryz.sizeOf5
 v5:=Tryz.zeroValue5
 t9:=Tryz.underlying9
 a9:=Tryz.isAgg9
 z9:=Tryz.sizeOf9
 v9:=Tryz.zeroValue9
 t20:=Tryz.underlying20
 a20:=Tryz.isAgg20
 z20:=Tryz.sizeOf20
 v20:=Tryz.zeroValue20
 t21:=Tryz.underlying21
 a21:=Tryz.isAgg21
 z21:=Tryz.sizeOf21
 v21:=Tryz.zeroValue21
 t37:=Tryz.underlying50
 a37:=Tryz.isAgg50
 z37:=Tryz.sizeOf50
 v37:=Tryz.zeroValue50
 t46:=Tryz.underlying45
 a46:=Tryz.isAgg45
 z46:=Tryz.sizeOf45
 v46:=Tryz.zeroValue45
 t51:=Tryz.underlying89
 a51:=Tryz.isAgg89
 z51:=Tryz.sizeOf89
 v51:=Tryz.zeroValue89
 t53:=Tryz.underlying92
 a53:=Tryz.isAgg92
 z53:=Tryz.sizeOf92
 v53:=Tryz.zeroValue92
 t75:=Tryz.underlying55
 a75:=Tryz.isAgg55
 z75:=Tryz.sizeOf55
 v75:=Tryz.zeroValue55
 t76:=Tryz.underlying56
 a76:=Tryz.isAgg56
 z76:=Tryz.sizeOf56
 v76:=Tryz.zeroValue56
 t85:=Tryz.underlying262
 a85:=Tryz.isAgg262
 z85:=Tryz.sizeOf262
 v85:=Tryz.zeroValue262
 t127:=Tryz.underlying95
 a127:=Tryz.isAgg95
 z127:=Tryz.sizeOf95
 v127:=Tryz.zeroValue95
 t143:=Tryz.underlying297
 a143:=Tryz.isAgg297
 z143:=Tryz.sizeOf297
 v143:=Tryz.zeroValue297
 t145:=Tryz.underlying299
 a145:=Tryz.isAgg299
 z145:=Tryz.sizeOf299
 v145:=Tryz.zeroValue299
 t167:=Tryz.underlying261
 a167:=Tryz.isAgg261
 z167:=Tryz.sizeOf261
 v167:=Tryz.zeroValue261
 t168:=Tryz.underlying264
 a168:=Tryz.isAgg264
 z168:=Tryz.sizeOf264
 v168:=Tryz.zeroValue264
 t171:=Tryz.underlying267
 a171:=Tryz.isAgg267
 z171:=Tryz.sizeOf267
 v171:=Tryz.zeroValue267
 t173:=Tryz.underlying269
 a173:=Tryz.isAgg269
 z173:=Tryz.sizeOf269
 v173:=Tryz.zeroValue269
 t175:=Tryz.underlying218
 a175:=Tryz.isAgg218
 z175:=Tryz.sizeOf218
 v175:=Tryz.zeroValue218
 t210:=Tryz.underlying286
 a210:=Tryz.isAgg286
 z210:=Tryz.sizeOf286
 v210:=Tryz.zeroValue286
 t212:=Tryz.underlying289
 a212:=Tryz.isAgg289
 z212:=Tryz.sizeOf289
 v212:=Tryz.zeroValue289
 t213:=Tryz.underlying290
 a213:=Tryz.isAgg290
 z213:=Tryz.sizeOf290
 t232:=Tryz.underlying300
 a232:=Tryz.isAgg300
 z232:=Tryz.sizeOf300
 v232:=Tryz.zeroValue300
 t233:=Tryz.underlying293
 a233:=Tryz.isAgg293
 z233:=Tryz.sizeOf293
 v233:=Tryz.zeroValue293
 g15:=by kernel_rfl
 g16:=by kernel_rfl
 g17:=by kernel_rfl
 g18:=by kernel_rfl
 g19:=by kernel_rfl }
open Go.RowKit in
theorem Tryz.strconv_Atoi (s:ByteArray) (n:Int) (hl:s.size≤18) (h:Lib.atoi s.data.toList=some n) (w:World) :
  Calls Tryz.prog 142 #[.string s] w fun e w'=>e=.returned (.tuple #[.int .i64 n,.nilIface])∧∃t,w'=Lib.bytesWorld w 5 t:=Any.strconv_Atoi Tryz.lays172 s n hl h w
def Tryz.lays129_ren:Go.Shelf.Ren:=⟨fun | 129=>195 | n=>n,fun | 53=>92 | 3=>3 | 4=>4 | 46=>45 | 5=>5 | 9=>9 | n=>n,fun | n=>n⟩
theorem Tryz.lays129:Go.Proofs.Lays.n129 Tryz.prog Tryz.lays129_ren:={
 mixed:=by kernel_rfl
 f129:=Tryz.func195.trans (congrArg some (by kernel_rfl))
 t3:=Tryz.underlying3
 a3:=Tryz.isAgg3
 z3:=Tryz.sizeOf3
 v3:=Tryz.zeroValue3
 t4:=Tryz.underlying4
 a4:=Tryz.isAgg4
 z4:=Tryz.sizeOf4
 v4:=Tryz.zeroValue4
 t5:=Tryz.underlying5
 a5:=Tryz.isAgg5
 z5:=Tryz.sizeOf5
 v5:=Tryz.zeroValue5
 t9:=Tryz.underlying9
 a9:=Tryz.isAgg9
 z9:=Tryz.sizeOf9
 v9:=Tryz.zeroValue9
 t46:=Tryz.underlying45
 a46:=Tryz.isAgg45
 z46:=Tryz.sizeOf45
 v46:=Tryz.zeroValue45
 t53:=Tryz.underlying92
 a53:=Tryz.isAgg92
 z53:=Tryz.sizeOf92
 v53:=Tryz.zeroValue92 }
theorem Tryz.bits_Len64 (x:Int) (w:World) (h0:0≤x) (h1:x≤18446744073709551615) :
  Calls Tryz.prog 195 #[.int .u64 x] w fun e w'=>e=.returned (.int .i64 (Lib.bitLen x.toNat))∧w'=w:=Any.bits_Len64 Tryz.lays129 x w h0 h1
open Go.Lib in
open Go.Lib in
open Go.Lib in
open Go.Lib in
open Go.RowKit Go.Sort Go.Lib in
open Go.RowKit Go.Sort Go.Lib in
open Go.RowKit Go.Sort Go.Lib in
open Go.RowKit Go.Sort Go.Lib in
open Go.RowKit Go.Sort Go.Lib in
def Tryz.laysM171_ren:Go.Shelf.Ren:=⟨fun | 171=>109 | 243=>148 | 246=>185 | 283=>221 | 284=>222 | 285=>223 | 286=>224 | 129=>195 | 317=>246 | 318=>247 | 319=>248 | 320=>249 | 337=>255 | 338=>235 | n=>n,fun | 3=>3 | 9=>9 | 2=>2 | 4=>4 | 171=>267 | 0=>0 | 53=>92 | 37=>50 | 5=>5 | 173=>269 | 212=>289 | 51=>89 | 20=>20 | 213=>290 | 46=>45 | 232=>300 | 233=>293 | n=>n,fun | 17=>6 | 18=>8 | 19=>7 | n=>n⟩
theorem Tryz.laysM171:Go.Proofs.LaysM.n171 Tryz.prog Tryz.laysM171_ren:={
 mixed:=by kernel_rfl
 f129:=Tryz.func195.trans (congrArg some (by kernel_rfl))
 f171:=Tryz.func109.trans (congrArg some (by kernel_rfl))
 f243:=Tryz.func148.trans (congrArg some (by kernel_rfl))
 f246:=Tryz.func185.trans (congrArg some (by kernel_rfl))
 f283:=Tryz.func221.trans (congrArg some (by kernel_rfl))
 f284:=Tryz.func222.trans (congrArg some (by kernel_rfl))
 f285:=Tryz.func223.trans (congrArg some (by kernel_rfl))
 f286:=Tryz.func224.trans (congrArg some (by kernel_rfl))
 f317:=Tryz.func246.trans (congrArg some (by kernel_rfl))
 f318:=Tryz.func247.trans (congrArg some (by kernel_rfl))
 f319:=Tryz.func248.trans (congrArg some (by kernel_rfl))
 f320:=Tryz.func249.trans (congrArg some (by kernel_rfl))
 f337:=Tryz.func255.trans (congrArg some (by kernel_rfl))
 f338:=Tryz.func235.trans (congrArg some (by kernel_rfl))
 t0:=Tryz.underlying0
 a0:=Tryz.isAgg0
 z0:=Tryz.sizeOf0
 v0:=Tryz.zeroValue0
 t2:=Tryz.underlying2
 a2:=Tryz.isAgg2
 z2:=Tryz.sizeOf2
 v2:=Tryz.zeroValue2
 t3:=Tryz.underlying3
 a3:=Tryz.isAgg3
 z3:=Tryz.sizeOf3
 v3:=Tryz.zeroValue3
 t4:=Tryz.underlying4
 a4:=Tryz.isAgg4
 z4:=Tryz.sizeOf4
 v4:=Tryz.zeroValue4
 t5:=Tryz.underlying5
 a5:=Tryz.isAgg5
 z5:=Tryz.sizeOf5
 v5:=Tryz.zeroValue5
 t9:=Tryz.underlying9
 a9:=Tryz.isAgg9
 z9:=Tryz.sizeOf9
 v9:=Tryz.zeroValue9
 t20:=Tryz.underlying20
 a20:=Tryz.isAgg20
 z20:=Tryz.sizeOf20
 v20:=Tryz.zeroValue20
 t37:=Tryz.underlying50
 a37:=Tryz.isAgg50
 z37:=Tryz.sizeOf50
 v37:=Tryz.zeroValue50
 t46:=Tryz.underlying45
 a46:=Tryz.isAgg45
 z46:=Tryz.sizeOf45
 v46:=Tryz.zeroValue45
 t51:=Tryz.underlying89
 a51:=Tryz.isAgg89
 z51:=Tryz.sizeOf89
 v51:=Tryz.zeroValue89
 t53:=Tryz.underlying92
 a53:=Tryz.isAgg92
 z53:=Tryz.sizeOf92
 v53:=Tryz.zeroValue92
 t171:=Tryz.underlying267
 a171:=Tryz.isAgg267
 z171:=Tryz.sizeOf267
 v171:=Tryz.zeroValue267
 t173:=Tryz.underlying269
 a173:=Tryz.isAgg269
 z173:=Tryz.sizeOf269
 v173:=Tryz.zeroValue269
 t212:=Tryz.underlying289
 a212:=Tryz.isAgg289
 z212:=Tryz.sizeOf289
 v212:=Tryz.zeroValue289
 t213:=Tryz.underlying290
 a213:=Tryz.isAgg290
 z213:=Tryz.sizeOf290
 t232:=Tryz.underlying300
 a232:=Tryz.isAgg300
 z232:=Tryz.sizeOf300
 v232:=Tryz.zeroValue300
 t233:=Tryz.underlying293
 a233:=Tryz.isAgg293
 z233:=Tryz.sizeOf293
 v233:=Tryz.zeroValue293
 g17:=by kernel_rfl
 g18:=by kernel_rfl
 g19:=by kernel_rfl
 i0:=by kernel_rfl
 i2:=by kernel_rfl
 i3:=by kernel_rfl
 i4:=by kernel_rfl
 i5:=by kernel_rfl
 i9:=by kernel_rfl
 i20:=by kernel_rfl
 i37:=by kernel_rfl
 i46:=by kernel_rfl
 i51:=by kernel_rfl
 i53:=by kernel_rfl
 i171:=by kernel_rfl
 i173:=by kernel_rfl
 i212:=by kernel_rfl
 i232:=by kernel_rfl
 i233:=by kernel_rfl
 m17:=by kernel_rfl
 m18:=by kernel_rfl
 m19:=by kernel_rfl }
open Go.RowKit Go.Sort Go.Lib in
theorem Tryz.strconv_Itoa (n:Int) (h0:-9223372036854775808≤n) (h1:n≤9223372036854775807) (w:World) (htab:Lib.TabIs Tryz.prog w "internal/strconv.uint64pow10" .u64 Lib.pow10Tab) :
  Calls Tryz.prog 109 #[.int .i64 n] w fun e w'=>e=.returned (.string ⟨(Lib.itoa n).toArray⟩)∧∃k os,w'=grow (w.drewN k) os:=Any.strconv_Itoa Tryz.laysM171 n h0 h1 w htab
open Go.RowKit Go.Sort Go.Lib in
open Go.RowKit in
open Go.RowKit in
open Go.RowKit in
open Go.RowKit in
open Go.RowKit in
open Go.RowKit in
open Go.RowKit in
def Tryz.laysC172_ren:Go.Shelf.Ren:=⟨fun | 172=>142 | 244=>181 | 245=>182 | 247=>216 | 279=>217 | 280=>218 | 281=>219 | 282=>220 | 287=>200 | 316=>244 | 171=>109 | 205=>245 | 321=>230 | 322=>231 | 243=>148 | 246=>185 | 283=>221 | 284=>222 | 285=>223 | 286=>224 | 129=>195 | 317=>246 | 318=>247 | 319=>248 | 320=>249 | 337=>255 | 338=>235 | n=>n,fun | 9=>9 | 3=>3 | 75=>55 | 76=>56 | 4=>4 | 5=>5 | 167=>261 | 37=>50 | 0=>0 | 85=>262 | 2=>2 | 168=>264 | 53=>92 | 175=>218 | 46=>45 | 210=>286 | 127=>95 | 145=>299 | 143=>297 | 21=>21 | 171=>267 | 173=>269 | 212=>289 | 51=>89 | 20=>20 | 213=>290 | 232=>300 | 233=>293 | 80=>59 | n=>n,fun | 15=>4 | 16=>5 | 17=>6 | 18=>8 | 19=>7 | n=>n⟩
theorem Tryz.laysC172:Go.Proofs.LaysC.n172 Tryz.prog Tryz.laysC172_ren:={
 mixed:=by kernel_rfl
 f129:=Tryz.func195.trans (congrArg some (by kernel_rfl))
 f171:=Tryz.func109.trans (congrArg some (by kernel_rfl))
 f172:=Tryz.func142.trans (congrArg some (by kernel_rfl))
 f205:=Tryz.func245.trans (congrArg some (by kernel_rfl))
 f243:=Tryz.func148.trans (congrArg some (by kernel_rfl))
 f244:=Tryz.func181.trans (congrArg some (by kernel_rfl))
 f245:=Tryz.func182.trans (congrArg some (by kernel_rfl))
 f246:=Tryz.func185.trans (congrArg some (by kernel_rfl))
 f247:=Tryz.func216.trans (congrArg some (by kernel_rfl))
 f279:=Tryz.func217.trans (congrArg some (by kernel_rfl))
 f280:=Tryz.func218.trans (congrArg some (by kernel_rfl))
 f281:=Tryz.func219.trans (congrArg some (by kernel_rfl))
 f282:=Tryz.func220.trans (congrArg some (by kernel_rfl))
 f283:=Tryz.func221.trans (congrArg some (by kernel_rfl))
 f284:=Tryz.func222.trans (congrArg some (by kernel_rfl))
 f285:=Tryz.func223.trans (congrArg some (by kernel_rfl))
 f286:=Tryz.func224.trans (congrArg some (by kernel_rfl))
 f287:=Tryz.func200.trans (congrArg some (by kernel_rfl))
 f316:=Tryz.func244.trans (congrArg some (by kernel_rfl))
 f317:=Tryz.func246.trans (congrArg some (by kernel_rfl))
 f318:=Tryz.func247.trans (congrArg some (by kernel_rfl))
 f319:=Tryz.func248.trans (congrArg some (by kernel_rfl))
 f320:=Tryz.func249.trans (congrArg some (by kernel_rfl))
 f321:=Tryz.func230.trans (congrArg some (by kernel_rfl))
 f322:=Tryz.func231.trans (congrArg some (by kernel_rfl))
 f337:=Tryz.func255.trans (congrArg some (by kernel_rfl))
 f338:=Tryz.func235.trans (congrArg some (by kernel_rfl))
 t0:=Tryz.underlying0
 a0:=Tryz.isAgg0
 z0:=Tryz.sizeOf0
 v0:=Tryz.zeroValue0
 t2:=Tryz.underlying2
 a2:=Tryz.isAgg2
 z2:=Tryz.sizeOf2
 v2:=Tryz.zeroValue2
 t3:=Tryz.underlying3
 a3:=Tryz.isAgg3
 z3:=Tryz.sizeOf3
 v3:=Tryz.zeroValue3
 t4:=Tryz.underlying4
 a4:=Tryz.isAgg4
 z4:=Tryz.sizeOf4
 v4:=Tryz.zeroValue4
 t5:=Tryz.underlying5
 a5:=Tryz.isAgg5
 z5:=Tryz.sizeOf5
 v5:=Tryz.zeroValue5
 t9:=Tryz.underlying9
 a9:=Tryz.isAgg9
 z9:=Tryz.sizeOf9
 v9:=Tryz.zeroValue9
 t20:=Tryz.underlying20
 a20:=Tryz.isAgg20
 z20:=Tryz.sizeOf20
 v20:=Tryz.zeroValue20
 t21:=Tryz.underlying21
 a21:=Tryz.isAgg21
 z21:=Tryz.sizeOf21
 v21:=Tryz.zeroValue21
 t37:=Tryz.underlying50
 a37:=Tryz.isAgg50
 z37:=Tryz.sizeOf50
 v37:=Tryz.zeroValue50
 t46:=Tryz.underlying45
 a46:=Tryz.isAgg45
 z46:=Tryz.sizeOf45
 v46:=Tryz.zeroValue45
 t51:=Tryz.underlying89
 a51:=Tryz.isAgg89
 z51:=Tryz.sizeOf89
 v51:=Tryz.zeroValue89
 t53:=Tryz.underlying92
 a53:=Tryz.isAgg92
 z53:=Tryz.sizeOf92
 v53:=Tryz.zeroValue92
 t75:=Tryz.underlying55
 a75:=Tryz.isAgg55
 z75:=Tryz.sizeOf55
 v75:=Tryz.zeroValue55
 t76:=Tryz.underlying56
 a76:=Tryz.isAgg56
 z76:=Tryz.sizeOf56
 v76:=Tryz.zeroValue56
 t85:=Tryz.underlying262
 a85:=Tryz.isAgg262
 z85:=Tryz.sizeOf262
 v85:=Tryz.zeroValue262
 t127:=Tryz.underlying95
 a127:=Tryz.isAgg95
 z127:=Tryz.sizeOf95
 v127:=Tryz.zeroValue95
 t143:=Tryz.underlying297
 a143:=Tryz.isAgg297
 z143:=Tryz.sizeOf297
 v143:=Tryz.zeroValue297
 t145:=Tryz.underlying299
 a145:=Tryz.isAgg299
 z145:=Tryz.sizeOf299
 v145:=Tryz.zeroValue299
 t167:=Tryz.underlying261
 a167:=Tryz.isAgg261
 z167:=Tryz.sizeOf261
 v167:=Tryz.zeroValue261
 t168:=Tryz.underlying264
 a168:=Tryz.isAgg264
 z168:=Tryz.sizeOf264
 v168:=Tryz.zeroValue264
 t171:=Tryz.underlying267
 a171:=Tryz.isAgg267
 z171:=Tryz.sizeOf267
 v171:=Tryz.zeroValue267
 t173:=Tryz.underlying269
 a173:=Tryz.isAgg269
 z173:=Tryz.sizeOf269
 v173:=Tryz.zeroValue269
 t175:=Tryz.underlying218
 a175:=Tryz.isAgg218
 z175:=Tryz.sizeOf218
 v175:=Tryz.zeroValue218
 t210:=Tryz.underlying286
 a210:=Tryz.isAgg286
 z210:=Tryz.sizeOf286
 v210:=Tryz.zeroValue286
 t212:=Tryz.underlying289
 a212:=Tryz.isAgg289
 z212:=Tryz.sizeOf289
 v212:=Tryz.zeroValue289
 t213:=Tryz.underlying290
 a213:=Tryz.isAgg290
 z213:=Tryz.sizeOf290
 t232:=Tryz.underlying300
 a232:=Tryz.isAgg300
 z232:=Tryz.sizeOf300
 v232:=Tryz.zeroValue300
 t233:=Tryz.underlying293
 a233:=Tryz.isAgg293
 z233:=Tryz.sizeOf293
 v233:=Tryz.zeroValue293
 g15:=by kernel_rfl
 g16:=by kernel_rfl
 g17:=by kernel_rfl
 g18:=by kernel_rfl
 g19:=by kernel_rfl
 t80:=Tryz.underlying59
 a80:=Tryz.isAgg59
 z80:=Tryz.sizeOf59
 v80:=Tryz.zeroValue59
 i0:=by kernel_rfl
 i2:=by kernel_rfl
 i3:=by kernel_rfl
 i4:=by kernel_rfl
 i5:=by kernel_rfl
 i9:=by kernel_rfl
 i20:=by kernel_rfl
 i21:=by kernel_rfl
 i37:=by kernel_rfl
 i46:=by kernel_rfl
 i51:=by kernel_rfl
 i53:=by kernel_rfl
 i75:=by kernel_rfl
 i76:=by kernel_rfl
 i80:=by kernel_rfl
 i85:=by kernel_rfl
 i127:=by kernel_rfl
 i143:=by kernel_rfl
 i145:=by kernel_rfl
 i167:=by kernel_rfl
 i168:=by kernel_rfl
 i171:=by kernel_rfl
 i173:=by kernel_rfl
 i175:=by kernel_rfl
 i210:=by kernel_rfl
 i212:=by kernel_rfl
 i232:=by kernel_rfl
 i233:=by kernel_rfl
 m15:=by kernel_rfl
 m16:=by kernel_rfl
 m17:=by kernel_rfl
 m18:=by kernel_rfl
 m19:=by kernel_rfl
 c0:=by kernel_rfl
 c2:=by kernel_rfl
 c3:=by kernel_rfl
 c4:=by kernel_rfl
 c5:=by kernel_rfl
 c9:=by kernel_rfl
 c20:=by kernel_rfl
 c21:=by kernel_rfl
 c37:=by kernel_rfl
 c46:=by kernel_rfl
 c51:=by kernel_rfl
 c53:=by kernel_rfl
 c75:=by kernel_rfl
 c76:=by kernel_rfl
 c80:=by kernel_rfl
 c85:=by kernel_rfl
 c127:=by kernel_rfl
 c143:=by kernel_rfl
 c145:=by kernel_rfl
 c167:=by kernel_rfl
 c168:=by kernel_rfl
 c171:=by kernel_rfl
 c173:=by kernel_rfl
 c175:=by kernel_rfl
 c210:=by kernel_rfl
 c212:=by kernel_rfl
 c213:=by kernel_rfl
 c232:=by kernel_rfl
 c233:=by kernel_rfl }
open Go.RowKit in
theorem Tryz.strconv_Atoi_err (s:ByteArray) (hl:s.size≤18) (h:Lib.atoi s.data.toList=none) (ev:Value) (w:World) (hv:w.cell? ⟨4,0,none⟩=some ev) (hev:ev=.nilIface∨∃te pe,ev=.iface te pe) :
  Calls Tryz.prog 142 #[.string s] w fun e w'=>∃N,e=.returned (.tuple #[.int .i64 0,.iface 264 (.pointer (some ⟨N,0,none⟩))])∧w.heap.size≤N∧w'.heap[N]? = some (.cells #[.string ⟨#[65,116,111,105]⟩,.string s,ev] 286 (0,0))∧Below w.heap.size w w':=Any.strconv_Atoi_err Tryz.laysC172 s hl h ev w hv hev
open Go.RowKit Go.Lib in
open Go.RowKit Go.Lib in
open Go.RowKit Go.Lib in
open Go.RowKit Go.Lib in
open Go.RowKit Go.Lib in
open Go.RowKit Go.Lib in
open Go.RowKit Go.Lib in
open Go.RowKit Go.Lib in
open Go.RowKit Go.Lib in
open Go.RowKit Go.Lib in
open Go.RowKit Go.Lib in
open Go.RowKit Go.Lib in
open Go.RowKit Go.Lib in
open Go.RowKit Go.Lib in
open Go.RowKit Go.Lib in
def Tryz.lays99_ren:Go.Shelf.Ren:=⟨fun | 99=>14 | 206=>34 | n=>n,fun | 9=>9 | 4=>4 | 3=>3 | n=>n,fun | n=>n⟩
theorem Tryz.lays99:Go.Proofs.Lays.n99 Tryz.prog Tryz.lays99_ren:={
 mixed:=by kernel_rfl
 f99:=Tryz.func14.trans (congrArg some (by kernel_rfl))
 f206:=Tryz.func34.trans (congrArg some (by kernel_rfl))
 t3:=Tryz.underlying3
 a3:=Tryz.isAgg3
 z3:=Tryz.sizeOf3
 v3:=Tryz.zeroValue3
 t4:=Tryz.underlying4
 a4:=Tryz.isAgg4
 z4:=Tryz.sizeOf4
 v4:=Tryz.zeroValue4
 t9:=Tryz.underlying9
 a9:=Tryz.isAgg9
 z9:=Tryz.sizeOf9
 v9:=Tryz.zeroValue9 }
open Go.RowKit Go.Lib in
theorem Tryz.strings_HasPrefix (s p:ByteArray) (w:World) :
  Calls Tryz.prog 14 #[.string s,.string p] w fun e w'=>e=.returned (.bool (Lib.hasPrefix s.data.toList p.data.toList))∧w'=w:=Any.strings_HasPrefix Tryz.lays99 s p w
open Go.RowKit Go.Lib in
def Tryz.lays101_ren:Go.Shelf.Ren:=⟨fun | 101=>143 | 208=>183 | 206=>34 | n=>n,fun | 9=>9 | 4=>4 | 3=>3 | n=>n,fun | n=>n⟩
theorem Tryz.lays101:Go.Proofs.Lays.n101 Tryz.prog Tryz.lays101_ren:={
 mixed:=by kernel_rfl
 f101:=Tryz.func143.trans (congrArg some (by kernel_rfl))
 f206:=Tryz.func34.trans (congrArg some (by kernel_rfl))
 f208:=Tryz.func183.trans (congrArg some (by kernel_rfl))
 t3:=Tryz.underlying3
 a3:=Tryz.isAgg3
 z3:=Tryz.sizeOf3
 v3:=Tryz.zeroValue3
 t4:=Tryz.underlying4
 a4:=Tryz.isAgg4
 z4:=Tryz.sizeOf4
 v4:=Tryz.zeroValue4
 t9:=Tryz.underlying9
 a9:=Tryz.isAgg9
 z9:=Tryz.sizeOf9
 v9:=Tryz.zeroValue9 }
open Go.RowKit Go.Lib in
theorem Tryz.strings_TrimPrefix (s p:ByteArray) (w:World) :
  Calls Tryz.prog 143 #[.string s,.string p] w fun e w'=>e=.returned (.string ⟨(Lib.trimPrefix s.data.toList p.data.toList).toArray⟩)∧w'=w:=Any.strings_TrimPrefix Tryz.lays101 s p w
def Tryz.lays197_ren:Go.Shelf.Ren:=⟨fun | 197=>37 | 260=>61 | n=>n,fun | 9=>9 | 21=>21 | 3=>3 | 4=>4 | 5=>5 | 105=>96 | 119=>149 | 0=>0 | 46=>45 | 139=>152 | 138=>151 | n=>n,fun | 3=>1 | 4=>2 | n=>n⟩
theorem Tryz.lays197:Go.Proofs.Lays.n197 Tryz.prog Tryz.lays197_ren:={
 mixed:=by kernel_rfl
 f197:=Tryz.func37.trans (congrArg some (by kernel_rfl))
 f260:=Tryz.func61.trans (congrArg some (by kernel_rfl))
 t0:=Tryz.underlying0
 a0:=Tryz.isAgg0
 z0:=Tryz.sizeOf0
 v0:=Tryz.zeroValue0
 t3:=Tryz.underlying3
 a3:=Tryz.isAgg3
 z3:=Tryz.sizeOf3
 v3:=Tryz.zeroValue3
 t4:=Tryz.underlying4
 a4:=Tryz.isAgg4
 z4:=Tryz.sizeOf4
 v4:=Tryz.zeroValue4
 t5:=Tryz.underlying5
 a5:=Tryz.isAgg5
 z5:=Tryz.sizeOf5
 v5:=Tryz.zeroValue5
 t9:=Tryz.underlying9
 a9:=Tryz.isAgg9
 z9:=Tryz.sizeOf9
 v9:=Tryz.zeroValue9
 t21:=Tryz.underlying21
 a21:=Tryz.isAgg21
 z21:=Tryz.sizeOf21
 v21:=Tryz.zeroValue21
 t46:=Tryz.underlying45
 a46:=Tryz.isAgg45
 z46:=Tryz.sizeOf45
 v46:=Tryz.zeroValue45
 t105:=Tryz.underlying96
 a105:=Tryz.isAgg96
 z105:=Tryz.sizeOf96
 v105:=Tryz.zeroValue96
 t119:=Tryz.underlying149
 a119:=Tryz.isAgg149
 z119:=Tryz.sizeOf149
 t138:=Tryz.underlying151
 a138:=Tryz.isAgg151
 z138:=Tryz.sizeOf151
 v138:=Tryz.zeroValue151
 t139:=Tryz.underlying152
 a139:=Tryz.isAgg152
 z139:=Tryz.sizeOf152
 v139:=Tryz.zeroValue152
 g3:=by kernel_rfl
 g4:=by kernel_rfl }
open Go.RowKit Go.Lib in
open Go.RowKit Go.Lib in
open Go.RowKit Go.Lib in
open Go.RowKit Go.Lib in
open Go.RowKit Go.Lib in
open Go.RowKit Go.Lib in
open Go.RowKit Go.Lib in
open Go.RowKit Go.Lib in
open Go.RowKit Go.Lib in
open Go.RowKit Go.Lib in
open Go.RowKit Go.Lib in
open Go.RowKit Go.Lib in
open Go.RowKit Go.Lib in
open Go.RowKit Go.Lib in
open Go.RowKit Go.Lib in
def Tryz.lays212_ren:Go.Shelf.Ren:=⟨fun | 212=>13 | 263=>32 | 264=>33 | n=>n,fun | 46=>45 | 51=>89 | 146=>90 | 53=>92 | 148=>93 | n=>n,fun | n=>n⟩
theorem Tryz.lays212:Go.Proofs.Lays.n212 Tryz.prog Tryz.lays212_ren:={
 mixed:=by kernel_rfl
 f212:=Tryz.func13.trans (congrArg some (by kernel_rfl))
 f263:=Tryz.func32.trans (congrArg some (by kernel_rfl))
 f264:=Tryz.func33.trans (congrArg some (by kernel_rfl))
 t46:=Tryz.underlying45
 a46:=Tryz.isAgg45
 z46:=Tryz.sizeOf45
 v46:=Tryz.zeroValue45
 t51:=Tryz.underlying89
 a51:=Tryz.isAgg89
 z51:=Tryz.sizeOf89
 v51:=Tryz.zeroValue89
 t53:=Tryz.underlying92
 a53:=Tryz.isAgg92
 z53:=Tryz.sizeOf92
 v53:=Tryz.zeroValue92
 t146:=Tryz.underlying90
 a146:=Tryz.isAgg90
 z146:=Tryz.sizeOf90
 v146:=Tryz.zeroValue90
 t148:=Tryz.underlying93
 a148:=Tryz.isAgg93
 z148:=Tryz.sizeOf93
 v148:=Tryz.zeroValue93 }
open Go.RowKit Go.Lib in
theorem Tryz.bits_Mul (x y:Nat) (hx:x<18446744073709551616) (hy:y<18446744073709551616) (w:World) :
  Calls Tryz.prog 13 #[.int .u64 x,.int .u64 y] w fun e w'=>e=.returned (.tuple #[.int .u64 ((x*y / 18446744073709551616:Nat):Int),.int .u64 ((x*y % 18446744073709551616:Nat):Int)])∧w'=w:=Any.bits_Mul Tryz.lays212 x y hx hy w
def Tryz.lays260_ren:Go.Shelf.Ren:=⟨fun | 260=>61 | n=>n,fun | 9=>9 | 21=>21 | 3=>3 | 4=>4 | 5=>5 | 119=>149 | 0=>0 | 46=>45 | 139=>152 | 138=>151 | n=>n,fun | 3=>1 | 4=>2 | n=>n⟩
theorem Tryz.lays260:Go.Proofs.Lays.n260 Tryz.prog Tryz.lays260_ren:={
 mixed:=by kernel_rfl
 f260:=Tryz.func61.trans (congrArg some (by kernel_rfl))
 t0:=Tryz.underlying0
 a0:=Tryz.isAgg0
 z0:=Tryz.sizeOf0
 v0:=Tryz.zeroValue0
 t3:=Tryz.underlying3
 a3:=Tryz.isAgg3
 z3:=Tryz.sizeOf3
 v3:=Tryz.zeroValue3
 t4:=Tryz.underlying4
 a4:=Tryz.isAgg4
 z4:=Tryz.sizeOf4
 v4:=Tryz.zeroValue4
 t5:=Tryz.underlying5
 a5:=Tryz.isAgg5
 z5:=Tryz.sizeOf5
 v5:=Tryz.zeroValue5
 t9:=Tryz.underlying9
 a9:=Tryz.isAgg9
 z9:=Tryz.sizeOf9
 v9:=Tryz.zeroValue9
 t21:=Tryz.underlying21
 a21:=Tryz.isAgg21
 z21:=Tryz.sizeOf21
 v21:=Tryz.zeroValue21
 t46:=Tryz.underlying45
 a46:=Tryz.isAgg45
 z46:=Tryz.sizeOf45
 v46:=Tryz.zeroValue45
 t119:=Tryz.underlying149
 a119:=Tryz.isAgg149
 z119:=Tryz.sizeOf149
 t138:=Tryz.underlying151
 a138:=Tryz.isAgg151
 z138:=Tryz.sizeOf151
 v138:=Tryz.zeroValue151
 t139:=Tryz.underlying152
 a139:=Tryz.isAgg152
 z139:=Tryz.sizeOf152
 v139:=Tryz.zeroValue152
 g3:=by kernel_rfl
 g4:=by kernel_rfl }
open Go.RowKit Go.Lib in
open Go.RowKit Go.Lib in
theorem Tryz.utf8_DecodeRuneInString (s:ByteArray) (w:World) (hT:Lib.Utf8Tabs 1 2 w) :
  Calls Tryz.prog 37 #[.string s] w fun e w'=>e=.returned (.tuple #[.int .i32 (Lib.decodeGo s).1,.int .i64 (Lib.decodeGo s).2])∧Below w.heap.size w w':=Any.utf8_DecodeRuneInString Tryz.lays197 s w hT
end Go.Proofs
