/-
 DERIVED: THE SHELF's CONTRACTS AT THIS DUMP, IN PLAIN WORDS (tools/lay-plain.mjs out of 'TryzShelf.lean', which tools/lay-shelf.mjs wrote): THE SAME DECLARATIONS UNDER THE SAME NAMES: 'import', 'namespace', 'open', 'def', 'theorem' AND NOTHING ELSE: no command of the shelf's: FOR A HAND-IN. Each laying: the table of numbers ('.._ren') and one theorem, a field a fact of the dump's own or the kernel's comparison; each contract: ONE APPLICATION.
-/
import Derived.Shelf.Strings.Builder1
import Derived.Shelf.Strings.Builder2
import Derived.Shelf.Small.Utf8
import Derived.Shelf.Small.Strs
import Derived.Shelf.Strings.BuilderF
import Derived.Shelf.Strings.BuilderK
import Derived.Shelf.Utf8.AppendRune
import Derived.Shelf.Utf8.AppendRunePlain
import Derived.Shelf.Strings.Builder2Cap
import Derived.Shelf.Strconv.Atoi
import Derived.Shelf.Strconv.Itoa0
import Derived.Shelf.Strconv.Itoa1
import Derived.Shelf.LaysM
import Derived.Shelf.Strconv.Itoa2
import Derived.Shelf.Strconv.Itoa3
import Derived.Shelf.Strconv.AtoiErrFast
import Derived.Shelf.Strconv.ParseIntEmpty
import Derived.Shelf.Strconv.AtoiFail
import Derived.Shelf.Strconv.Clone
import Derived.Shelf.Strconv.SyntaxError
import Derived.Shelf.LaysC
import Derived.Shelf.Strconv.ToError
import Derived.Shelf.Strconv.AtoiErr
import Derived.Shelf.Strings.Search1
import Derived.Shelf.Strings.Search2
import Derived.Shelf.Strings.Search3
import Derived.Shelf.Strings.Cut
import Derived.Shelf.Strings.Shaped
import Derived.Shelf.Strings.Prefix
import Derived.Shelf.Unicode.Decode
import Derived.Shelf.Strings.Runes
import Derived.Shelf.Strings.IndexAny
import Derived.Shelf.Strings.AsciiSet
import Derived.Shelf.Strings.IndexAnyAll
import Derived.Shelf.Bits.Mul64
import Derived.Shelf.Unicode.DecodeSlow
import Derived.Shelf.Unicode.DecodeAny
import Derived.Shelf.Strings.BuilderCap
import Derived.Test.YtnnnagnjikdnnaaGreatDoorProg
namespace Go.Proofs
open Go.Shelf
open Go.RowKit in
def Tryz.lays169_ren:Go.Shelf.Ren:=⟨fun | 169=>20 | n=>n,fun | 70=>46 | 9=>9 | 0=>0 | 72=>49 | 37=>47 | 127=>92 | 3=>3 | 5=>5 | n=>n,fun | n=>n⟩
theorem Tryz.lays169:Go.Proofs.Lays.n169 Tryz.prog Tryz.lays169_ren:={
 mixed:=by kernel_rfl
 f169:=Tryz.func20.trans (congrArg some (by kernel_rfl))
 t0:=Tryz.underlying0
 a0:=Tryz.isAgg0
 z0:=Tryz.sizeOf0
 v0:=Tryz.zeroValue0
 t3:=Tryz.underlying3
 a3:=Tryz.isAgg3
 z3:=Tryz.sizeOf3
 v3:=Tryz.zeroValue3
 t9:=Tryz.underlying9
 a9:=Tryz.isAgg9
 z9:=Tryz.sizeOf9
 v9:=Tryz.zeroValue9
 t37:=Tryz.underlying47
 a37:=Tryz.isAgg47
 z37:=Tryz.sizeOf47
 v37:=Tryz.zeroValue47
 t70:=Tryz.underlying46
 a70:=Tryz.isAgg46
 z70:=Tryz.sizeOf46
 v70:=Tryz.zeroValue46
 t72:=Tryz.underlying49
 a72:=Tryz.isAgg49
 z72:=Tryz.sizeOf49
 v72:=Tryz.zeroValue49
 t127:=Tryz.underlying92
 a127:=Tryz.isAgg92
 z127:=Tryz.sizeOf92
 v127:=Tryz.zeroValue92 }
theorem Tryz.Builder_Extra_169:Builder.Extra Tryz.prog Tryz.lays169_ren:={
 sizeBuilder:=by kernel_rfl
 liesBuilder:=by kernel_rfl
 t5:=Tryz.underlying5
 a5:=Tryz.isAgg5
 z5:=Tryz.sizeOf5
 v5:=Tryz.zeroValue5
 infoByte:=by kernel_rfl
 cellsByte:=by kernel_rfl
 sizeByte:=by kernel_rfl
 neB5:=by decide }
open Go.RowKit in
open Go.RowKit in
open Go.RowKit in
open Go.RowKit in
open Go.RowKit in
def Tryz.lays119_ren:Go.Shelf.Ren:=⟨fun | 119=>164 | n=>n,fun | 21=>21 | 4=>4 | n=>n,fun | n=>n⟩
theorem Tryz.lays119:Go.Proofs.Lays.n119 Tryz.prog Tryz.lays119_ren:={
 mixed:=by kernel_rfl
 f119:=Tryz.func164.trans (congrArg some (by kernel_rfl))
 t4:=Tryz.underlying4
 a4:=Tryz.isAgg4
 z4:=Tryz.sizeOf4
 v4:=Tryz.zeroValue4
 t21:=Tryz.underlying21
 a21:=Tryz.isAgg21
 z21:=Tryz.sizeOf21
 v21:=Tryz.zeroValue21 }
theorem Tryz.utf8_ValidRune (r:Int) (w:World) :
  Calls Tryz.prog 164 #[.int .i32 r] w fun e w'=>e=.returned (.bool (Lib.validRune r))∧w'=w:=Any.utf8_ValidRune Tryz.lays119 r w
open Go.RowKit in
def Tryz.lays106_ren:Go.Shelf.Ren:=⟨fun | 106=>71 | 213=>106 | 265=>135 | n=>n,fun | 9=>9 | 3=>3 | n=>n,fun | n=>n⟩
theorem Tryz.lays106:Go.Proofs.Lays.n106 Tryz.prog Tryz.lays106_ren:={
 mixed:=by kernel_rfl
 f106:=Tryz.func71.trans (congrArg some (by kernel_rfl))
 f213:=Tryz.func106.trans (congrArg some (by kernel_rfl))
 f265:=Tryz.func135.trans (congrArg some (by kernel_rfl))
 t3:=Tryz.underlying3
 a3:=Tryz.isAgg3
 z3:=Tryz.sizeOf3
 v3:=Tryz.zeroValue3
 t9:=Tryz.underlying9
 a9:=Tryz.isAgg9
 z9:=Tryz.sizeOf9
 v9:=Tryz.zeroValue9 }
open Go.RowKit in
theorem Tryz.strings_Compare (a b:ByteArray) (w:World) :
  Calls Tryz.prog 71 #[.string a,.string b] w fun e w'=>e=.returned (.int .i64 (Lib.compareBytes a.data.toList b.data.toList))∧w'=w:=Any.strings_Compare Tryz.lays106 a b w
def Tryz.lays137_ren:Go.Shelf.Ren:=⟨fun | 137=>46 | 217=>76 | 266=>109 | n=>n,fun | 9=>9 | 5=>5 | 3=>3 | n=>n,fun | n=>n⟩
theorem Tryz.lays137:Go.Proofs.Lays.n137 Tryz.prog Tryz.lays137_ren:={
 mixed:=by kernel_rfl
 f137:=Tryz.func46.trans (congrArg some (by kernel_rfl))
 f217:=Tryz.func76.trans (congrArg some (by kernel_rfl))
 f266:=Tryz.func109.trans (congrArg some (by kernel_rfl))
 t3:=Tryz.underlying3
 a3:=Tryz.isAgg3
 z3:=Tryz.sizeOf3
 v3:=Tryz.zeroValue3
 t5:=Tryz.underlying5
 a5:=Tryz.isAgg5
 z5:=Tryz.sizeOf5
 v5:=Tryz.zeroValue5
 t9:=Tryz.underlying9
 a9:=Tryz.isAgg9
 z9:=Tryz.sizeOf9
 v9:=Tryz.zeroValue9 }
open Go.RowKit in
theorem Tryz.strings_IndexByte (s:ByteArray) (c:Int) (w:World) :
  Calls Tryz.prog 46 #[.string s,.int .u8 c] w fun e w'=>e=.returned (.int .i64 (Lib.indexByte s.data.toList c.toNat.toUInt8))∧w'=w:=Any.strings_IndexByte Tryz.lays137 s c w
open Go.RowKit in
open Go.RowKit in
open Go.RowKit in
open Go.RowKit in
theorem Tryz.Builder_String_any_f (B b:Nat) (l:List UInt8) (w:World) (h:Lib.IsBuilderF 49 5 B b (Lib.byteCells l) w) (hBw:B≤w.heap.size) :
  Calls Tryz.prog 20 #[.pointer (some ⟨b,0,none⟩)] w fun e w'=>e=.returned (.string ⟨l.toArray⟩)∧(Lib.IsBuilderF 49 5 B b (Lib.byteCells l) w'∧Below B w w'):=Any.Builder_String_any_f Tryz.lays169 Tryz.Builder_Extra_169 B b l w h hBw
open Go.RowKit in
open Go.RowKit in
open Go.RowKit in
open Go.RowKit in
def Tryz.lays242_ren:Go.Shelf.Ren:=⟨fun | 242=>165 | 278=>196 | n=>n,fun | 37=>47 | 21=>21 | 51=>179 | 4=>4 | 5=>5 | 46=>160 | n=>n,fun | n=>n⟩
theorem Tryz.lays242:Go.Proofs.Lays.n242 Tryz.prog Tryz.lays242_ren:={
 mixed:=by kernel_rfl
 f242:=Tryz.func165.trans (congrArg some (by kernel_rfl))
 f278:=Tryz.func196.trans (congrArg some (by kernel_rfl))
 t4:=Tryz.underlying4
 a4:=Tryz.isAgg4
 z4:=Tryz.sizeOf4
 v4:=Tryz.zeroValue4
 t5:=Tryz.underlying5
 a5:=Tryz.isAgg5
 z5:=Tryz.sizeOf5
 v5:=Tryz.zeroValue5
 t21:=Tryz.underlying21
 a21:=Tryz.isAgg21
 z21:=Tryz.sizeOf21
 v21:=Tryz.zeroValue21
 t37:=Tryz.underlying47
 a37:=Tryz.isAgg47
 z37:=Tryz.sizeOf47
 v37:=Tryz.zeroValue47
 t46:=Tryz.underlying160
 a46:=Tryz.isAgg160
 z46:=Tryz.sizeOf160
 v46:=Tryz.zeroValue160
 t51:=Tryz.underlying179
 a51:=Tryz.isAgg179
 z51:=Tryz.sizeOf179
 v51:=Tryz.zeroValue179 }
open Go.RowKit in
open Go.RowKit in
open Go.RowKit in
theorem Tryz.utf8_AppendRune_plain (B:Nat) (v:Value) (n:Nat) (xs:List Value) (r:Int) (hr0:-2147483648≤r) (hr1:r≤2147483647) (w:World) (hown:w.ownsRow B 5 1 v n xs) (hlen:n+4≤140737488355328) (hBw:B≤w.heap.size) :
  Calls Tryz.prog 165 #[v,.int .i32 r] w fun e w'=>∃v',e=.returned v'∧w'.ownsRow B 5 1 v' (n+(Lib.runeCells r).length) (xs ++ Lib.runeCells r)∧∃o,(w.alloc o).grownBy w' v.ownBlock:=Any.utf8_AppendRune_plain Tryz.lays242 (by kernel_rfl) B v n xs r hr0 hr1 w hown hlen hBw
open Go.RowKit in
open Go.RowKit in
open Go.RowKit in
def Tryz.lays172_ren:Go.Shelf.Ren:=⟨fun | 172=>167 | 244=>197 | 245=>198 | 247=>220 | 279=>221 | 280=>222 | 281=>223 | 282=>224 | 287=>205 | 316=>243 | 171=>201 | 205=>244 | 321=>229 | 322=>230 | 243=>228 | 246=>108 | 283=>136 | 284=>137 | 285=>138 | 286=>139 | 129=>134 | 317=>160 | 318=>161 | 319=>162 | 320=>163 | 337=>194 | 338=>195 | n=>n,fun | 9=>9 | 3=>3 | 75=>56 | 76=>58 | 4=>4 | 5=>5 | 167=>265 | 37=>47 | 0=>0 | 85=>266 | 2=>2 | 168=>268 | 53=>181 | 175=>235 | 46=>160 | 210=>282 | 127=>92 | 145=>290 | 143=>288 | 21=>21 | 171=>183 | 173=>185 | 212=>221 | 51=>179 | 20=>20 | 213=>222 | 232=>263 | 233=>264 | 80=>62 | n=>n,fun | 15=>7 | 16=>8 | 17=>3 | 18=>5 | 19=>6 | n=>n⟩
theorem Tryz.lays172:Go.Proofs.Lays.n172 Tryz.prog Tryz.lays172_ren:={
 mixed:=by kernel_rfl
 f129:=Tryz.func134.trans (congrArg some (by kernel_rfl))
 f171:=Tryz.func201.trans (congrArg some (by kernel_rfl))
 f172:=Tryz.func167.trans (congrArg some (by kernel_rfl))
 f205:=Tryz.func244.trans (congrArg some (by kernel_rfl))
 f243:=Tryz.func228.trans (congrArg some (by kernel_rfl))
 f244:=Tryz.func197.trans (congrArg some (by kernel_rfl))
 f245:=Tryz.func198.trans (congrArg some (by kernel_rfl))
 f246:=Tryz.func108.trans (congrArg some (by kernel_rfl))
 f247:=Tryz.func220.trans (congrArg some (by kernel_rfl))
 f279:=Tryz.func221.trans (congrArg some (by kernel_rfl))
 f280:=Tryz.func222.trans (congrArg some (by kernel_rfl))
 f281:=Tryz.func223.trans (congrArg some (by kernel_rfl))
 f282:=Tryz.func224.trans (congrArg some (by kernel_rfl))
 f283:=Tryz.func136.trans (congrArg some (by kernel_rfl))
 f284:=Tryz.func137.trans (congrArg some (by kernel_rfl))
 f285:=Tryz.func138.trans (congrArg some (by kernel_rfl))
 f286:=Tryz.func139.trans (congrArg some (by kernel_rfl))
 f287:=Tryz.func205.trans (congrArg some (by kernel_rfl))
 f316:=Tryz.func243.trans (congrArg some (by kernel_rfl))
 f317:=Tryz.func160.trans (congrArg some (by kernel_rfl))
 f318:=Tryz.func161.trans (congrArg some (by kernel_rfl))
 f319:=Tryz.func162.trans (congrArg some (by kernel_rfl))
 f320:=Tryz.func163.trans (congrArg some (by kernel_rfl))
 f321:=Tryz.func229.trans (congrArg some (by kernel_rfl))
 f322:=Tryz.func230.trans (congrArg some (by kernel_rfl))
 f337:=Tryz.func194.trans (congrArg some (by kernel_rfl))
 f338:=Tryz.func195.trans (congrArg some (by kernel_rfl))
 t0:=Tryz.underlying0
 a0:=Tryz.isAgg0
 z0:=Tryz.sizeOf0
 v0:=Tryz.zeroValue0
 t2:=Tryz.underlying2
 a2:=Tryz.isAgg2
 z2:=Tryz.sizeOf2
 v2:=Tryz.zeroValue2
 t3:=Tryz.underlying3
 a3:=Tryz.isAgg3
 z3:=Tryz.sizeOf3
 v3:=Tryz.zeroValue3
 t4:=Tryz.underlying4
 a4:=Tryz.isAgg4
 z4:=Tryz.sizeOf4
 v4:=Tryz.zeroValue4
 t5:=Tryz.underlying5
 a5:=Tryz.isAgg5
 z5:=Tryz.sizeOf5
 v5:=Tryz.zeroValue5
 t9:=Tryz.underlying9
 a9:=Tryz.isAgg9
 z9:=Tryz.sizeOf9
 v9:=Tryz.zeroValue9
 t20:=Tryz.underlying20
 a20:=Tryz.isAgg20
 z20:=Tryz.sizeOf20
 v20:=Tryz.zeroValue20
 t21:=Tryz.underlying21
 a21:=Tryz.isAgg21
 z21:=Tryz.sizeOf21
 v21:=Tryz.zeroValue21
 t37:=Tryz.underlying47
 a37:=Tryz.isAgg47
 z37:=Tryz.sizeOf47
 v37:=Tryz.zeroValue47
 t46:=Tryz.underlying160
 a46:=Tryz.isAgg160
 z46:=Tryz.sizeOf160
 v46:=Tryz.zeroValue160
 t51:=Tryz.underlying179
 a51:=Tryz.isAgg179
 z51:=Tryz.sizeOf179
 v51:=Tryz.zeroValue179
 t53:=Tryz.underlying181
 a53:=Tryz.isAgg181
 z53:=Tryz.sizeOf181
 v53:=Tryz.zeroValue181
 t75:=Tryz.underlying56
 a75:=Tryz.isAgg56
 z75:=Tryz.sizeOf56
 v75:=Tryz.zeroValue56
 t76:=Tryz.underlying58
 a76:=Tryz.isAgg58
 z76:=Tryz.sizeOf58
 v76:=Tryz.zeroValue58
 t85:=Tryz.underlying266
 a85:=Tryz.isAgg266
 z85:=Tryz.sizeOf266
 v85:=Tryz.zeroValue266
 t127:=Tryz.underlying92
 a127:=Tryz.isAgg92
 z127:=Tryz.sizeOf92
 v127:=Tryz.zeroValue92
 t143:=Tryz.underlying288
 a143:=Tryz.isAgg288
 z143:=Tryz.sizeOf288
 v143:=Tryz.zeroValue288
 t145:=Tryz.underlying290
 a145:=Tryz.isAgg290
 z145:=Tryz.sizeOf290
 v145:=Tryz.zeroValue290
 t167:=Tryz.underlying265
 a167:=Tryz.isAgg265
 z167:=Tryz.sizeOf265
 v167:=Tryz.zeroValue265
 t168:=Tryz.underlying268
 a168:=Tryz.isAgg268
 z168:=Tryz.sizeOf268
 v168:=Tryz.zeroValue268
 t171:=Tryz.underlying183
 a171:=Tryz.isAgg183
 z171:=Tryz.sizeOf183
 v171:=Tryz.zeroValue183
 t173:=Tryz.underlying185
 a173:=Tryz.isAgg185
 z173:=Tryz.sizeOf185
 v173:=Tryz.zeroValue185
 t175:=Tryz.underlying235
 a175:=Tryz.isAgg235
 z175:=Tryz.sizeOf235
 v175:=Tryz.zeroValue235
 t210:=Tryz.underlying282
 a210:=Tryz.isAgg282
 z210:=Tryz.sizeOf282
 v210:=Tryz.zeroValue282
 t212:=Tryz.underlying221
 a212:=Tryz.isAgg221
 z212:=Tryz.sizeOf221
 v212:=Tryz.zeroValue221
 t213:=Tryz.underlying222
 a213:=Tryz.isAgg222
 z213:=Tryz.sizeOf222
 t232:=Tryz.underlying263
 a232:=Tryz.isAgg263
 z232:=Tryz.sizeOf263
 v232:=Tryz.zeroValue263
 t233:=Tryz.underlying264
 a233:=Tryz.isAgg264
 z233:=Tryz.sizeOf264
 v233:=Tryz.zeroValue264
 g15:=by kernel_rfl
 g16:=by kernel_rfl
 g17:=by kernel_rfl
 g18:=by kernel_rfl
 g19:=by kernel_rfl }
open Go.RowKit in
theorem Tryz.strconv_Atoi (s:ByteArray) (n:Int) (hl:s.size≤18) (h:Lib.atoi s.data.toList=some n) (w:World) :
  Calls Tryz.prog 167 #[.string s] w fun e w'=>e=.returned (.tuple #[.int .i64 n,.nilIface])∧∃t,w'=Lib.bytesWorld w 5 t:=Any.strconv_Atoi Tryz.lays172 s n hl h w
def Tryz.lays129_ren:Go.Shelf.Ren:=⟨fun | 129=>134 | n=>n,fun | 53=>181 | 3=>3 | 4=>4 | 46=>160 | 5=>5 | 9=>9 | n=>n,fun | n=>n⟩
theorem Tryz.lays129:Go.Proofs.Lays.n129 Tryz.prog Tryz.lays129_ren:={
 mixed:=by kernel_rfl
 f129:=Tryz.func134.trans (congrArg some (by kernel_rfl))
 t3:=Tryz.underlying3
 a3:=Tryz.isAgg3
 z3:=Tryz.sizeOf3
 v3:=Tryz.zeroValue3
 t4:=Tryz.underlying4
 a4:=Tryz.isAgg4
 z4:=Tryz.sizeOf4
 v4:=Tryz.zeroValue4
 t5:=Tryz.underlying5
 a5:=Tryz.isAgg5
 z5:=Tryz.sizeOf5
 v5:=Tryz.zeroValue5
 t9:=Tryz.underlying9
 a9:=Tryz.isAgg9
 z9:=Tryz.sizeOf9
 v9:=Tryz.zeroValue9
 t46:=Tryz.underlying160
 a46:=Tryz.isAgg160
 z46:=Tryz.sizeOf160
 v46:=Tryz.zeroValue160
 t53:=Tryz.underlying181
 a53:=Tryz.isAgg181
 z53:=Tryz.sizeOf181
 v53:=Tryz.zeroValue181 }
theorem Tryz.bits_Len64 (x:Int) (w:World) (h0:0≤x) (h1:x≤18446744073709551615) :
  Calls Tryz.prog 134 #[.int .u64 x] w fun e w'=>e=.returned (.int .i64 (Lib.bitLen x.toNat))∧w'=w:=Any.bits_Len64 Tryz.lays129 x w h0 h1
open Go.Lib in
open Go.Lib in
open Go.Lib in
open Go.Lib in
open Go.RowKit Go.Sort Go.Lib in
open Go.RowKit Go.Sort Go.Lib in
open Go.RowKit Go.Sort Go.Lib in
open Go.RowKit Go.Sort Go.Lib in
open Go.RowKit Go.Sort Go.Lib in
def Tryz.laysM171_ren:Go.Shelf.Ren:=⟨fun | 171=>201 | 243=>228 | 246=>108 | 283=>136 | 284=>137 | 285=>138 | 286=>139 | 129=>134 | 317=>160 | 318=>161 | 319=>162 | 320=>163 | 337=>194 | 338=>195 | n=>n,fun | 3=>3 | 9=>9 | 2=>2 | 4=>4 | 171=>183 | 0=>0 | 53=>181 | 37=>47 | 5=>5 | 173=>185 | 212=>221 | 51=>179 | 20=>20 | 213=>222 | 46=>160 | 232=>263 | 233=>264 | n=>n,fun | 17=>3 | 18=>5 | 19=>6 | n=>n⟩
theorem Tryz.laysM171:Go.Proofs.LaysM.n171 Tryz.prog Tryz.laysM171_ren:={
 mixed:=by kernel_rfl
 f129:=Tryz.func134.trans (congrArg some (by kernel_rfl))
 f171:=Tryz.func201.trans (congrArg some (by kernel_rfl))
 f243:=Tryz.func228.trans (congrArg some (by kernel_rfl))
 f246:=Tryz.func108.trans (congrArg some (by kernel_rfl))
 f283:=Tryz.func136.trans (congrArg some (by kernel_rfl))
 f284:=Tryz.func137.trans (congrArg some (by kernel_rfl))
 f285:=Tryz.func138.trans (congrArg some (by kernel_rfl))
 f286:=Tryz.func139.trans (congrArg some (by kernel_rfl))
 f317:=Tryz.func160.trans (congrArg some (by kernel_rfl))
 f318:=Tryz.func161.trans (congrArg some (by kernel_rfl))
 f319:=Tryz.func162.trans (congrArg some (by kernel_rfl))
 f320:=Tryz.func163.trans (congrArg some (by kernel_rfl))
 f337:=Tryz.func194.trans (congrArg some (by kernel_rfl))
 f338:=Tryz.func195.trans (congrArg some (by kernel_rfl))
 t0:=Tryz.underlying0
 a0:=Tryz.isAgg0
 z0:=Tryz.sizeOf0
 v0:=Tryz.zeroValue0
 t2:=Tryz.underlying2
 a2:=Tryz.isAgg2
 z2:=Tryz.sizeOf2
 v2:=Tryz.zeroValue2
 t3:=Tryz.underlying3
 a3:=Tryz.isAgg3
 z3:=Tryz.sizeOf3
 v3:=Tryz.zeroValue3
 t4:=Tryz.underlying4
 a4:=Tryz.isAgg4
 z4:=Tryz.sizeOf4
 v4:=Tryz.zeroValue4
 t5:=Tryz.underlying5
 a5:=Tryz.isAgg5
 z5:=Tryz.sizeOf5
 v5:=Tryz.zeroValue5
 t9:=Tryz.underlying9
 a9:=Tryz.isAgg9
 z9:=Tryz.sizeOf9
 v9:=Tryz.zeroValue9
 t20:=Tryz.underlying20
 a20:=Tryz.isAgg20
 z20:=Tryz.sizeOf20
 v20:=Tryz.zeroValue20
 t37:=Tryz.underlying47
 a37:=Tryz.isAgg47
 z37:=Tryz.sizeOf47
 v37:=Tryz.zeroValue47
 t46:=Tryz.underlying160
 a46:=Tryz.isAgg160
 z46:=Tryz.sizeOf160
 v46:=Tryz.zeroValue160
 t51:=Tryz.underlying179
 a51:=Tryz.isAgg179
 z51:=Tryz.sizeOf179
 v51:=Tryz.zeroValue179
 t53:=Tryz.underlying181
 a53:=Tryz.isAgg181
 z53:=Tryz.sizeOf181
 v53:=Tryz.zeroValue181
 t171:=Tryz.underlying183
 a171:=Tryz.isAgg183
 z171:=Tryz.sizeOf183
 v171:=Tryz.zeroValue183
 t173:=Tryz.underlying185
 a173:=Tryz.isAgg185
 z173:=Tryz.sizeOf185
 v173:=Tryz.zeroValue185
 t212:=Tryz.underlying221
 a212:=Tryz.isAgg221
 z212:=Tryz.sizeOf221
 v212:=Tryz.zeroValue221
 t213:=Tryz.underlying222
 a213:=Tryz.isAgg222
 z213:=Tryz.sizeOf222
 t232:=Tryz.underlying263
 a232:=Tryz.isAgg263
 z232:=Tryz.sizeOf263
 v232:=Tryz.zeroValue263
 t233:=Tryz.underlying264
 a233:=Tryz.isAgg264
 z233:=Tryz.sizeOf264
 v233:=Tryz.zeroValue264
 g17:=by kernel_rfl
 g18:=by kernel_rfl
 g19:=by kernel_rfl
 i0:=by kernel_rfl
 i2:=by kernel_rfl
 i3:=by kernel_rfl
 i4:=by kernel_rfl
 i5:=by kernel_rfl
 i9:=by kernel_rfl
 i20:=by kernel_rfl
 i37:=by kernel_rfl
 i46:=by kernel_rfl
 i51:=by kernel_rfl
 i53:=by kernel_rfl
 i171:=by kernel_rfl
 i173:=by kernel_rfl
 i212:=by kernel_rfl
 i232:=by kernel_rfl
 i233:=by kernel_rfl
 m17:=by kernel_rfl
 m18:=by kernel_rfl
 m19:=by kernel_rfl }
open Go.RowKit Go.Sort Go.Lib in
theorem Tryz.strconv_Itoa (n:Int) (h0:-9223372036854775808≤n) (h1:n≤9223372036854775807) (w:World) (htab:Lib.TabIs Tryz.prog w "internal/strconv.uint64pow10" .u64 Lib.pow10Tab) :
  Calls Tryz.prog 201 #[.int .i64 n] w fun e w'=>e=.returned (.string ⟨(Lib.itoa n).toArray⟩)∧∃k os,w'=grow (w.drewN k) os:=Any.strconv_Itoa Tryz.laysM171 n h0 h1 w htab
open Go.RowKit Go.Sort Go.Lib in
open Go.RowKit in
open Go.RowKit in
open Go.RowKit in
open Go.RowKit in
open Go.RowKit in
open Go.RowKit in
open Go.RowKit in
def Tryz.laysC172_ren:Go.Shelf.Ren:=⟨fun | 172=>167 | 244=>197 | 245=>198 | 247=>220 | 279=>221 | 280=>222 | 281=>223 | 282=>224 | 287=>205 | 316=>243 | 171=>201 | 205=>244 | 321=>229 | 322=>230 | 243=>228 | 246=>108 | 283=>136 | 284=>137 | 285=>138 | 286=>139 | 129=>134 | 317=>160 | 318=>161 | 319=>162 | 320=>163 | 337=>194 | 338=>195 | n=>n,fun | 9=>9 | 3=>3 | 75=>56 | 76=>58 | 4=>4 | 5=>5 | 167=>265 | 37=>47 | 0=>0 | 85=>266 | 2=>2 | 168=>268 | 53=>181 | 175=>235 | 46=>160 | 210=>282 | 127=>92 | 145=>290 | 143=>288 | 21=>21 | 171=>183 | 173=>185 | 212=>221 | 51=>179 | 20=>20 | 213=>222 | 232=>263 | 233=>264 | 80=>62 | n=>n,fun | 15=>7 | 16=>8 | 17=>3 | 18=>5 | 19=>6 | n=>n⟩
theorem Tryz.laysC172:Go.Proofs.LaysC.n172 Tryz.prog Tryz.laysC172_ren:={
 mixed:=by kernel_rfl
 f129:=Tryz.func134.trans (congrArg some (by kernel_rfl))
 f171:=Tryz.func201.trans (congrArg some (by kernel_rfl))
 f172:=Tryz.func167.trans (congrArg some (by kernel_rfl))
 f205:=Tryz.func244.trans (congrArg some (by kernel_rfl))
 f243:=Tryz.func228.trans (congrArg some (by kernel_rfl))
 f244:=Tryz.func197.trans (congrArg some (by kernel_rfl))
 f245:=Tryz.func198.trans (congrArg some (by kernel_rfl))
 f246:=Tryz.func108.trans (congrArg some (by kernel_rfl))
 f247:=Tryz.func220.trans (congrArg some (by kernel_rfl))
 f279:=Tryz.func221.trans (congrArg some (by kernel_rfl))
 f280:=Tryz.func222.trans (congrArg some (by kernel_rfl))
 f281:=Tryz.func223.trans (congrArg some (by kernel_rfl))
 f282:=Tryz.func224.trans (congrArg some (by kernel_rfl))
 f283:=Tryz.func136.trans (congrArg some (by kernel_rfl))
 f284:=Tryz.func137.trans (congrArg some (by kernel_rfl))
 f285:=Tryz.func138.trans (congrArg some (by kernel_rfl))
 f286:=Tryz.func139.trans (congrArg some (by kernel_rfl))
 f287:=Tryz.func205.trans (congrArg some (by kernel_rfl))
 f316:=Tryz.func243.trans (congrArg some (by kernel_rfl))
 f317:=Tryz.func160.trans (congrArg some (by kernel_rfl))
 f318:=Tryz.func161.trans (congrArg some (by kernel_rfl))
 f319:=Tryz.func162.trans (congrArg some (by kernel_rfl))
 f320:=Tryz.func163.trans (congrArg some (by kernel_rfl))
 f321:=Tryz.func229.trans (congrArg some (by kernel_rfl))
 f322:=Tryz.func230.trans (congrArg some (by kernel_rfl))
 f337:=Tryz.func194.trans (congrArg some (by kernel_rfl))
 f338:=Tryz.func195.trans (congrArg some (by kernel_rfl))
 t0:=Tryz.underlying0
 a0:=Tryz.isAgg0
 z0:=Tryz.sizeOf0
 v0:=Tryz.zeroValue0
 t2:=Tryz.underlying2
 a2:=Tryz.isAgg2
 z2:=Tryz.sizeOf2
 v2:=Tryz.zeroValue2
 t3:=Tryz.underlying3
 a3:=Tryz.isAgg3
 z3:=Tryz.sizeOf3
 v3:=Tryz.zeroValue3
 t4:=Tryz.underlying4
 a4:=Tryz.isAgg4
 z4:=Tryz.sizeOf4
 v4:=Tryz.zeroValue4
 t5:=Tryz.underlying5
 a5:=Tryz.isAgg5
 z5:=Tryz.sizeOf5
 v5:=Tryz.zeroValue5
 t9:=Tryz.underlying9
 a9:=Tryz.isAgg9
 z9:=Tryz.sizeOf9
 v9:=Tryz.zeroValue9
 t20:=Tryz.underlying20
 a20:=Tryz.isAgg20
 z20:=Tryz.sizeOf20
 v20:=Tryz.zeroValue20
 t21:=Tryz.underlying21
 a21:=Tryz.isAgg21
 z21:=Tryz.sizeOf21
 v21:=Tryz.zeroValue21
 t37:=Tryz.underlying47
 a37:=Tryz.isAgg47
 z37:=Tryz.sizeOf47
 v37:=Tryz.zeroValue47
 t46:=Tryz.underlying160
 a46:=Tryz.isAgg160
 z46:=Tryz.sizeOf160
 v46:=Tryz.zeroValue160
 t51:=Tryz.underlying179
 a51:=Tryz.isAgg179
 z51:=Tryz.sizeOf179
 v51:=Tryz.zeroValue179
 t53:=Tryz.underlying181
 a53:=Tryz.isAgg181
 z53:=Tryz.sizeOf181
 v53:=Tryz.zeroValue181
 t75:=Tryz.underlying56
 a75:=Tryz.isAgg56
 z75:=Tryz.sizeOf56
 v75:=Tryz.zeroValue56
 t76:=Tryz.underlying58
 a76:=Tryz.isAgg58
 z76:=Tryz.sizeOf58
 v76:=Tryz.zeroValue58
 t85:=Tryz.underlying266
 a85:=Tryz.isAgg266
 z85:=Tryz.sizeOf266
 v85:=Tryz.zeroValue266
 t127:=Tryz.underlying92
 a127:=Tryz.isAgg92
 z127:=Tryz.sizeOf92
 v127:=Tryz.zeroValue92
 t143:=Tryz.underlying288
 a143:=Tryz.isAgg288
 z143:=Tryz.sizeOf288
 v143:=Tryz.zeroValue288
 t145:=Tryz.underlying290
 a145:=Tryz.isAgg290
 z145:=Tryz.sizeOf290
 v145:=Tryz.zeroValue290
 t167:=Tryz.underlying265
 a167:=Tryz.isAgg265
 z167:=Tryz.sizeOf265
 v167:=Tryz.zeroValue265
 t168:=Tryz.underlying268
 a168:=Tryz.isAgg268
 z168:=Tryz.sizeOf268
 v168:=Tryz.zeroValue268
 t171:=Tryz.underlying183
 a171:=Tryz.isAgg183
 z171:=Tryz.sizeOf183
 v171:=Tryz.zeroValue183
 t173:=Tryz.underlying185
 a173:=Tryz.isAgg185
 z173:=Tryz.sizeOf185
 v173:=Tryz.zeroValue185
 t175:=Tryz.underlying235
 a175:=Tryz.isAgg235
 z175:=Tryz.sizeOf235
 v175:=Tryz.zeroValue235
 t210:=Tryz.underlying282
 a210:=Tryz.isAgg282
 z210:=Tryz.sizeOf282
 v210:=Tryz.zeroValue282
 t212:=Tryz.underlying221
 a212:=Tryz.isAgg221
 z212:=Tryz.sizeOf221
 v212:=Tryz.zeroValue221
 t213:=Tryz.underlying222
 a213:=Tryz.isAgg222
 z213:=Tryz.sizeOf222
 t232:=Tryz.underlying263
 a232:=Tryz.isAgg263
 z232:=Tryz.sizeOf263
 v232:=Tryz.zeroValue263
 t233:=Tryz.underlying264
 a233:=Tryz.isAgg264
 z233:=Tryz.sizeOf264
 v233:=Tryz.zeroValue264
 g15:=by kernel_rfl
 g16:=by kernel_rfl
 g17:=by kernel_rfl
 g18:=by kernel_rfl
 g19:=by kernel_rfl
 t80:=Tryz.underlying62
 a80:=Tryz.isAgg62
 z80:=Tryz.sizeOf62
 v80:=Tryz.zeroValue62
 i0:=by kernel_rfl
 i2:=by kernel_rfl
 i3:=by kernel_rfl
 i4:=by kernel_rfl
 i5:=by kernel_rfl
 i9:=by kernel_rfl
 i20:=by kernel_rfl
 i21:=by kernel_rfl
 i37:=by kernel_rfl
 i46:=by kernel_rfl
 i51:=by kernel_rfl
 i53:=by kernel_rfl
 i75:=by kernel_rfl
 i76:=by kernel_rfl
 i80:=by kernel_rfl
 i85:=by kernel_rfl
 i127:=by kernel_rfl
 i143:=by kernel_rfl
 i145:=by kernel_rfl
 i167:=by kernel_rfl
 i168:=by kernel_rfl
 i171:=by kernel_rfl
 i173:=by kernel_rfl
 i175:=by kernel_rfl
 i210:=by kernel_rfl
 i212:=by kernel_rfl
 i232:=by kernel_rfl
 i233:=by kernel_rfl
 m15:=by kernel_rfl
 m16:=by kernel_rfl
 m17:=by kernel_rfl
 m18:=by kernel_rfl
 m19:=by kernel_rfl
 c0:=by kernel_rfl
 c2:=by kernel_rfl
 c3:=by kernel_rfl
 c4:=by kernel_rfl
 c5:=by kernel_rfl
 c9:=by kernel_rfl
 c20:=by kernel_rfl
 c21:=by kernel_rfl
 c37:=by kernel_rfl
 c46:=by kernel_rfl
 c51:=by kernel_rfl
 c53:=by kernel_rfl
 c75:=by kernel_rfl
 c76:=by kernel_rfl
 c80:=by kernel_rfl
 c85:=by kernel_rfl
 c127:=by kernel_rfl
 c143:=by kernel_rfl
 c145:=by kernel_rfl
 c167:=by kernel_rfl
 c168:=by kernel_rfl
 c171:=by kernel_rfl
 c173:=by kernel_rfl
 c175:=by kernel_rfl
 c210:=by kernel_rfl
 c212:=by kernel_rfl
 c213:=by kernel_rfl
 c232:=by kernel_rfl
 c233:=by kernel_rfl }
open Go.RowKit in
theorem Tryz.strconv_Atoi_err (s:ByteArray) (hl:s.size≤18) (h:Lib.atoi s.data.toList=none) (ev:Value) (w:World) (hv:w.cell? ⟨7,0,none⟩=some ev) (hev:ev=.nilIface∨∃te pe,ev=.iface te pe) :
  Calls Tryz.prog 167 #[.string s] w fun e w'=>∃N,e=.returned (.tuple #[.int .i64 0,.iface 268 (.pointer (some ⟨N,0,none⟩))])∧w.heap.size≤N∧w'.heap[N]? = some (.cells #[.string ⟨#[65,116,111,105]⟩,.string s,ev] 282 (0,0))∧Below w.heap.size w w':=Any.strconv_Atoi_err Tryz.laysC172 s hl h ev w hv hev
open Go.RowKit Go.Lib in
open Go.RowKit Go.Lib in
open Go.RowKit Go.Lib in
open Go.RowKit Go.Lib in
open Go.RowKit Go.Lib in
open Go.RowKit Go.Lib in
open Go.RowKit Go.Lib in
open Go.RowKit Go.Lib in
open Go.RowKit Go.Lib in
open Go.RowKit Go.Lib in
open Go.RowKit Go.Lib in
open Go.RowKit Go.Lib in
open Go.RowKit Go.Lib in
open Go.RowKit Go.Lib in
open Go.RowKit Go.Lib in
open Go.RowKit Go.Lib in
open Go.RowKit Go.Lib in
open Go.RowKit Go.Lib in
open Go.RowKit Go.Lib in
open Go.RowKit Go.Lib in
def Tryz.lays101_ren:Go.Shelf.Ren:=⟨fun | 101=>168 | 208=>199 | 206=>225 | n=>n,fun | 9=>9 | 4=>4 | 3=>3 | n=>n,fun | n=>n⟩
theorem Tryz.lays101:Go.Proofs.Lays.n101 Tryz.prog Tryz.lays101_ren:={
 mixed:=by kernel_rfl
 f101:=Tryz.func168.trans (congrArg some (by kernel_rfl))
 f206:=Tryz.func225.trans (congrArg some (by kernel_rfl))
 f208:=Tryz.func199.trans (congrArg some (by kernel_rfl))
 t3:=Tryz.underlying3
 a3:=Tryz.isAgg3
 z3:=Tryz.sizeOf3
 v3:=Tryz.zeroValue3
 t4:=Tryz.underlying4
 a4:=Tryz.isAgg4
 z4:=Tryz.sizeOf4
 v4:=Tryz.zeroValue4
 t9:=Tryz.underlying9
 a9:=Tryz.isAgg9
 z9:=Tryz.sizeOf9
 v9:=Tryz.zeroValue9 }
open Go.RowKit Go.Lib in
theorem Tryz.strings_TrimPrefix (s p:ByteArray) (w:World) :
  Calls Tryz.prog 168 #[.string s,.string p] w fun e w'=>e=.returned (.string ⟨(Lib.trimPrefix s.data.toList p.data.toList).toArray⟩)∧w'=w:=Any.strings_TrimPrefix Tryz.lays101 s p w
def Tryz.lays197_ren:Go.Shelf.Ren:=⟨fun | 197=>44 | 260=>75 | n=>n,fun | 9=>9 | 21=>21 | 3=>3 | 4=>4 | 5=>5 | 105=>93 | 119=>162 | 0=>0 | 46=>160 | 139=>165 | 138=>164 | n=>n,fun | 3=>0 | 4=>1 | n=>n⟩
theorem Tryz.lays197:Go.Proofs.Lays.n197 Tryz.prog Tryz.lays197_ren:={
 mixed:=by kernel_rfl
 f197:=Tryz.func44.trans (congrArg some (by kernel_rfl))
 f260:=Tryz.func75.trans (congrArg some (by kernel_rfl))
 t0:=Tryz.underlying0
 a0:=Tryz.isAgg0
 z0:=Tryz.sizeOf0
 v0:=Tryz.zeroValue0
 t3:=Tryz.underlying3
 a3:=Tryz.isAgg3
 z3:=Tryz.sizeOf3
 v3:=Tryz.zeroValue3
 t4:=Tryz.underlying4
 a4:=Tryz.isAgg4
 z4:=Tryz.sizeOf4
 v4:=Tryz.zeroValue4
 t5:=Tryz.underlying5
 a5:=Tryz.isAgg5
 z5:=Tryz.sizeOf5
 v5:=Tryz.zeroValue5
 t9:=Tryz.underlying9
 a9:=Tryz.isAgg9
 z9:=Tryz.sizeOf9
 v9:=Tryz.zeroValue9
 t21:=Tryz.underlying21
 a21:=Tryz.isAgg21
 z21:=Tryz.sizeOf21
 v21:=Tryz.zeroValue21
 t46:=Tryz.underlying160
 a46:=Tryz.isAgg160
 z46:=Tryz.sizeOf160
 v46:=Tryz.zeroValue160
 t105:=Tryz.underlying93
 a105:=Tryz.isAgg93
 z105:=Tryz.sizeOf93
 v105:=Tryz.zeroValue93
 t119:=Tryz.underlying162
 a119:=Tryz.isAgg162
 z119:=Tryz.sizeOf162
 t138:=Tryz.underlying164
 a138:=Tryz.isAgg164
 z138:=Tryz.sizeOf164
 v138:=Tryz.zeroValue164
 t139:=Tryz.underlying165
 a139:=Tryz.isAgg165
 z139:=Tryz.sizeOf165
 v139:=Tryz.zeroValue165
 g3:=by kernel_rfl
 g4:=by kernel_rfl }
open Go.RowKit Go.Lib in
open Go.RowKit Go.Lib in
open Go.RowKit Go.Lib in
open Go.RowKit Go.Lib in
open Go.RowKit Go.Lib in
open Go.RowKit Go.Lib in
open Go.RowKit Go.Lib in
open Go.RowKit Go.Lib in
open Go.RowKit Go.Lib in
open Go.RowKit Go.Lib in
open Go.RowKit Go.Lib in
open Go.RowKit Go.Lib in
open Go.RowKit Go.Lib in
open Go.RowKit Go.Lib in
open Go.RowKit Go.Lib in
open Go.RowKit Go.Lib in
def Tryz.lays260_ren:Go.Shelf.Ren:=⟨fun | 260=>75 | n=>n,fun | 9=>9 | 21=>21 | 3=>3 | 4=>4 | 5=>5 | 119=>162 | 0=>0 | 46=>160 | 139=>165 | 138=>164 | n=>n,fun | 3=>0 | 4=>1 | n=>n⟩
theorem Tryz.lays260:Go.Proofs.Lays.n260 Tryz.prog Tryz.lays260_ren:={
 mixed:=by kernel_rfl
 f260:=Tryz.func75.trans (congrArg some (by kernel_rfl))
 t0:=Tryz.underlying0
 a0:=Tryz.isAgg0
 z0:=Tryz.sizeOf0
 v0:=Tryz.zeroValue0
 t3:=Tryz.underlying3
 a3:=Tryz.isAgg3
 z3:=Tryz.sizeOf3
 v3:=Tryz.zeroValue3
 t4:=Tryz.underlying4
 a4:=Tryz.isAgg4
 z4:=Tryz.sizeOf4
 v4:=Tryz.zeroValue4
 t5:=Tryz.underlying5
 a5:=Tryz.isAgg5
 z5:=Tryz.sizeOf5
 v5:=Tryz.zeroValue5
 t9:=Tryz.underlying9
 a9:=Tryz.isAgg9
 z9:=Tryz.sizeOf9
 v9:=Tryz.zeroValue9
 t21:=Tryz.underlying21
 a21:=Tryz.isAgg21
 z21:=Tryz.sizeOf21
 v21:=Tryz.zeroValue21
 t46:=Tryz.underlying160
 a46:=Tryz.isAgg160
 z46:=Tryz.sizeOf160
 v46:=Tryz.zeroValue160
 t119:=Tryz.underlying162
 a119:=Tryz.isAgg162
 z119:=Tryz.sizeOf162
 t138:=Tryz.underlying164
 a138:=Tryz.isAgg164
 z138:=Tryz.sizeOf164
 v138:=Tryz.zeroValue164
 t139:=Tryz.underlying165
 a139:=Tryz.isAgg165
 z139:=Tryz.sizeOf165
 v139:=Tryz.zeroValue165
 g3:=by kernel_rfl
 g4:=by kernel_rfl }
open Go.RowKit Go.Lib in
open Go.RowKit Go.Lib in
theorem Tryz.utf8_DecodeRuneInString (s:ByteArray) (w:World) (hT:Lib.Utf8Tabs 0 1 w) :
  Calls Tryz.prog 44 #[.string s] w fun e w'=>e=.returned (.tuple #[.int .i32 (Lib.decodeGo s).1,.int .i64 (Lib.decodeGo s).2])∧Below w.heap.size w w':=Any.utf8_DecodeRuneInString Tryz.lays197 s w hT
end Go.Proofs
