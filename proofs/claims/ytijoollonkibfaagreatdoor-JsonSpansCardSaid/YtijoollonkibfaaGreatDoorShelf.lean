/-
 DERIVED: THE SHELF's CONTRACTS AT THIS DUMP, IN PLAIN WORDS (tools/lay-plain.mjs out of 'TryzShelf.lean', which tools/lay-shelf.mjs wrote): THE SAME DECLARATIONS UNDER THE SAME NAMES: 'import', 'namespace', 'open', 'def', 'theorem' AND NOTHING ELSE: no command of the shelf's: FOR A HAND-IN. Each laying: the table of numbers ('.._ren') and one theorem, a field a fact of the dump's own or the kernel's comparison; each contract: ONE APPLICATION.
-/
import Derived.Shelf.Strings.Builder1
import Derived.Shelf.Strings.Builder2
import Derived.Shelf.Small.Utf8
import Derived.Shelf.Small.Strs
import Derived.Shelf.Strings.BuilderF
import Derived.Shelf.Strings.BuilderK
import Derived.Shelf.Strings.BuilderRune
import Derived.Shelf.Utf8.AppendRune
import Derived.Shelf.Utf8.AppendRunePlain
import Derived.Shelf.Strings.Builder2Cap
import Derived.Shelf.Strconv.Atoi
import Derived.Shelf.Strconv.Itoa0
import Derived.Shelf.Strconv.Itoa1
import Derived.Shelf.LaysM
import Derived.Shelf.Strconv.Itoa2
import Derived.Shelf.Strconv.Itoa3
import Derived.Shelf.Strconv.AtoiErrFast
import Derived.Shelf.Strconv.ParseIntEmpty
import Derived.Shelf.Strconv.AtoiFail
import Derived.Shelf.Strconv.Clone
import Derived.Shelf.Strconv.SyntaxError
import Derived.Shelf.LaysC
import Derived.Shelf.Strconv.ToError
import Derived.Shelf.Strconv.AtoiErr
import Derived.Shelf.Strings.Search1
import Derived.Shelf.Strings.Search2
import Derived.Shelf.Strings.Search3
import Derived.Shelf.Strings.Cut
import Derived.Shelf.Strings.Shaped
import Derived.Shelf.Strings.Prefix
import Derived.Shelf.Unicode.Decode
import Derived.Shelf.Strings.Runes
import Derived.Shelf.Strings.IndexAny
import Derived.Shelf.Strings.AsciiSet
import Derived.Shelf.Strings.IndexAnyAll
import Derived.Shelf.Bits.Mul64
import Derived.Shelf.Unicode.DecodeSlow
import Derived.Shelf.Unicode.DecodeAny
import Derived.Shelf.Strings.BuilderCap
import Derived.Test.YtijoollonkibfaaGreatDoorProg
namespace Go.Proofs
open Go.Shelf
def Tryz.lays170_ren:Go.Shelf.Ren:=⟨fun | 170=>200 | n=>n,fun | 70=>107 | 3=>3 | 0=>0 | 72=>110 | 37=>108 | 5=>5 | n=>n,fun | n=>n⟩
open Go.RowKit in
def Tryz.lays169_ren:Go.Shelf.Ren:=⟨fun | 169=>68 | n=>n,fun | 70=>107 | 9=>9 | 0=>0 | 72=>110 | 37=>108 | 127=>140 | 3=>3 | 5=>5 | n=>n,fun | n=>n⟩
theorem Tryz.lays169:Go.Proofs.Lays.n169 Tryz.prog Tryz.lays169_ren:={
 mixed:=by kernel_rfl
 f169:=Tryz.func68.trans (congrArg some (by kernel_rfl))
 t0:=Tryz.underlying0
 a0:=Tryz.isAgg0
 z0:=Tryz.sizeOf0
 v0:=Tryz.zeroValue0
 t3:=Tryz.underlying3
 a3:=Tryz.isAgg3
 z3:=Tryz.sizeOf3
 v3:=Tryz.zeroValue3
 t9:=Tryz.underlying9
 a9:=Tryz.isAgg9
 z9:=Tryz.sizeOf9
 v9:=Tryz.zeroValue9
 t37:=Tryz.underlying108
 a37:=Tryz.isAgg108
 z37:=Tryz.sizeOf108
 v37:=Tryz.zeroValue108
 t70:=Tryz.underlying107
 a70:=Tryz.isAgg107
 z70:=Tryz.sizeOf107
 v70:=Tryz.zeroValue107
 t72:=Tryz.underlying110
 a72:=Tryz.isAgg110
 z72:=Tryz.sizeOf110
 v72:=Tryz.zeroValue110
 t127:=Tryz.underlying140
 a127:=Tryz.isAgg140
 z127:=Tryz.sizeOf140
 v127:=Tryz.zeroValue140 }
theorem Tryz.Builder_Extra_169:Builder.Extra Tryz.prog Tryz.lays169_ren:={
 sizeBuilder:=by kernel_rfl
 liesBuilder:=by kernel_rfl
 t5:=Tryz.underlying5
 a5:=Tryz.isAgg5
 z5:=Tryz.sizeOf5
 v5:=Tryz.zeroValue5
 infoByte:=by kernel_rfl
 cellsByte:=by kernel_rfl
 sizeByte:=by kernel_rfl
 neB5:=by decide }
open Go.RowKit in
open Go.RowKit in
open Go.RowKit in
def Tryz.lays241_ren:Go.Shelf.Ren:=⟨fun | 241=>214 | 277=>229 | n=>n,fun | 70=>107 | 3=>3 | 0=>0 | 72=>110 | 37=>108 | 5=>5 | n=>n,fun | n=>n⟩
open Go.RowKit in
def Tryz.lays165_ren:Go.Shelf.Ren:=⟨fun | 165=>198 | 240=>94 | 241=>214 | 276=>119 | 277=>229 | n=>n,fun | 70=>107 | 3=>3 | 0=>0 | 4=>4 | 9=>9 | 20=>20 | 72=>110 | 37=>108 | 164=>170 | 5=>5 | n=>n,fun | n=>n⟩
open Go.RowKit in
def Tryz.lays118_ren:Go.Shelf.Ren:=⟨fun | 118=>67 | n=>n,fun | 21=>21 | 3=>3 | 4=>4 | n=>n,fun | n=>n⟩
theorem Tryz.lays118:Go.Proofs.Lays.n118 Tryz.prog Tryz.lays118_ren:={
 mixed:=by kernel_rfl
 f118:=Tryz.func67.trans (congrArg some (by kernel_rfl))
 t3:=Tryz.underlying3
 a3:=Tryz.isAgg3
 z3:=Tryz.sizeOf3
 v3:=Tryz.zeroValue3
 t4:=Tryz.underlying4
 a4:=Tryz.isAgg4
 z4:=Tryz.sizeOf4
 v4:=Tryz.zeroValue4
 t21:=Tryz.underlying21
 a21:=Tryz.isAgg21
 z21:=Tryz.sizeOf21
 v21:=Tryz.zeroValue21 }
theorem Tryz.utf8_RuneLen (r:Int) (w:World) :
  Calls Tryz.prog 67 #[.int .i32 r] w fun e w'=>e=.returned (.int .i64 (Lib.runeLen r))∧w'=w:=Any.utf8_RuneLen Tryz.lays118 r w
def Tryz.lays119_ren:Go.Shelf.Ren:=⟨fun | 119=>121 | n=>n,fun | 21=>21 | 4=>4 | n=>n,fun | n=>n⟩
def Tryz.lays120_ren:Go.Shelf.Ren:=⟨fun | 120=>215 | n=>n,fun | 5=>5 | 4=>4 | n=>n,fun | n=>n⟩
def Tryz.lays213_ren:Go.Shelf.Ren:=⟨fun | 213=>205 | 265=>218 | n=>n,fun | 9=>9 | 3=>3 | n=>n,fun | n=>n⟩
open Go.RowKit in
def Tryz.lays106_ren:Go.Shelf.Ren:=⟨fun | 106=>188 | 213=>205 | 265=>218 | n=>n,fun | 9=>9 | 3=>3 | n=>n,fun | n=>n⟩
theorem Tryz.lays106:Go.Proofs.Lays.n106 Tryz.prog Tryz.lays106_ren:={
 mixed:=by kernel_rfl
 f106:=Tryz.func188.trans (congrArg some (by kernel_rfl))
 f213:=Tryz.func205.trans (congrArg some (by kernel_rfl))
 f265:=Tryz.func218.trans (congrArg some (by kernel_rfl))
 t3:=Tryz.underlying3
 a3:=Tryz.isAgg3
 z3:=Tryz.sizeOf3
 v3:=Tryz.zeroValue3
 t9:=Tryz.underlying9
 a9:=Tryz.isAgg9
 z9:=Tryz.sizeOf9
 v9:=Tryz.zeroValue9 }
open Go.RowKit in
theorem Tryz.strings_Compare (a b:ByteArray) (w:World) :
  Calls Tryz.prog 188 #[.string a,.string b] w fun e w'=>e=.returned (.int .i64 (Lib.compareBytes a.data.toList b.data.toList))∧w'=w:=Any.strings_Compare Tryz.lays106 a b w
def Tryz.lays137_ren:Go.Shelf.Ren:=⟨fun | 137=>23 | 217=>45 | 266=>64 | n=>n,fun | 9=>9 | 5=>5 | 3=>3 | n=>n,fun | n=>n⟩
theorem Tryz.lays137:Go.Proofs.Lays.n137 Tryz.prog Tryz.lays137_ren:={
 mixed:=by kernel_rfl
 f137:=Tryz.func23.trans (congrArg some (by kernel_rfl))
 f217:=Tryz.func45.trans (congrArg some (by kernel_rfl))
 f266:=Tryz.func64.trans (congrArg some (by kernel_rfl))
 t3:=Tryz.underlying3
 a3:=Tryz.isAgg3
 z3:=Tryz.sizeOf3
 v3:=Tryz.zeroValue3
 t5:=Tryz.underlying5
 a5:=Tryz.isAgg5
 z5:=Tryz.sizeOf5
 v5:=Tryz.zeroValue5
 t9:=Tryz.underlying9
 a9:=Tryz.isAgg9
 z9:=Tryz.sizeOf9
 v9:=Tryz.zeroValue9 }
open Go.RowKit in
theorem Tryz.strings_IndexByte (s:ByteArray) (c:Int) (w:World) :
  Calls Tryz.prog 23 #[.string s,.int .u8 c] w fun e w'=>e=.returned (.int .i64 (Lib.indexByte s.data.toList c.toNat.toUInt8))∧w'=w:=Any.strings_IndexByte Tryz.lays137 s c w
open Go.RowKit in
open Go.RowKit in
open Go.RowKit in
open Go.RowKit in
open Go.RowKit in
open Go.RowKit in
open Go.RowKit in
theorem Tryz.Builder_String_any_k (B b:Nat) (l:List UInt8) (w:World) (h:Lib.IsBuilderF 110 5 B b (Lib.byteCells l) w) (hBw:B≤w.heap.size) :
  Calls Tryz.prog 68 #[.pointer (some ⟨b,0,none⟩)] w fun e w'=>e=.returned (.string ⟨l.toArray⟩)∧(Lib.IsBuilderF 110 5 B b (Lib.byteCells l) w'∧Below B w w'∧Lib.OthersKept 5 (some b) w w'):=Any.Builder_String_any_k Tryz.lays169 Tryz.Builder_Extra_169 B b l w h hBw
def Tryz.lays278_ren:Go.Shelf.Ren:=⟨fun | 278=>120 | n=>n,fun | 37=>108 | 21=>21 | 51=>167 | 4=>4 | 46=>135 | 5=>5 | n=>n,fun | n=>n⟩
open Go.RowKit in
def Tryz.lays242_ren:Go.Shelf.Ren:=⟨fun | 242=>95 | 278=>120 | n=>n,fun | 37=>108 | 21=>21 | 51=>167 | 4=>4 | 5=>5 | 46=>135 | n=>n,fun | n=>n⟩
theorem Tryz.lays242:Go.Proofs.Lays.n242 Tryz.prog Tryz.lays242_ren:={
 mixed:=by kernel_rfl
 f242:=Tryz.func95.trans (congrArg some (by kernel_rfl))
 f278:=Tryz.func120.trans (congrArg some (by kernel_rfl))
 t4:=Tryz.underlying4
 a4:=Tryz.isAgg4
 z4:=Tryz.sizeOf4
 v4:=Tryz.zeroValue4
 t5:=Tryz.underlying5
 a5:=Tryz.isAgg5
 z5:=Tryz.sizeOf5
 v5:=Tryz.zeroValue5
 t21:=Tryz.underlying21
 a21:=Tryz.isAgg21
 z21:=Tryz.sizeOf21
 v21:=Tryz.zeroValue21
 t37:=Tryz.underlying108
 a37:=Tryz.isAgg108
 z37:=Tryz.sizeOf108
 v37:=Tryz.zeroValue108
 t46:=Tryz.underlying135
 a46:=Tryz.isAgg135
 z46:=Tryz.sizeOf135
 v46:=Tryz.zeroValue135
 t51:=Tryz.underlying167
 a51:=Tryz.isAgg167
 z51:=Tryz.sizeOf167
 v51:=Tryz.zeroValue167 }
open Go.RowKit in
theorem Tryz.utf8_AppendRune_row (B:Nat) (v:Value) (n:Nat) (xs:List Value) (r:Int) (hr0:-2147483648≤r) (hr1:r≤2147483647) (w:World) (hown:w.ownsRowF B 5 1 v n xs) (hlen:n+4≤140737488355328) (hBw:B≤w.heap.size) :
  Calls Tryz.prog 95 #[v,.int .i32 r] w fun e w'=>∃v',e=.returned v'∧w'.ownsRowF B 5 1 v' (n+(Lib.runeCells r).length) (xs ++ Lib.runeCells r)∧∃o,(w.alloc o).grownBy w' v.ownBlock:=Any.utf8_AppendRune_row Tryz.lays242 (by kernel_rfl) B v n xs r hr0 hr1 w hown hlen hBw
open Go.RowKit in
open Go.RowKit in
open Go.RowKit in
open Go.RowKit in
def Tryz.lays244_ren:Go.Shelf.Ren:=⟨fun | 244=>146 | 247=>168 | 287=>152 | 321=>173 | 322=>174 | n=>n,fun | 9=>9 | 3=>3 | 75=>116 | 4=>4 | 5=>5 | 167=>215 | 37=>108 | 0=>0 | 85=>216 | 2=>2 | 53=>184 | 175=>185 | 46=>135 | 21=>21 | 80=>112 | n=>n,fun | n=>n⟩
open Go.RowKit in
def Tryz.lays172_ren:Go.Shelf.Ren:=⟨fun | 172=>125 | 244=>146 | 245=>147 | 247=>168 | 279=>169 | 280=>170 | 281=>171 | 282=>172 | 287=>152 | 316=>195 | 171=>123 | 205=>196 | 321=>173 | 322=>174 | 243=>145 | 246=>167 | 283=>191 | 284=>192 | 285=>193 | 286=>194 | 129=>153 | 317=>208 | 318=>209 | 319=>210 | 320=>211 | 337=>228 | 338=>178 | n=>n,fun | 9=>9 | 3=>3 | 75=>116 | 76=>117 | 4=>4 | 5=>5 | 167=>215 | 37=>108 | 0=>0 | 85=>216 | 2=>2 | 168=>218 | 53=>184 | 175=>185 | 46=>135 | 210=>237 | 127=>140 | 145=>252 | 143=>250 | 21=>21 | 171=>231 | 173=>233 | 212=>248 | 51=>167 | 20=>20 | 213=>249 | 232=>272 | 233=>239 | 80=>112 | n=>n,fun | 15=>4 | 16=>5 | 17=>7 | 18=>8 | 19=>6 | n=>n⟩
theorem Tryz.lays172:Go.Proofs.Lays.n172 Tryz.prog Tryz.lays172_ren:={
 mixed:=by kernel_rfl
 f129:=Tryz.func153.trans (congrArg some (by kernel_rfl))
 f171:=Tryz.func123.trans (congrArg some (by kernel_rfl))
 f172:=Tryz.func125.trans (congrArg some (by kernel_rfl))
 f205:=Tryz.func196.trans (congrArg some (by kernel_rfl))
 f243:=Tryz.func145.trans (congrArg some (by kernel_rfl))
 f244:=Tryz.func146.trans (congrArg some (by kernel_rfl))
 f245:=Tryz.func147.trans (congrArg some (by kernel_rfl))
 f246:=Tryz.func167.trans (congrArg some (by kernel_rfl))
 f247:=Tryz.func168.trans (congrArg some (by kernel_rfl))
 f279:=Tryz.func169.trans (congrArg some (by kernel_rfl))
 f280:=Tryz.func170.trans (congrArg some (by kernel_rfl))
 f281:=Tryz.func171.trans (congrArg some (by kernel_rfl))
 f282:=Tryz.func172.trans (congrArg some (by kernel_rfl))
 f283:=Tryz.func191.trans (congrArg some (by kernel_rfl))
 f284:=Tryz.func192.trans (congrArg some (by kernel_rfl))
 f285:=Tryz.func193.trans (congrArg some (by kernel_rfl))
 f286:=Tryz.func194.trans (congrArg some (by kernel_rfl))
 f287:=Tryz.func152.trans (congrArg some (by kernel_rfl))
 f316:=Tryz.func195.trans (congrArg some (by kernel_rfl))
 f317:=Tryz.func208.trans (congrArg some (by kernel_rfl))
 f318:=Tryz.func209.trans (congrArg some (by kernel_rfl))
 f319:=Tryz.func210.trans (congrArg some (by kernel_rfl))
 f320:=Tryz.func211.trans (congrArg some (by kernel_rfl))
 f321:=Tryz.func173.trans (congrArg some (by kernel_rfl))
 f322:=Tryz.func174.trans (congrArg some (by kernel_rfl))
 f337:=Tryz.func228.trans (congrArg some (by kernel_rfl))
 f338:=Tryz.func178.trans (congrArg some (by kernel_rfl))
 t0:=Tryz.underlying0
 a0:=Tryz.isAgg0
 z0:=Tryz.sizeOf0
 v0:=Tryz.zeroValue0
 t2:=Tryz.underlying2
 a2:=Tryz.isAgg2
 z2:=Tryz.sizeOf2
 v2:=Tryz.zeroValue2
 t3:=Tryz.underlying3
 a3:=Tryz.isAgg3
 z3:=Tryz.sizeOf3
 v3:=Tryz.zeroValue3
 t4:=Tryz.underlying4
 a4:=Tryz.isAgg4
 z4:=Tryz.sizeOf4
 v4:=Tryz.zeroValue4
 t5:=Tryz.underlying5
 a5:=Tryz.isAgg5
 z5:=Tryz.sizeOf5
 v5:=Tryz.zeroValue5
 t9:=Tryz.underlying9
 a9:=Tryz.isAgg9
 z9:=Tryz.sizeOf9
 v9:=Tryz.zeroValue9
 t20:=Tryz.underlying20
 a20:=Tryz.isAgg20
 z20:=Tryz.sizeOf20
 v20:=Tryz.zeroValue20
 t21:=Tryz.underlying21
 a21:=Tryz.isAgg21
 z21:=Tryz.sizeOf21
 v21:=Tryz.zeroValue21
 t37:=Tryz.underlying108
 a37:=Tryz.isAgg108
 z37:=Tryz.sizeOf108
 v37:=Tryz.zeroValue108
 t46:=Tryz.underlying135
 a46:=Tryz.isAgg135
 z46:=Tryz.sizeOf135
 v46:=Tryz.zeroValue135
 t51:=Tryz.underlying167
 a51:=Tryz.isAgg167
 z51:=Tryz.sizeOf167
 v51:=Tryz.zeroValue167
 t53:=Tryz.underlying184
 a53:=Tryz.isAgg184
 z53:=Tryz.sizeOf184
 v53:=Tryz.zeroValue184
 t75:=Tryz.underlying116
 a75:=Tryz.isAgg116
 z75:=Tryz.sizeOf116
 v75:=Tryz.zeroValue116
 t76:=Tryz.underlying117
 a76:=Tryz.isAgg117
 z76:=Tryz.sizeOf117
 v76:=Tryz.zeroValue117
 t85:=Tryz.underlying216
 a85:=Tryz.isAgg216
 z85:=Tryz.sizeOf216
 v85:=Tryz.zeroValue216
 t127:=Tryz.underlying140
 a127:=Tryz.isAgg140
 z127:=Tryz.sizeOf140
 v127:=Tryz.zeroValue140
 t143:=Tryz.underlying250
 a143:=Tryz.isAgg250
 z143:=Tryz.sizeOf250
 v143:=Tryz.zeroValue250
 t145:=Tryz.underlying252
 a145:=Tryz.isAgg252
 z145:=Tryz.sizeOf252
 v145:=Tryz.zeroValue252
 t167:=Tryz.underlying215
 a167:=Tryz.isAgg215
 z167:=Tryz.sizeOf215
 v167:=Tryz.zeroValue215
 t168:=Tryz.underlying218
 a168:=Tryz.isAgg218
 z168:=Tryz.sizeOf218
 v168:=Tryz.zeroValue218
 t171:=Tryz.underlying231
 a171:=Tryz.isAgg231
 z171:=Tryz.sizeOf231
 v171:=Tryz.zeroValue231
 t173:=Tryz.underlying233
 a173:=Tryz.isAgg233
 z173:=Tryz.sizeOf233
 v173:=Tryz.zeroValue233
 t175:=Tryz.underlying185
 a175:=Tryz.isAgg185
 z175:=Tryz.sizeOf185
 v175:=Tryz.zeroValue185
 t210:=Tryz.underlying237
 a210:=Tryz.isAgg237
 z210:=Tryz.sizeOf237
 v210:=Tryz.zeroValue237
 t212:=Tryz.underlying248
 a212:=Tryz.isAgg248
 z212:=Tryz.sizeOf248
 v212:=Tryz.zeroValue248
 t213:=Tryz.underlying249
 a213:=Tryz.isAgg249
 z213:=Tryz.sizeOf249
 t232:=Tryz.underlying272
 a232:=Tryz.isAgg272
 z232:=Tryz.sizeOf272
 v232:=Tryz.zeroValue272
 t233:=Tryz.underlying239
 a233:=Tryz.isAgg239
 z233:=Tryz.sizeOf239
 v233:=Tryz.zeroValue239
 g15:=by kernel_rfl
 g16:=by kernel_rfl
 g17:=by kernel_rfl
 g18:=by kernel_rfl
 g19:=by kernel_rfl }
open Go.RowKit in
theorem Tryz.strconv_Atoi (s:ByteArray) (n:Int) (hl:s.size≤18) (h:Lib.atoi s.data.toList=some n) (w:World) :
  Calls Tryz.prog 125 #[.string s] w fun e w'=>e=.returned (.tuple #[.int .i64 n,.nilIface])∧∃t,w'=Lib.bytesWorld w 5 t:=Any.strconv_Atoi Tryz.lays172 s n hl h w
def Tryz.lays129_ren:Go.Shelf.Ren:=⟨fun | 129=>153 | n=>n,fun | 53=>184 | 3=>3 | 4=>4 | 46=>135 | 5=>5 | 9=>9 | n=>n,fun | n=>n⟩
def Tryz.lays317_ren:Go.Shelf.Ren:=⟨fun | 317=>208 | n=>n,fun | 3=>3 | 46=>135 | n=>n,fun | n=>n⟩
open Go.Lib in
def Tryz.lays318_ren:Go.Shelf.Ren:=⟨fun | 318=>209 | n=>n,fun | 3=>3 | 4=>4 | n=>n,fun | n=>n⟩
open Go.Lib in
def Tryz.lays283_ren:Go.Shelf.Ren:=⟨fun | 283=>191 | n=>n,fun | 3=>3 | 9=>9 | 4=>4 | n=>n,fun | n=>n⟩
open Go.Lib in
def Tryz.laysM284_ren:Go.Shelf.Ren:=⟨fun | 284=>192 | 129=>153 | 317=>208 | 318=>209 | n=>n,fun | 53=>184 | 3=>3 | 212=>248 | 0=>0 | 4=>4 | 46=>135 | 5=>5 | 9=>9 | n=>n,fun | 17=>7 | n=>n⟩
open Go.Lib in
def Tryz.lays285_ren:Go.Shelf.Ren:=⟨fun | 285=>193 | n=>n,fun | 37=>108 | 53=>184 | 3=>3 | 4=>4 | 51=>167 | 9=>9 | 5=>5 | 0=>0 | n=>n,fun | n=>n⟩
open Go.RowKit Go.Sort Go.Lib in
def Tryz.laysM246_ren:Go.Shelf.Ren:=⟨fun | 246=>167 | 283=>191 | 284=>192 | 285=>193 | 286=>194 | 129=>153 | 317=>208 | 318=>209 | 319=>210 | 320=>211 | 337=>228 | 338=>178 | n=>n,fun | 2=>2 | 3=>3 | 9=>9 | 4=>4 | 171=>231 | 0=>0 | 53=>184 | 37=>108 | 5=>5 | 173=>233 | 212=>248 | 51=>167 | 20=>20 | 213=>249 | 46=>135 | 232=>272 | 233=>239 | n=>n,fun | 17=>7 | 18=>8 | 19=>6 | n=>n⟩
open Go.RowKit Go.Sort Go.Lib in
def Tryz.lays246_ren:Go.Shelf.Ren:=⟨fun | 246=>167 | 283=>191 | 284=>192 | 285=>193 | 286=>194 | 129=>153 | 317=>208 | 318=>209 | 319=>210 | 320=>211 | 337=>228 | 338=>178 | n=>n,fun | 2=>2 | 3=>3 | 9=>9 | 4=>4 | 171=>231 | 0=>0 | 53=>184 | 37=>108 | 5=>5 | 173=>233 | 212=>248 | 51=>167 | 20=>20 | 213=>249 | 46=>135 | 232=>272 | 233=>239 | n=>n,fun | 17=>7 | 18=>8 | 19=>6 | n=>n⟩
open Go.RowKit Go.Sort Go.Lib in
def Tryz.laysM243_ren:Go.Shelf.Ren:=⟨fun | 243=>145 | 246=>167 | 283=>191 | 284=>192 | 285=>193 | 286=>194 | 129=>153 | 317=>208 | 318=>209 | 319=>210 | 320=>211 | 337=>228 | 338=>178 | n=>n,fun | 3=>3 | 9=>9 | 2=>2 | 4=>4 | 171=>231 | 0=>0 | 53=>184 | 37=>108 | 5=>5 | 173=>233 | 212=>248 | 51=>167 | 20=>20 | 213=>249 | 46=>135 | 232=>272 | 233=>239 | n=>n,fun | 17=>7 | 18=>8 | 19=>6 | n=>n⟩
open Go.RowKit Go.Sort Go.Lib in
def Tryz.lays243_ren:Go.Shelf.Ren:=⟨fun | 243=>145 | 246=>167 | 283=>191 | 284=>192 | 285=>193 | 286=>194 | 129=>153 | 317=>208 | 318=>209 | 319=>210 | 320=>211 | 337=>228 | 338=>178 | n=>n,fun | 3=>3 | 9=>9 | 2=>2 | 4=>4 | 171=>231 | 0=>0 | 53=>184 | 37=>108 | 5=>5 | 173=>233 | 212=>248 | 51=>167 | 20=>20 | 213=>249 | 46=>135 | 232=>272 | 233=>239 | n=>n,fun | 17=>7 | 18=>8 | 19=>6 | n=>n⟩
open Go.RowKit Go.Sort Go.Lib in
def Tryz.laysM171_ren:Go.Shelf.Ren:=⟨fun | 171=>123 | 243=>145 | 246=>167 | 283=>191 | 284=>192 | 285=>193 | 286=>194 | 129=>153 | 317=>208 | 318=>209 | 319=>210 | 320=>211 | 337=>228 | 338=>178 | n=>n,fun | 3=>3 | 9=>9 | 2=>2 | 4=>4 | 171=>231 | 0=>0 | 53=>184 | 37=>108 | 5=>5 | 173=>233 | 212=>248 | 51=>167 | 20=>20 | 213=>249 | 46=>135 | 232=>272 | 233=>239 | n=>n,fun | 17=>7 | 18=>8 | 19=>6 | n=>n⟩
theorem Tryz.laysM171:Go.Proofs.LaysM.n171 Tryz.prog Tryz.laysM171_ren:={
 mixed:=by kernel_rfl
 f129:=Tryz.func153.trans (congrArg some (by kernel_rfl))
 f171:=Tryz.func123.trans (congrArg some (by kernel_rfl))
 f243:=Tryz.func145.trans (congrArg some (by kernel_rfl))
 f246:=Tryz.func167.trans (congrArg some (by kernel_rfl))
 f283:=Tryz.func191.trans (congrArg some (by kernel_rfl))
 f284:=Tryz.func192.trans (congrArg some (by kernel_rfl))
 f285:=Tryz.func193.trans (congrArg some (by kernel_rfl))
 f286:=Tryz.func194.trans (congrArg some (by kernel_rfl))
 f317:=Tryz.func208.trans (congrArg some (by kernel_rfl))
 f318:=Tryz.func209.trans (congrArg some (by kernel_rfl))
 f319:=Tryz.func210.trans (congrArg some (by kernel_rfl))
 f320:=Tryz.func211.trans (congrArg some (by kernel_rfl))
 f337:=Tryz.func228.trans (congrArg some (by kernel_rfl))
 f338:=Tryz.func178.trans (congrArg some (by kernel_rfl))
 t0:=Tryz.underlying0
 a0:=Tryz.isAgg0
 z0:=Tryz.sizeOf0
 v0:=Tryz.zeroValue0
 t2:=Tryz.underlying2
 a2:=Tryz.isAgg2
 z2:=Tryz.sizeOf2
 v2:=Tryz.zeroValue2
 t3:=Tryz.underlying3
 a3:=Tryz.isAgg3
 z3:=Tryz.sizeOf3
 v3:=Tryz.zeroValue3
 t4:=Tryz.underlying4
 a4:=Tryz.isAgg4
 z4:=Tryz.sizeOf4
 v4:=Tryz.zeroValue4
 t5:=Tryz.underlying5
 a5:=Tryz.isAgg5
 z5:=Tryz.sizeOf5
 v5:=Tryz.zeroValue5
 t9:=Tryz.underlying9
 a9:=Tryz.isAgg9
 z9:=Tryz.sizeOf9
 v9:=Tryz.zeroValue9
 t20:=Tryz.underlying20
 a20:=Tryz.isAgg20
 z20:=Tryz.sizeOf20
 v20:=Tryz.zeroValue20
 t37:=Tryz.underlying108
 a37:=Tryz.isAgg108
 z37:=Tryz.sizeOf108
 v37:=Tryz.zeroValue108
 t46:=Tryz.underlying135
 a46:=Tryz.isAgg135
 z46:=Tryz.sizeOf135
 v46:=Tryz.zeroValue135
 t51:=Tryz.underlying167
 a51:=Tryz.isAgg167
 z51:=Tryz.sizeOf167
 v51:=Tryz.zeroValue167
 t53:=Tryz.underlying184
 a53:=Tryz.isAgg184
 z53:=Tryz.sizeOf184
 v53:=Tryz.zeroValue184
 t171:=Tryz.underlying231
 a171:=Tryz.isAgg231
 z171:=Tryz.sizeOf231
 v171:=Tryz.zeroValue231
 t173:=Tryz.underlying233
 a173:=Tryz.isAgg233
 z173:=Tryz.sizeOf233
 v173:=Tryz.zeroValue233
 t212:=Tryz.underlying248
 a212:=Tryz.isAgg248
 z212:=Tryz.sizeOf248
 v212:=Tryz.zeroValue248
 t213:=Tryz.underlying249
 a213:=Tryz.isAgg249
 z213:=Tryz.sizeOf249
 t232:=Tryz.underlying272
 a232:=Tryz.isAgg272
 z232:=Tryz.sizeOf272
 v232:=Tryz.zeroValue272
 t233:=Tryz.underlying239
 a233:=Tryz.isAgg239
 z233:=Tryz.sizeOf239
 v233:=Tryz.zeroValue239
 g17:=by kernel_rfl
 g18:=by kernel_rfl
 g19:=by kernel_rfl
 i0:=by kernel_rfl
 i2:=by kernel_rfl
 i3:=by kernel_rfl
 i4:=by kernel_rfl
 i5:=by kernel_rfl
 i9:=by kernel_rfl
 i20:=by kernel_rfl
 i37:=by kernel_rfl
 i46:=by kernel_rfl
 i51:=by kernel_rfl
 i53:=by kernel_rfl
 i171:=by kernel_rfl
 i173:=by kernel_rfl
 i212:=by kernel_rfl
 i232:=by kernel_rfl
 i233:=by kernel_rfl
 m17:=by kernel_rfl
 m18:=by kernel_rfl
 m19:=by kernel_rfl }
open Go.RowKit Go.Sort Go.Lib in
theorem Tryz.strconv_Itoa (n:Int) (h0:-9223372036854775808≤n) (h1:n≤9223372036854775807) (w:World) (htab:Lib.TabIs Tryz.prog w "internal/strconv.uint64pow10" .u64 Lib.pow10Tab) :
  Calls Tryz.prog 123 #[.int .i64 n] w fun e w'=>e=.returned (.string ⟨(Lib.itoa n).toArray⟩)∧∃k os,w'=grow (w.drewN k) os:=Any.strconv_Itoa Tryz.laysM171 n h0 h1 w htab
def Tryz.lays171_ren:Go.Shelf.Ren:=⟨fun | 171=>123 | 243=>145 | 246=>167 | 283=>191 | 284=>192 | 285=>193 | 286=>194 | 129=>153 | 317=>208 | 318=>209 | 319=>210 | 320=>211 | 337=>228 | 338=>178 | n=>n,fun | 3=>3 | 9=>9 | 2=>2 | 4=>4 | 171=>231 | 0=>0 | 53=>184 | 37=>108 | 5=>5 | 173=>233 | 212=>248 | 51=>167 | 20=>20 | 213=>249 | 46=>135 | 232=>272 | 233=>239 | n=>n,fun | 17=>7 | 18=>8 | 19=>6 | n=>n⟩
open Go.RowKit Go.Sort Go.Lib in
open Go.RowKit in
def Tryz.lays247_ren:Go.Shelf.Ren:=⟨fun | 247=>168 | 287=>152 | 321=>173 | 322=>174 | n=>n,fun | 9=>9 | 3=>3 | 2=>2 | 75=>116 | 4=>4 | 167=>215 | 5=>5 | 53=>184 | 175=>185 | 46=>135 | 37=>108 | 0=>0 | 21=>21 | 80=>112 | n=>n,fun | n=>n⟩
open Go.RowKit in
open Go.RowKit in
open Go.RowKit in
def Tryz.laysM316_ren:Go.Shelf.Ren:=⟨fun | 316=>195 | n=>n,fun | 9=>9 | 3=>3 | 4=>4 | 37=>108 | 0=>0 | 127=>140 | 5=>5 | n=>n,fun | n=>n⟩
open Go.RowKit in
def Tryz.laysM279_ren:Go.Shelf.Ren:=⟨fun | 279=>169 | 316=>195 | n=>n,fun | 9=>9 | 168=>218 | 75=>116 | 210=>237 | 3=>3 | 4=>4 | 37=>108 | 0=>0 | 127=>140 | 80=>112 | 5=>5 | n=>n,fun | 15=>4 | n=>n⟩
open Go.RowKit in
def Tryz.laysC245_ren:Go.Shelf.Ren:=⟨fun | 245=>147 | 279=>169 | 280=>170 | 281=>171 | 282=>172 | 316=>195 | 171=>123 | 205=>196 | 243=>145 | 246=>167 | 283=>191 | 284=>192 | 285=>193 | 286=>194 | 129=>153 | 317=>208 | 318=>209 | 319=>210 | 320=>211 | 337=>228 | 338=>178 | n=>n,fun | 9=>9 | 3=>3 | 75=>116 | 167=>215 | 4=>4 | 168=>218 | 210=>237 | 37=>108 | 0=>0 | 127=>140 | 145=>252 | 143=>250 | 2=>2 | 171=>231 | 53=>184 | 5=>5 | 173=>233 | 212=>248 | 51=>167 | 20=>20 | 213=>249 | 46=>135 | 232=>272 | 233=>239 | 80=>112 | n=>n,fun | 15=>4 | 16=>5 | 17=>7 | 18=>8 | 19=>6 | n=>n⟩
open Go.RowKit in
def Tryz.laysC172_ren:Go.Shelf.Ren:=⟨fun | 172=>125 | 244=>146 | 245=>147 | 247=>168 | 279=>169 | 280=>170 | 281=>171 | 282=>172 | 287=>152 | 316=>195 | 171=>123 | 205=>196 | 321=>173 | 322=>174 | 243=>145 | 246=>167 | 283=>191 | 284=>192 | 285=>193 | 286=>194 | 129=>153 | 317=>208 | 318=>209 | 319=>210 | 320=>211 | 337=>228 | 338=>178 | n=>n,fun | 9=>9 | 3=>3 | 75=>116 | 76=>117 | 4=>4 | 5=>5 | 167=>215 | 37=>108 | 0=>0 | 85=>216 | 2=>2 | 168=>218 | 53=>184 | 175=>185 | 46=>135 | 210=>237 | 127=>140 | 145=>252 | 143=>250 | 21=>21 | 171=>231 | 173=>233 | 212=>248 | 51=>167 | 20=>20 | 213=>249 | 232=>272 | 233=>239 | 80=>112 | n=>n,fun | 15=>4 | 16=>5 | 17=>7 | 18=>8 | 19=>6 | n=>n⟩
theorem Tryz.laysC172:Go.Proofs.LaysC.n172 Tryz.prog Tryz.laysC172_ren:={
 mixed:=by kernel_rfl
 f129:=Tryz.func153.trans (congrArg some (by kernel_rfl))
 f171:=Tryz.func123.trans (congrArg some (by kernel_rfl))
 f172:=Tryz.func125.trans (congrArg some (by kernel_rfl))
 f205:=Tryz.func196.trans (congrArg some (by kernel_rfl))
 f243:=Tryz.func145.trans (congrArg some (by kernel_rfl))
 f244:=Tryz.func146.trans (congrArg some (by kernel_rfl))
 f245:=Tryz.func147.trans (congrArg some (by kernel_rfl))
 f246:=Tryz.func167.trans (congrArg some (by kernel_rfl))
 f247:=Tryz.func168.trans (congrArg some (by kernel_rfl))
 f279:=Tryz.func169.trans (congrArg some (by kernel_rfl))
 f280:=Tryz.func170.trans (congrArg some (by kernel_rfl))
 f281:=Tryz.func171.trans (congrArg some (by kernel_rfl))
 f282:=Tryz.func172.trans (congrArg some (by kernel_rfl))
 f283:=Tryz.func191.trans (congrArg some (by kernel_rfl))
 f284:=Tryz.func192.trans (congrArg some (by kernel_rfl))
 f285:=Tryz.func193.trans (congrArg some (by kernel_rfl))
 f286:=Tryz.func194.trans (congrArg some (by kernel_rfl))
 f287:=Tryz.func152.trans (congrArg some (by kernel_rfl))
 f316:=Tryz.func195.trans (congrArg some (by kernel_rfl))
 f317:=Tryz.func208.trans (congrArg some (by kernel_rfl))
 f318:=Tryz.func209.trans (congrArg some (by kernel_rfl))
 f319:=Tryz.func210.trans (congrArg some (by kernel_rfl))
 f320:=Tryz.func211.trans (congrArg some (by kernel_rfl))
 f321:=Tryz.func173.trans (congrArg some (by kernel_rfl))
 f322:=Tryz.func174.trans (congrArg some (by kernel_rfl))
 f337:=Tryz.func228.trans (congrArg some (by kernel_rfl))
 f338:=Tryz.func178.trans (congrArg some (by kernel_rfl))
 t0:=Tryz.underlying0
 a0:=Tryz.isAgg0
 z0:=Tryz.sizeOf0
 v0:=Tryz.zeroValue0
 t2:=Tryz.underlying2
 a2:=Tryz.isAgg2
 z2:=Tryz.sizeOf2
 v2:=Tryz.zeroValue2
 t3:=Tryz.underlying3
 a3:=Tryz.isAgg3
 z3:=Tryz.sizeOf3
 v3:=Tryz.zeroValue3
 t4:=Tryz.underlying4
 a4:=Tryz.isAgg4
 z4:=Tryz.sizeOf4
 v4:=Tryz.zeroValue4
 t5:=Tryz.underlying5
 a5:=Tryz.isAgg5
 z5:=Tryz.sizeOf5
 v5:=Tryz.zeroValue5
 t9:=Tryz.underlying9
 a9:=Tryz.isAgg9
 z9:=Tryz.sizeOf9
 v9:=Tryz.zeroValue9
 t20:=Tryz.underlying20
 a20:=Tryz.isAgg20
 z20:=Tryz.sizeOf20
 v20:=Tryz.zeroValue20
 t21:=Tryz.underlying21
 a21:=Tryz.isAgg21
 z21:=Tryz.sizeOf21
 v21:=Tryz.zeroValue21
 t37:=Tryz.underlying108
 a37:=Tryz.isAgg108
 z37:=Tryz.sizeOf108
 v37:=Tryz.zeroValue108
 t46:=Tryz.underlying135
 a46:=Tryz.isAgg135
 z46:=Tryz.sizeOf135
 v46:=Tryz.zeroValue135
 t51:=Tryz.underlying167
 a51:=Tryz.isAgg167
 z51:=Tryz.sizeOf167
 v51:=Tryz.zeroValue167
 t53:=Tryz.underlying184
 a53:=Tryz.isAgg184
 z53:=Tryz.sizeOf184
 v53:=Tryz.zeroValue184
 t75:=Tryz.underlying116
 a75:=Tryz.isAgg116
 z75:=Tryz.sizeOf116
 v75:=Tryz.zeroValue116
 t76:=Tryz.underlying117
 a76:=Tryz.isAgg117
 z76:=Tryz.sizeOf117
 v76:=Tryz.zeroValue117
 t85:=Tryz.underlying216
 a85:=Tryz.isAgg216
 z85:=Tryz.sizeOf216
 v85:=Tryz.zeroValue216
 t127:=Tryz.underlying140
 a127:=Tryz.isAgg140
 z127:=Tryz.sizeOf140
 v127:=Tryz.zeroValue140
 t143:=Tryz.underlying250
 a143:=Tryz.isAgg250
 z143:=Tryz.sizeOf250
 v143:=Tryz.zeroValue250
 t145:=Tryz.underlying252
 a145:=Tryz.isAgg252
 z145:=Tryz.sizeOf252
 v145:=Tryz.zeroValue252
 t167:=Tryz.underlying215
 a167:=Tryz.isAgg215
 z167:=Tryz.sizeOf215
 v167:=Tryz.zeroValue215
 t168:=Tryz.underlying218
 a168:=Tryz.isAgg218
 z168:=Tryz.sizeOf218
 v168:=Tryz.zeroValue218
 t171:=Tryz.underlying231
 a171:=Tryz.isAgg231
 z171:=Tryz.sizeOf231
 v171:=Tryz.zeroValue231
 t173:=Tryz.underlying233
 a173:=Tryz.isAgg233
 z173:=Tryz.sizeOf233
 v173:=Tryz.zeroValue233
 t175:=Tryz.underlying185
 a175:=Tryz.isAgg185
 z175:=Tryz.sizeOf185
 v175:=Tryz.zeroValue185
 t210:=Tryz.underlying237
 a210:=Tryz.isAgg237
 z210:=Tryz.sizeOf237
 v210:=Tryz.zeroValue237
 t212:=Tryz.underlying248
 a212:=Tryz.isAgg248
 z212:=Tryz.sizeOf248
 v212:=Tryz.zeroValue248
 t213:=Tryz.underlying249
 a213:=Tryz.isAgg249
 z213:=Tryz.sizeOf249
 t232:=Tryz.underlying272
 a232:=Tryz.isAgg272
 z232:=Tryz.sizeOf272
 v232:=Tryz.zeroValue272
 t233:=Tryz.underlying239
 a233:=Tryz.isAgg239
 z233:=Tryz.sizeOf239
 v233:=Tryz.zeroValue239
 g15:=by kernel_rfl
 g16:=by kernel_rfl
 g17:=by kernel_rfl
 g18:=by kernel_rfl
 g19:=by kernel_rfl
 t80:=Tryz.underlying112
 a80:=Tryz.isAgg112
 z80:=Tryz.sizeOf112
 v80:=Tryz.zeroValue112
 i0:=by kernel_rfl
 i2:=by kernel_rfl
 i3:=by kernel_rfl
 i4:=by kernel_rfl
 i5:=by kernel_rfl
 i9:=by kernel_rfl
 i20:=by kernel_rfl
 i21:=by kernel_rfl
 i37:=by kernel_rfl
 i46:=by kernel_rfl
 i51:=by kernel_rfl
 i53:=by kernel_rfl
 i75:=by kernel_rfl
 i76:=by kernel_rfl
 i80:=by kernel_rfl
 i85:=by kernel_rfl
 i127:=by kernel_rfl
 i143:=by kernel_rfl
 i145:=by kernel_rfl
 i167:=by kernel_rfl
 i168:=by kernel_rfl
 i171:=by kernel_rfl
 i173:=by kernel_rfl
 i175:=by kernel_rfl
 i210:=by kernel_rfl
 i212:=by kernel_rfl
 i232:=by kernel_rfl
 i233:=by kernel_rfl
 m15:=by kernel_rfl
 m16:=by kernel_rfl
 m17:=by kernel_rfl
 m18:=by kernel_rfl
 m19:=by kernel_rfl
 c0:=by kernel_rfl
 c2:=by kernel_rfl
 c3:=by kernel_rfl
 c4:=by kernel_rfl
 c5:=by kernel_rfl
 c9:=by kernel_rfl
 c20:=by kernel_rfl
 c21:=by kernel_rfl
 c37:=by kernel_rfl
 c46:=by kernel_rfl
 c51:=by kernel_rfl
 c53:=by kernel_rfl
 c75:=by kernel_rfl
 c76:=by kernel_rfl
 c80:=by kernel_rfl
 c85:=by kernel_rfl
 c127:=by kernel_rfl
 c143:=by kernel_rfl
 c145:=by kernel_rfl
 c167:=by kernel_rfl
 c168:=by kernel_rfl
 c171:=by kernel_rfl
 c173:=by kernel_rfl
 c175:=by kernel_rfl
 c210:=by kernel_rfl
 c212:=by kernel_rfl
 c213:=by kernel_rfl
 c232:=by kernel_rfl
 c233:=by kernel_rfl }
open Go.RowKit in
theorem Tryz.strconv_Atoi_err (s:ByteArray) (hl:s.size≤18) (h:Lib.atoi s.data.toList=none) (ev:Value) (w:World) (hv:w.cell? ⟨4,0,none⟩=some ev) (hev:ev=.nilIface∨∃te pe,ev=.iface te pe) :
  Calls Tryz.prog 125 #[.string s] w fun e w'=>∃N,e=.returned (.tuple #[.int .i64 0,.iface 218 (.pointer (some ⟨N,0,none⟩))])∧w.heap.size≤N∧w'.heap[N]? = some (.cells #[.string ⟨#[65,116,111,105]⟩,.string s,ev] 237 (0,0))∧Below w.heap.size w w':=Any.strconv_Atoi_err Tryz.laysC172 s hl h ev w hv hev
def Tryz.lays217_ren:Go.Shelf.Ren:=⟨fun | 217=>45 | 266=>64 | n=>n,fun | 9=>9 | 5=>5 | 3=>3 | n=>n,fun | n=>n⟩
open Go.RowKit Go.Lib in
def Tryz.lays224_ren:Go.Shelf.Ren:=⟨fun | 224=>90 | n=>n,fun | 3=>3 | n=>n,fun | n=>n⟩
open Go.RowKit Go.Lib in
def Tryz.lays314_ren:Go.Shelf.Ren:=⟨fun | 314=>118 | n=>n,fun | 9=>9 | 51=>167 | 3=>3 | 4=>4 | 5=>5 | 46=>135 | n=>n,fun | n=>n⟩
open Go.RowKit Go.Lib in
def Tryz.lays267_ren:Go.Shelf.Ren:=⟨fun | 267=>91 | 314=>118 | n=>n,fun | 9=>9 | 3=>3 | 146=>168 | 51=>167 | 4=>4 | 5=>5 | 46=>135 | n=>n,fun | n=>n⟩
open Go.RowKit Go.Lib in
def Tryz.lays219_ren:Go.Shelf.Ren:=⟨fun | 219=>66 | 217=>45 | 225=>89 | 224=>90 | 267=>91 | 266=>64 | 314=>118 | n=>n,fun | 9=>9 | 3=>3 | 4=>4 | 5=>5 | 46=>135 | 146=>168 | 51=>167 | n=>n,fun | 1=>2 | n=>n⟩
open Go.RowKit Go.Lib in
open Go.RowKit Go.Lib in
def Tryz.lays143_ren:Go.Shelf.Ren:=⟨fun | 143=>47 | 219=>66 | 217=>45 | 225=>89 | 224=>90 | 267=>91 | 266=>64 | 314=>118 | n=>n,fun | 9=>9 | 3=>3 | 4=>4 | 5=>5 | 46=>135 | 146=>168 | 51=>167 | n=>n,fun | 1=>2 | n=>n⟩
theorem Tryz.lays143:Go.Proofs.Lays.n143 Tryz.prog Tryz.lays143_ren:={
 mixed:=by kernel_rfl
 f143:=Tryz.func47.trans (congrArg some (by kernel_rfl))
 f217:=Tryz.func45.trans (congrArg some (by kernel_rfl))
 f219:=Tryz.func66.trans (congrArg some (by kernel_rfl))
 f224:=Tryz.func90.trans (congrArg some (by kernel_rfl))
 f225:=Tryz.func89.trans (congrArg some (by kernel_rfl))
 f266:=Tryz.func64.trans (congrArg some (by kernel_rfl))
 f267:=Tryz.func91.trans (congrArg some (by kernel_rfl))
 f314:=Tryz.func118.trans (congrArg some (by kernel_rfl))
 t3:=Tryz.underlying3
 a3:=Tryz.isAgg3
 z3:=Tryz.sizeOf3
 v3:=Tryz.zeroValue3
 t4:=Tryz.underlying4
 a4:=Tryz.isAgg4
 z4:=Tryz.sizeOf4
 v4:=Tryz.zeroValue4
 t5:=Tryz.underlying5
 a5:=Tryz.isAgg5
 z5:=Tryz.sizeOf5
 v5:=Tryz.zeroValue5
 t9:=Tryz.underlying9
 a9:=Tryz.isAgg9
 z9:=Tryz.sizeOf9
 v9:=Tryz.zeroValue9
 t46:=Tryz.underlying135
 a46:=Tryz.isAgg135
 z46:=Tryz.sizeOf135
 v46:=Tryz.zeroValue135
 t51:=Tryz.underlying167
 a51:=Tryz.isAgg167
 z51:=Tryz.sizeOf167
 v51:=Tryz.zeroValue167
 t146:=Tryz.underlying168
 a146:=Tryz.isAgg168
 z146:=Tryz.sizeOf168
 v146:=Tryz.zeroValue168
 g1:=by kernel_rfl }
open Go.RowKit Go.Lib in
open Go.RowKit Go.Lib in
theorem Tryz.strings_Index (s sub:ByteArray) (m:Int) (w:World) (hs:s.size<4294967281) (hm:w.cell? ⟨2,0,none⟩=some (.int .i64 m)) :
  Calls Tryz.prog 47 #[.string s,.string sub] w fun e w'=>e=.returned (.int .i64 (Lib.index s.data.toList sub.data.toList))∧w'=w:=Any.strings_Index Tryz.lays143 s sub m w hs hm
def Tryz.lays220_ren:Go.Shelf.Ren:=⟨fun | 220=>151 | 219=>66 | 217=>45 | 225=>89 | 224=>90 | 267=>91 | 266=>64 | 314=>118 | n=>n,fun | 9=>9 | 4=>4 | 3=>3 | 5=>5 | 46=>135 | 146=>168 | 51=>167 | n=>n,fun | 1=>2 | n=>n⟩
open Go.RowKit Go.Lib in
def Tryz.lays145_ren:Go.Shelf.Ren:=⟨fun | 145=>130 | 220=>151 | 219=>66 | 217=>45 | 225=>89 | 224=>90 | 267=>91 | 266=>64 | 314=>118 | n=>n,fun | 9=>9 | 4=>4 | 59=>182 | 3=>3 | 5=>5 | 46=>135 | 146=>168 | 51=>167 | n=>n,fun | 1=>2 | n=>n⟩
open Go.RowKit Go.Lib in
def Tryz.laysM219_ren:Go.Shelf.Ren:=⟨fun | 219=>66 | 217=>45 | 225=>89 | 224=>90 | 267=>91 | 266=>64 | 314=>118 | n=>n,fun | 9=>9 | 3=>3 | 4=>4 | 5=>5 | 46=>135 | 146=>168 | 51=>167 | n=>n,fun | 1=>2 | n=>n⟩
open Go.RowKit Go.Lib in
def Tryz.laysM143_ren:Go.Shelf.Ren:=⟨fun | 143=>47 | 219=>66 | 217=>45 | 225=>89 | 224=>90 | 267=>91 | 266=>64 | 314=>118 | n=>n,fun | 9=>9 | 3=>3 | 4=>4 | 5=>5 | 46=>135 | 146=>168 | 51=>167 | n=>n,fun | 1=>2 | n=>n⟩
open Go.RowKit Go.Lib in
def Tryz.laysM220_ren:Go.Shelf.Ren:=⟨fun | 220=>151 | 219=>66 | 217=>45 | 225=>89 | 224=>90 | 267=>91 | 266=>64 | 314=>118 | n=>n,fun | 9=>9 | 4=>4 | 3=>3 | 5=>5 | 46=>135 | 146=>168 | 51=>167 | n=>n,fun | 1=>2 | n=>n⟩
open Go.RowKit Go.Lib in
def Tryz.laysM145_ren:Go.Shelf.Ren:=⟨fun | 145=>130 | 220=>151 | 219=>66 | 217=>45 | 225=>89 | 224=>90 | 267=>91 | 266=>64 | 314=>118 | n=>n,fun | 9=>9 | 4=>4 | 59=>182 | 3=>3 | 5=>5 | 46=>135 | 146=>168 | 51=>167 | n=>n,fun | 1=>2 | n=>n⟩
open Go.RowKit Go.Lib in
def Tryz.lays206_ren:Go.Shelf.Ren:=⟨fun | 206=>65 | n=>n,fun | 9=>9 | 4=>4 | 3=>3 | n=>n,fun | n=>n⟩
open Go.RowKit Go.Lib in
def Tryz.lays99_ren:Go.Shelf.Ren:=⟨fun | 99=>46 | 206=>65 | n=>n,fun | 9=>9 | 4=>4 | 3=>3 | n=>n,fun | n=>n⟩
open Go.RowKit Go.Lib in
def Tryz.lays208_ren:Go.Shelf.Ren:=⟨fun | 208=>148 | 206=>65 | n=>n,fun | 9=>9 | 4=>4 | 3=>3 | n=>n,fun | n=>n⟩
open Go.RowKit Go.Lib in
def Tryz.lays101_ren:Go.Shelf.Ren:=⟨fun | 101=>126 | 208=>148 | 206=>65 | n=>n,fun | 9=>9 | 4=>4 | 3=>3 | n=>n,fun | n=>n⟩
theorem Tryz.lays101:Go.Proofs.Lays.n101 Tryz.prog Tryz.lays101_ren:={
 mixed:=by kernel_rfl
 f101:=Tryz.func126.trans (congrArg some (by kernel_rfl))
 f206:=Tryz.func65.trans (congrArg some (by kernel_rfl))
 f208:=Tryz.func148.trans (congrArg some (by kernel_rfl))
 t3:=Tryz.underlying3
 a3:=Tryz.isAgg3
 z3:=Tryz.sizeOf3
 v3:=Tryz.zeroValue3
 t4:=Tryz.underlying4
 a4:=Tryz.isAgg4
 z4:=Tryz.sizeOf4
 v4:=Tryz.zeroValue4
 t9:=Tryz.underlying9
 a9:=Tryz.isAgg9
 z9:=Tryz.sizeOf9
 v9:=Tryz.zeroValue9 }
open Go.RowKit Go.Lib in
theorem Tryz.strings_TrimPrefix (s p:ByteArray) (w:World) :
  Calls Tryz.prog 126 #[.string s,.string p] w fun e w'=>e=.returned (.string ⟨(Lib.trimPrefix s.data.toList p.data.toList).toArray⟩)∧w'=w:=Any.strings_TrimPrefix Tryz.lays101 s p w
def Tryz.lays197_ren:Go.Shelf.Ren:=⟨fun | 197=>44 | 260=>63 | n=>n,fun | 9=>9 | 21=>21 | 3=>3 | 4=>4 | 5=>5 | 105=>88 | 119=>134 | 0=>0 | 46=>135 | 139=>138 | 138=>137 | n=>n,fun | 3=>0 | 4=>1 | n=>n⟩
theorem Tryz.lays197:Go.Proofs.Lays.n197 Tryz.prog Tryz.lays197_ren:={
 mixed:=by kernel_rfl
 f197:=Tryz.func44.trans (congrArg some (by kernel_rfl))
 f260:=Tryz.func63.trans (congrArg some (by kernel_rfl))
 t0:=Tryz.underlying0
 a0:=Tryz.isAgg0
 z0:=Tryz.sizeOf0
 v0:=Tryz.zeroValue0
 t3:=Tryz.underlying3
 a3:=Tryz.isAgg3
 z3:=Tryz.sizeOf3
 v3:=Tryz.zeroValue3
 t4:=Tryz.underlying4
 a4:=Tryz.isAgg4
 z4:=Tryz.sizeOf4
 v4:=Tryz.zeroValue4
 t5:=Tryz.underlying5
 a5:=Tryz.isAgg5
 z5:=Tryz.sizeOf5
 v5:=Tryz.zeroValue5
 t9:=Tryz.underlying9
 a9:=Tryz.isAgg9
 z9:=Tryz.sizeOf9
 v9:=Tryz.zeroValue9
 t21:=Tryz.underlying21
 a21:=Tryz.isAgg21
 z21:=Tryz.sizeOf21
 v21:=Tryz.zeroValue21
 t46:=Tryz.underlying135
 a46:=Tryz.isAgg135
 z46:=Tryz.sizeOf135
 v46:=Tryz.zeroValue135
 t105:=Tryz.underlying88
 a105:=Tryz.isAgg88
 z105:=Tryz.sizeOf88
 v105:=Tryz.zeroValue88
 t119:=Tryz.underlying134
 a119:=Tryz.isAgg134
 z119:=Tryz.sizeOf134
 t138:=Tryz.underlying137
 a138:=Tryz.isAgg137
 z138:=Tryz.sizeOf137
 v138:=Tryz.zeroValue137
 t139:=Tryz.underlying138
 a139:=Tryz.isAgg138
 z139:=Tryz.sizeOf138
 v139:=Tryz.zeroValue138
 g3:=by kernel_rfl
 g4:=by kernel_rfl }
open Go.RowKit Go.Lib in
def Tryz.lays152_ren:Go.Shelf.Ren:=⟨fun | 152=>96 | 137=>23 | 119=>121 | 224=>90 | 225=>89 | 217=>45 | 266=>64 | n=>n,fun | 9=>9 | 21=>21 | 3=>3 | 4=>4 | 5=>5 | 0=>0 | 46=>135 | n=>n,fun | n=>n⟩
open Go.RowKit Go.Lib in
def Tryz.lays151_ren:Go.Shelf.Ren:=⟨fun | 151=>202 | 152=>96 | 137=>23 | 119=>121 | 224=>90 | 225=>89 | 217=>45 | 266=>64 | n=>n,fun | 9=>9 | 21=>21 | 4=>4 | 3=>3 | 5=>5 | 0=>0 | 46=>135 | n=>n,fun | n=>n⟩
open Go.RowKit Go.Lib in
def Tryz.lays226_ren:Go.Shelf.Ren:=⟨fun | 226=>97 | n=>n,fun | 3=>3 | 4=>4 | n=>n,fun | n=>n⟩
open Go.RowKit Go.Lib in
def Tryz.lays153_ren:Go.Shelf.Ren:=⟨fun | 153=>75 | 152=>96 | 226=>97 | 227=>98 | 228=>99 | 137=>23 | 119=>121 | 224=>90 | 225=>89 | 217=>45 | 266=>64 | n=>n,fun | 9=>9 | 3=>3 | 4=>4 | 5=>5 | 21=>21 | 117=>146 | 116=>145 | 0=>0 | 46=>135 | 124=>173 | n=>n,fun | n=>n⟩
open Go.RowKit Go.Lib in
open Go.RowKit Go.Lib in
open Go.RowKit Go.Lib in
def Tryz.lays227_ren:Go.Shelf.Ren:=⟨fun | 227=>98 | n=>n,fun | 9=>9 | 116=>145 | 4=>4 | 0=>0 | 3=>3 | 5=>5 | n=>n,fun | n=>n⟩
open Go.RowKit Go.Lib in
def Tryz.lays228_ren:Go.Shelf.Ren:=⟨fun | 228=>99 | n=>n,fun | 124=>173 | 5=>5 | 4=>4 | 0=>0 | 116=>145 | n=>n,fun | n=>n⟩
open Go.RowKit Go.Lib in
open Go.RowKit Go.Lib in
open Go.RowKit Go.Lib in
def Tryz.lays150_ren:Go.Shelf.Ren:=⟨fun | 150=>53 | 153=>75 | 152=>96 | 226=>97 | 227=>98 | 228=>99 | 137=>23 | 119=>121 | 224=>90 | 225=>89 | 217=>45 | 266=>64 | n=>n,fun | 9=>9 | 4=>4 | 3=>3 | 5=>5 | 21=>21 | 117=>146 | 116=>145 | 0=>0 | 46=>135 | 124=>173 | n=>n,fun | n=>n⟩
theorem Tryz.lays150:Go.Proofs.Lays.n150 Tryz.prog Tryz.lays150_ren:={
 mixed:=by kernel_rfl
 f119:=Tryz.func121.trans (congrArg some (by kernel_rfl))
 f137:=Tryz.func23.trans (congrArg some (by kernel_rfl))
 f150:=Tryz.func53.trans (congrArg some (by kernel_rfl))
 f152:=Tryz.func96.trans (congrArg some (by kernel_rfl))
 f153:=Tryz.func75.trans (congrArg some (by kernel_rfl))
 f217:=Tryz.func45.trans (congrArg some (by kernel_rfl))
 f224:=Tryz.func90.trans (congrArg some (by kernel_rfl))
 f225:=Tryz.func89.trans (congrArg some (by kernel_rfl))
 f226:=Tryz.func97.trans (congrArg some (by kernel_rfl))
 f227:=Tryz.func98.trans (congrArg some (by kernel_rfl))
 f228:=Tryz.func99.trans (congrArg some (by kernel_rfl))
 f266:=Tryz.func64.trans (congrArg some (by kernel_rfl))
 t0:=Tryz.underlying0
 a0:=Tryz.isAgg0
 z0:=Tryz.sizeOf0
 v0:=Tryz.zeroValue0
 t3:=Tryz.underlying3
 a3:=Tryz.isAgg3
 z3:=Tryz.sizeOf3
 v3:=Tryz.zeroValue3
 t4:=Tryz.underlying4
 a4:=Tryz.isAgg4
 z4:=Tryz.sizeOf4
 v4:=Tryz.zeroValue4
 t5:=Tryz.underlying5
 a5:=Tryz.isAgg5
 z5:=Tryz.sizeOf5
 v5:=Tryz.zeroValue5
 t9:=Tryz.underlying9
 a9:=Tryz.isAgg9
 z9:=Tryz.sizeOf9
 v9:=Tryz.zeroValue9
 t21:=Tryz.underlying21
 a21:=Tryz.isAgg21
 z21:=Tryz.sizeOf21
 v21:=Tryz.zeroValue21
 t46:=Tryz.underlying135
 a46:=Tryz.isAgg135
 z46:=Tryz.sizeOf135
 v46:=Tryz.zeroValue135
 t116:=Tryz.underlying145
 a116:=Tryz.isAgg145
 z116:=Tryz.sizeOf145
 t117:=Tryz.underlying146
 a117:=Tryz.isAgg146
 z117:=Tryz.sizeOf146
 v117:=Tryz.zeroValue146
 t124:=Tryz.underlying173
 a124:=Tryz.isAgg173
 z124:=Tryz.sizeOf173
 v124:=Tryz.zeroValue173 }
open Go.RowKit Go.Lib in
open Go.RowKit Go.Lib in
open Go.RowKit Go.Lib in
theorem Tryz.strings_ContainsAny_laid (s chars:ByteArray) (w:World) (hs:s.size<4294967281) (hcs:chars.size<4294967281) (has:∀(j:Nat) b,s.data.toList[j]? = some b→b.toNat<128) (hac:∀(j:Nat) b,chars.data.toList[j]? = some b→b.toNat<128) :
  Calls Tryz.prog 53 #[.string s,.string chars] w fun e w'=>e=.returned (.bool (Lib.containsAny s.data.toList chars.data.toList))∧Below w.heap.size w w':=Any.strings_ContainsAny_laid Tryz.lays150 (by kernel_rfl) s chars w hs hcs has hac
def Tryz.lays264_ren:Go.Shelf.Ren:=⟨fun | 264=>213 | n=>n,fun | 53=>184 | 46=>135 | n=>n,fun | n=>n⟩
open Go.RowKit Go.Lib in
def Tryz.lays212_ren:Go.Shelf.Ren:=⟨fun | 212=>197 | 263=>212 | 264=>213 | n=>n,fun | 46=>135 | 51=>167 | 146=>168 | 53=>184 | 148=>254 | n=>n,fun | n=>n⟩
open Go.RowKit Go.Lib in
def Tryz.lays260_ren:Go.Shelf.Ren:=⟨fun | 260=>63 | n=>n,fun | 9=>9 | 21=>21 | 3=>3 | 4=>4 | 5=>5 | 119=>134 | 0=>0 | 46=>135 | 139=>138 | 138=>137 | n=>n,fun | 3=>0 | 4=>1 | n=>n⟩
theorem Tryz.lays260:Go.Proofs.Lays.n260 Tryz.prog Tryz.lays260_ren:={
 mixed:=by kernel_rfl
 f260:=Tryz.func63.trans (congrArg some (by kernel_rfl))
 t0:=Tryz.underlying0
 a0:=Tryz.isAgg0
 z0:=Tryz.sizeOf0
 v0:=Tryz.zeroValue0
 t3:=Tryz.underlying3
 a3:=Tryz.isAgg3
 z3:=Tryz.sizeOf3
 v3:=Tryz.zeroValue3
 t4:=Tryz.underlying4
 a4:=Tryz.isAgg4
 z4:=Tryz.sizeOf4
 v4:=Tryz.zeroValue4
 t5:=Tryz.underlying5
 a5:=Tryz.isAgg5
 z5:=Tryz.sizeOf5
 v5:=Tryz.zeroValue5
 t9:=Tryz.underlying9
 a9:=Tryz.isAgg9
 z9:=Tryz.sizeOf9
 v9:=Tryz.zeroValue9
 t21:=Tryz.underlying21
 a21:=Tryz.isAgg21
 z21:=Tryz.sizeOf21
 v21:=Tryz.zeroValue21
 t46:=Tryz.underlying135
 a46:=Tryz.isAgg135
 z46:=Tryz.sizeOf135
 v46:=Tryz.zeroValue135
 t119:=Tryz.underlying134
 a119:=Tryz.isAgg134
 z119:=Tryz.sizeOf134
 t138:=Tryz.underlying137
 a138:=Tryz.isAgg137
 z138:=Tryz.sizeOf137
 v138:=Tryz.zeroValue137
 t139:=Tryz.underlying138
 a139:=Tryz.isAgg138
 z139:=Tryz.sizeOf138
 v139:=Tryz.zeroValue138
 g3:=by kernel_rfl
 g4:=by kernel_rfl }
open Go.RowKit Go.Lib in
open Go.RowKit Go.Lib in
theorem Tryz.utf8_DecodeRuneInString (s:ByteArray) (w:World) (hT:Lib.Utf8Tabs 0 1 w) :
  Calls Tryz.prog 44 #[.string s] w fun e w'=>e=.returned (.tuple #[.int .i32 (Lib.decodeGo s).1,.int .i64 (Lib.decodeGo s).2])∧Below w.heap.size w w':=Any.utf8_DecodeRuneInString Tryz.lays197 s w hT
end Go.Proofs
