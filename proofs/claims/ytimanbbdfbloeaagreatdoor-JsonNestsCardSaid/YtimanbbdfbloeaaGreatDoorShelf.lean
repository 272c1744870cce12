/-
 DERIVED: THE SHELF's CONTRACTS AT THIS DUMP, IN PLAIN WORDS (tools/lay-plain.mjs out of 'TryzShelf.lean', which tools/lay-shelf.mjs wrote): THE SAME DECLARATIONS UNDER THE SAME NAMES: 'import', 'namespace', 'open', 'def', 'theorem' AND NOTHING ELSE: no command of the shelf's: FOR A HAND-IN. Each laying: the table of numbers ('.._ren') and one theorem, a field a fact of the dump's own or the kernel's comparison; each contract: ONE APPLICATION.
-/
import Derived.Shelf.Strings.Builder1
import Derived.Shelf.Strings.Builder2
import Derived.Shelf.Small.Utf8
import Derived.Shelf.Small.Strs
import Derived.Shelf.Strings.BuilderF
import Derived.Shelf.Strings.BuilderK
import Derived.Shelf.Strings.BuilderRune
import Derived.Shelf.Utf8.AppendRune
import Derived.Shelf.Utf8.AppendRunePlain
import Derived.Shelf.Strings.Builder2Cap
import Derived.Shelf.Strconv.Atoi
import Derived.Shelf.Strconv.Itoa0
import Derived.Shelf.Strconv.Itoa1
import Derived.Shelf.LaysM
import Derived.Shelf.Strconv.Itoa2
import Derived.Shelf.Strconv.Itoa3
import Derived.Shelf.Strconv.AtoiErrFast
import Derived.Shelf.Strconv.ParseIntEmpty
import Derived.Shelf.Strconv.AtoiFail
import Derived.Shelf.Strconv.Clone
import Derived.Shelf.Strconv.SyntaxError
import Derived.Shelf.LaysC
import Derived.Shelf.Strconv.ToError
import Derived.Shelf.Strconv.AtoiErr
import Derived.Shelf.Strconv.ErrVar
import Derived.Shelf.Strings.Search1
import Derived.Shelf.Strings.Search2
import Derived.Shelf.Strings.Search3
import Derived.Shelf.Strings.Cut
import Derived.Shelf.Strings.Shaped
import Derived.Shelf.Strings.Prefix
import Derived.Shelf.Unicode.Decode
import Derived.Shelf.Strings.Runes
import Derived.Shelf.Strings.IndexAny
import Derived.Shelf.Strings.AsciiSet
import Derived.Shelf.Strings.IndexAnyAll
import Derived.Shelf.Bits.Mul64
import Derived.Shelf.Unicode.DecodeSlow
import Derived.Shelf.Unicode.DecodeAny
import Derived.Shelf.Strings.BuilderCap
import Derived.Test.YtimanbbdfbloeaaGreatDoorProg
namespace Go.Proofs
open Go.Shelf
def Tryz.lays170_ren : Go.Shelf.Ren := ⟨fun | 170 => 165 | n => n, fun | 70 => 98 | 3 => 3 | 0 => 0 | 72 => 101 | 37 => 99 | 5 => 5 | n => n, fun | n => n⟩
open Go.RowKit in
def Tryz.lays169_ren : Go.Shelf.Ren := ⟨fun | 169 => 53 | n => n, fun | 70 => 98 | 9 => 9 | 0 => 0 | 72 => 101 | 37 => 99 | 127 => 126 | 3 => 3 | 5 => 5 | n => n, fun | n => n⟩
theorem Tryz.lays169 : Go.Proofs.Lays.n169 Tryz.prog Tryz.lays169_ren := {
 mixed := by kernel_rfl
 f169 := Tryz.func53.trans (congrArg some (by kernel_rfl))
 t0 := Tryz.underlying0
 a0 := Tryz.isAgg0
 z0 := Tryz.sizeOf0
 v0 := Tryz.zeroValue0
 t3 := Tryz.underlying3
 a3 := Tryz.isAgg3
 z3 := Tryz.sizeOf3
 v3 := Tryz.zeroValue3
 t9 := Tryz.underlying9
 a9 := Tryz.isAgg9
 z9 := Tryz.sizeOf9
 v9 := Tryz.zeroValue9
 t37 := Tryz.underlying99
 a37 := Tryz.isAgg99
 z37 := Tryz.sizeOf99
 v37 := Tryz.zeroValue99
 t70 := Tryz.underlying98
 a70 := Tryz.isAgg98
 z70 := Tryz.sizeOf98
 v70 := Tryz.zeroValue98
 t72 := Tryz.underlying101
 a72 := Tryz.isAgg101
 z72 := Tryz.sizeOf101
 v72 := Tryz.zeroValue101
 t127 := Tryz.underlying126
 a127 := Tryz.isAgg126
 z127 := Tryz.sizeOf126
 v127 := Tryz.zeroValue126 }
theorem Tryz.Builder_Extra_169 : Builder.Extra Tryz.prog Tryz.lays169_ren := {
 sizeBuilder := by kernel_rfl
 liesBuilder := by kernel_rfl
 t5 := Tryz.underlying5
 a5 := Tryz.isAgg5
 z5 := Tryz.sizeOf5
 v5 := Tryz.zeroValue5
 infoByte := by kernel_rfl
 cellsByte := by kernel_rfl
 sizeByte := by kernel_rfl
 neB5 := by decide }
open Go.RowKit in
open Go.RowKit in
open Go.RowKit in
def Tryz.lays241_ren : Go.Shelf.Ren := ⟨fun | 241 => 174 | 277 => 177 | n => n, fun | 70 => 98 | 3 => 3 | 0 => 0 | 72 => 101 | 37 => 99 | 5 => 5 | n => n, fun | n => n⟩
open Go.RowKit in
def Tryz.lays165_ren : Go.Shelf.Ren := ⟨fun | 165 => 163 | 240 => 73 | 241 => 174 | 276 => 94 | 277 => 177 | n => n, fun | 70 => 98 | 3 => 3 | 0 => 0 | 4 => 4 | 9 => 9 | 20 => 20 | 72 => 101 | 37 => 99 | 164 => 152 | 5 => 5 | n => n, fun | n => n⟩
open Go.RowKit in
def Tryz.lays118_ren : Go.Shelf.Ren := ⟨fun | 118 => 52 | n => n, fun | 21 => 21 | 3 => 3 | 4 => 4 | n => n, fun | n => n⟩
theorem Tryz.lays118 : Go.Proofs.Lays.n118 Tryz.prog Tryz.lays118_ren := {
 mixed := by kernel_rfl
 f118 := Tryz.func52.trans (congrArg some (by kernel_rfl))
 t3 := Tryz.underlying3
 a3 := Tryz.isAgg3
 z3 := Tryz.sizeOf3
 v3 := Tryz.zeroValue3
 t4 := Tryz.underlying4
 a4 := Tryz.isAgg4
 z4 := Tryz.sizeOf4
 v4 := Tryz.zeroValue4
 t21 := Tryz.underlying21
 a21 := Tryz.isAgg21
 z21 := Tryz.sizeOf21
 v21 := Tryz.zeroValue21 }
theorem Tryz.utf8_RuneLen (r : Int) (w : World) :
  Calls Tryz.prog 52 #[.int .i32 r] w fun e w' => e = .returned (.int .i64 (Lib.runeLen r)) ∧ w' = w := Any.utf8_RuneLen Tryz.lays118 r w
def Tryz.lays119_ren : Go.Shelf.Ren := ⟨fun | 119 => 96 | n => n, fun | 21 => 21 | 4 => 4 | n => n, fun | n => n⟩
def Tryz.lays120_ren : Go.Shelf.Ren := ⟨fun | 120 => 175 | n => n, fun | 5 => 5 | 4 => 4 | n => n, fun | n => n⟩
def Tryz.lays137_ren : Go.Shelf.Ren := ⟨fun | 137 => 15 | 217 => 32 | 266 => 49 | n => n, fun | 9 => 9 | 5 => 5 | 3 => 3 | n => n, fun | n => n⟩
theorem Tryz.lays137 : Go.Proofs.Lays.n137 Tryz.prog Tryz.lays137_ren := {
 mixed := by kernel_rfl
 f137 := Tryz.func15.trans (congrArg some (by kernel_rfl))
 f217 := Tryz.func32.trans (congrArg some (by kernel_rfl))
 f266 := Tryz.func49.trans (congrArg some (by kernel_rfl))
 t3 := Tryz.underlying3
 a3 := Tryz.isAgg3
 z3 := Tryz.sizeOf3
 v3 := Tryz.zeroValue3
 t5 := Tryz.underlying5
 a5 := Tryz.isAgg5
 z5 := Tryz.sizeOf5
 v5 := Tryz.zeroValue5
 t9 := Tryz.underlying9
 a9 := Tryz.isAgg9
 z9 := Tryz.sizeOf9
 v9 := Tryz.zeroValue9 }
open Go.RowKit in
theorem Tryz.strings_IndexByte (s : ByteArray) (c : Int) (w : World) :
  Calls Tryz.prog 15 #[.string s, .int .u8 c] w fun e w' => e = .returned (.int .i64 (Lib.indexByte s.data.toList c.toNat.toUInt8)) ∧ w' = w := Any.strings_IndexByte Tryz.lays137 s c w
open Go.RowKit in
open Go.RowKit in
open Go.RowKit in
open Go.RowKit in
open Go.RowKit in
open Go.RowKit in
open Go.RowKit in
theorem Tryz.Builder_String_any_k (B b : Nat) (l : List UInt8) (w : World) (h : Lib.IsBuilderF 101 5 B b (Lib.byteCells l) w) (hBw : B ≤ w.heap.size) :
  Calls Tryz.prog 53 #[.pointer (some ⟨b, 0, none⟩)] w fun e w' => e = .returned (.string ⟨l.toArray⟩) ∧ (Lib.IsBuilderF 101 5 B b (Lib.byteCells l) w' ∧ Below B w w' ∧ Lib.OthersKept 5 (some b) w w') := Any.Builder_String_any_k Tryz.lays169 Tryz.Builder_Extra_169 B b l w h hBw
def Tryz.lays278_ren : Go.Shelf.Ren := ⟨fun | 278 => 95 | n => n, fun | 37 => 99 | 21 => 21 | 51 => 149 | 4 => 4 | 46 => 121 | 5 => 5 | n => n, fun | n => n⟩
open Go.RowKit in
def Tryz.lays242_ren : Go.Shelf.Ren := ⟨fun | 242 => 74 | 278 => 95 | n => n, fun | 37 => 99 | 21 => 21 | 51 => 149 | 4 => 4 | 5 => 5 | 46 => 121 | n => n, fun | n => n⟩
theorem Tryz.lays242 : Go.Proofs.Lays.n242 Tryz.prog Tryz.lays242_ren := {
 mixed := by kernel_rfl
 f242 := Tryz.func74.trans (congrArg some (by kernel_rfl))
 f278 := Tryz.func95.trans (congrArg some (by kernel_rfl))
 t4 := Tryz.underlying4
 a4 := Tryz.isAgg4
 z4 := Tryz.sizeOf4
 v4 := Tryz.zeroValue4
 t5 := Tryz.underlying5
 a5 := Tryz.isAgg5
 z5 := Tryz.sizeOf5
 v5 := Tryz.zeroValue5
 t21 := Tryz.underlying21
 a21 := Tryz.isAgg21
 z21 := Tryz.sizeOf21
 v21 := Tryz.zeroValue21
 t37 := Tryz.underlying99
 a37 := Tryz.isAgg99
 z37 := Tryz.sizeOf99
 v37 := Tryz.zeroValue99
 t46 := Tryz.underlying121
 a46 := Tryz.isAgg121
 z46 := Tryz.sizeOf121
 v46 := Tryz.zeroValue121
 t51 := Tryz.underlying149
 a51 := Tryz.isAgg149
 z51 := Tryz.sizeOf149
 v51 := Tryz.zeroValue149 }
open Go.RowKit in
theorem Tryz.utf8_AppendRune_row (B : Nat) (v : Value) (n : Nat) (xs : List Value) (r : Int) (hr0 : -2147483648 ≤ r) (hr1 : r ≤ 2147483647) (w : World) (hown : w.ownsRowF B 5 1 v n xs) (hlen : n + 4 ≤ 140737488355328) (hBw : B ≤ w.heap.size) :
  Calls Tryz.prog 74 #[v, .int .i32 r] w fun e w' => ∃ v', e = .returned v' ∧ w'.ownsRowF B 5 1 v' (n + (Lib.runeCells r).length) (xs ++ Lib.runeCells r) ∧ ∃ o, (w.alloc o).grownBy w' v.ownBlock := Any.utf8_AppendRune_row Tryz.lays242 (by kernel_rfl) B v n xs r hr0 hr1 w hown hlen hBw
open Go.RowKit in
open Go.RowKit in
open Go.RowKit in
open Go.RowKit in
def Tryz.lays244_ren : Go.Shelf.Ren := ⟨fun | 244 => 119 | 247 => 139 | 287 => 125 | 321 => 144 | 322 => 145 | n => n, fun | 9 => 9 | 3 => 3 | 75 => 107 | 4 => 4 | 5 => 5 | 167 => 191 | 37 => 99 | 0 => 0 | 85 => 192 | 2 => 2 | 53 => 166 | 175 => 167 | 46 => 121 | 21 => 21 | 80 => 103 | n => n, fun | n => n⟩
open Go.RowKit in
def Tryz.lays172_ren : Go.Shelf.Ren := ⟨fun | 172 => 100 | 244 => 119 | 245 => 120 | 247 => 139 | 279 => 140 | 280 => 141 | 281 => 142 | 282 => 143 | 287 => 125 | 316 => 160 | 171 => 98 | 205 => 161 | 321 => 144 | 322 => 145 | 243 => 118 | 246 => 138 | 283 => 156 | 284 => 157 | 285 => 158 | 286 => 159 | 129 => 126 | 317 => 168 | 318 => 169 | 319 => 170 | 320 => 171 | 337 => 176 | 338 => 149 | n => n, fun | 9 => 9 | 3 => 3 | 75 => 107 | 76 => 108 | 4 => 4 | 5 => 5 | 167 => 191 | 37 => 99 | 0 => 0 | 85 => 192 | 2 => 2 | 168 => 194 | 53 => 166 | 175 => 167 | 46 => 121 | 210 => 211 | 127 => 126 | 145 => 223 | 143 => 221 | 21 => 21 | 171 => 205 | 173 => 207 | 212 => 218 | 51 => 149 | 20 => 20 | 213 => 219 | 232 => 229 | 233 => 213 | 80 => 103 | n => n, fun | 15 => 4 | 16 => 5 | 17 => 7 | 18 => 8 | 19 => 6 | n => n⟩
theorem Tryz.lays172 : Go.Proofs.Lays.n172 Tryz.prog Tryz.lays172_ren := {
 mixed := by kernel_rfl
 f129 := Tryz.func126.trans (congrArg some (by kernel_rfl))
 f171 := Tryz.func98.trans (congrArg some (by kernel_rfl))
 f172 := Tryz.func100.trans (congrArg some (by kernel_rfl))
 f205 := Tryz.func161.trans (congrArg some (by kernel_rfl))
 f243 := Tryz.func118.trans (congrArg some (by kernel_rfl))
 f244 := Tryz.func119.trans (congrArg some (by kernel_rfl))
 f245 := Tryz.func120.trans (congrArg some (by kernel_rfl))
 f246 := Tryz.func138.trans (congrArg some (by kernel_rfl))
 f247 := Tryz.func139.trans (congrArg some (by kernel_rfl))
 f279 := Tryz.func140.trans (congrArg some (by kernel_rfl))
 f280 := Tryz.func141.trans (congrArg some (by kernel_rfl))
 f281 := Tryz.func142.trans (congrArg some (by kernel_rfl))
 f282 := Tryz.func143.trans (congrArg some (by kernel_rfl))
 f283 := Tryz.func156.trans (congrArg some (by kernel_rfl))
 f284 := Tryz.func157.trans (congrArg some (by kernel_rfl))
 f285 := Tryz.func158.trans (congrArg some (by kernel_rfl))
 f286 := Tryz.func159.trans (congrArg some (by kernel_rfl))
 f287 := Tryz.func125.trans (congrArg some (by kernel_rfl))
 f316 := Tryz.func160.trans (congrArg some (by kernel_rfl))
 f317 := Tryz.func168.trans (congrArg some (by kernel_rfl))
 f318 := Tryz.func169.trans (congrArg some (by kernel_rfl))
 f319 := Tryz.func170.trans (congrArg some (by kernel_rfl))
 f320 := Tryz.func171.trans (congrArg some (by kernel_rfl))
 f321 := Tryz.func144.trans (congrArg some (by kernel_rfl))
 f322 := Tryz.func145.trans (congrArg some (by kernel_rfl))
 f337 := Tryz.func176.trans (congrArg some (by kernel_rfl))
 f338 := Tryz.func149.trans (congrArg some (by kernel_rfl))
 t0 := Tryz.underlying0
 a0 := Tryz.isAgg0
 z0 := Tryz.sizeOf0
 v0 := Tryz.zeroValue0
 t2 := Tryz.underlying2
 a2 := Tryz.isAgg2
 z2 := Tryz.sizeOf2
 v2 := Tryz.zeroValue2
 t3 := Tryz.underlying3
 a3 := Tryz.isAgg3
 z3 := Tryz.sizeOf3
 v3 := Tryz.zeroValue3
 t4 := Tryz.underlying4
 a4 := Tryz.isAgg4
 z4 := Tryz.sizeOf4
 v4 := Tryz.zeroValue4
 t5 := Tryz.underlying5
 a5 := Tryz.isAgg5
 z5 := Tryz.sizeOf5
 v5 := Tryz.zeroValue5
 t9 := Tryz.underlying9
 a9 := Tryz.isAgg9
 z9 := Tryz.sizeOf9
 v9 := Tryz.zeroValue9
 t20 := Tryz.underlying20
 a20 := Tryz.isAgg20
 z20 := Tryz.sizeOf20
 v20 := Tryz.zeroValue20
 t21 := Tryz.underlying21
 a21 := Tryz.isAgg21
 z21 := Tryz.sizeOf21
 v21 := Tryz.zeroValue21
 t37 := Tryz.underlying99
 a37 := Tryz.isAgg99
 z37 := Tryz.sizeOf99
 v37 := Tryz.zeroValue99
 t46 := Tryz.underlying121
 a46 := Tryz.isAgg121
 z46 := Tryz.sizeOf121
 v46 := Tryz.zeroValue121
 t51 := Tryz.underlying149
 a51 := Tryz.isAgg149
 z51 := Tryz.sizeOf149
 v51 := Tryz.zeroValue149
 t53 := Tryz.underlying166
 a53 := Tryz.isAgg166
 z53 := Tryz.sizeOf166
 v53 := Tryz.zeroValue166
 t75 := Tryz.underlying107
 a75 := Tryz.isAgg107
 z75 := Tryz.sizeOf107
 v75 := Tryz.zeroValue107
 t76 := Tryz.underlying108
 a76 := Tryz.isAgg108
 z76 := Tryz.sizeOf108
 v76 := Tryz.zeroValue108
 t85 := Tryz.underlying192
 a85 := Tryz.isAgg192
 z85 := Tryz.sizeOf192
 v85 := Tryz.zeroValue192
 t127 := Tryz.underlying126
 a127 := Tryz.isAgg126
 z127 := Tryz.sizeOf126
 v127 := Tryz.zeroValue126
 t143 := Tryz.underlying221
 a143 := Tryz.isAgg221
 z143 := Tryz.sizeOf221
 v143 := Tryz.zeroValue221
 t145 := Tryz.underlying223
 a145 := Tryz.isAgg223
 z145 := Tryz.sizeOf223
 v145 := Tryz.zeroValue223
 t167 := Tryz.underlying191
 a167 := Tryz.isAgg191
 z167 := Tryz.sizeOf191
 v167 := Tryz.zeroValue191
 t168 := Tryz.underlying194
 a168 := Tryz.isAgg194
 z168 := Tryz.sizeOf194
 v168 := Tryz.zeroValue194
 t171 := Tryz.underlying205
 a171 := Tryz.isAgg205
 z171 := Tryz.sizeOf205
 v171 := Tryz.zeroValue205
 t173 := Tryz.underlying207
 a173 := Tryz.isAgg207
 z173 := Tryz.sizeOf207
 v173 := Tryz.zeroValue207
 t175 := Tryz.underlying167
 a175 := Tryz.isAgg167
 z175 := Tryz.sizeOf167
 v175 := Tryz.zeroValue167
 t210 := Tryz.underlying211
 a210 := Tryz.isAgg211
 z210 := Tryz.sizeOf211
 v210 := Tryz.zeroValue211
 t212 := Tryz.underlying218
 a212 := Tryz.isAgg218
 z212 := Tryz.sizeOf218
 v212 := Tryz.zeroValue218
 t213 := Tryz.underlying219
 a213 := Tryz.isAgg219
 z213 := Tryz.sizeOf219
 t232 := Tryz.underlying229
 a232 := Tryz.isAgg229
 z232 := Tryz.sizeOf229
 v232 := Tryz.zeroValue229
 t233 := Tryz.underlying213
 a233 := Tryz.isAgg213
 z233 := Tryz.sizeOf213
 v233 := Tryz.zeroValue213
 g15 := by kernel_rfl
 g16 := by kernel_rfl
 g17 := by kernel_rfl
 g18 := by kernel_rfl
 g19 := by kernel_rfl }
open Go.RowKit in
theorem Tryz.strconv_Atoi (s : ByteArray) (n : Int) (hl : s.size ≤ 18) (h : Lib.atoi s.data.toList = some n) (w : World) :
  Calls Tryz.prog 100 #[.string s] w fun e w' => e = .returned (.tuple #[.int .i64 n, .nilIface]) ∧ ∃ t, w' = Lib.bytesWorld w 5 t := Any.strconv_Atoi Tryz.lays172 s n hl h w
def Tryz.lays129_ren : Go.Shelf.Ren := ⟨fun | 129 => 126 | n => n, fun | 53 => 166 | 3 => 3 | 4 => 4 | 46 => 121 | 5 => 5 | 9 => 9 | n => n, fun | n => n⟩
def Tryz.lays317_ren : Go.Shelf.Ren := ⟨fun | 317 => 168 | n => n, fun | 3 => 3 | 46 => 121 | n => n, fun | n => n⟩
open Go.Lib in
def Tryz.lays318_ren : Go.Shelf.Ren := ⟨fun | 318 => 169 | n => n, fun | 3 => 3 | 4 => 4 | n => n, fun | n => n⟩
open Go.Lib in
def Tryz.lays283_ren : Go.Shelf.Ren := ⟨fun | 283 => 156 | n => n, fun | 3 => 3 | 9 => 9 | 4 => 4 | n => n, fun | n => n⟩
open Go.Lib in
def Tryz.laysM284_ren : Go.Shelf.Ren := ⟨fun | 284 => 157 | 129 => 126 | 317 => 168 | 318 => 169 | n => n, fun | 53 => 166 | 3 => 3 | 212 => 218 | 0 => 0 | 4 => 4 | 46 => 121 | 5 => 5 | 9 => 9 | n => n, fun | 17 => 7 | n => n⟩
open Go.Lib in
def Tryz.lays285_ren : Go.Shelf.Ren := ⟨fun | 285 => 158 | n => n, fun | 37 => 99 | 53 => 166 | 3 => 3 | 4 => 4 | 51 => 149 | 9 => 9 | 5 => 5 | 0 => 0 | n => n, fun | n => n⟩
open Go.RowKit Go.Sort Go.Lib in
def Tryz.laysM246_ren : Go.Shelf.Ren := ⟨fun | 246 => 138 | 283 => 156 | 284 => 157 | 285 => 158 | 286 => 159 | 129 => 126 | 317 => 168 | 318 => 169 | 319 => 170 | 320 => 171 | 337 => 176 | 338 => 149 | n => n, fun | 2 => 2 | 3 => 3 | 9 => 9 | 4 => 4 | 171 => 205 | 0 => 0 | 53 => 166 | 37 => 99 | 5 => 5 | 173 => 207 | 212 => 218 | 51 => 149 | 20 => 20 | 213 => 219 | 46 => 121 | 232 => 229 | 233 => 213 | n => n, fun | 17 => 7 | 18 => 8 | 19 => 6 | n => n⟩
open Go.RowKit Go.Sort Go.Lib in
def Tryz.lays246_ren : Go.Shelf.Ren := ⟨fun | 246 => 138 | 283 => 156 | 284 => 157 | 285 => 158 | 286 => 159 | 129 => 126 | 317 => 168 | 318 => 169 | 319 => 170 | 320 => 171 | 337 => 176 | 338 => 149 | n => n, fun | 2 => 2 | 3 => 3 | 9 => 9 | 4 => 4 | 171 => 205 | 0 => 0 | 53 => 166 | 37 => 99 | 5 => 5 | 173 => 207 | 212 => 218 | 51 => 149 | 20 => 20 | 213 => 219 | 46 => 121 | 232 => 229 | 233 => 213 | n => n, fun | 17 => 7 | 18 => 8 | 19 => 6 | n => n⟩
open Go.RowKit Go.Sort Go.Lib in
def Tryz.laysM243_ren : Go.Shelf.Ren := ⟨fun | 243 => 118 | 246 => 138 | 283 => 156 | 284 => 157 | 285 => 158 | 286 => 159 | 129 => 126 | 317 => 168 | 318 => 169 | 319 => 170 | 320 => 171 | 337 => 176 | 338 => 149 | n => n, fun | 3 => 3 | 9 => 9 | 2 => 2 | 4 => 4 | 171 => 205 | 0 => 0 | 53 => 166 | 37 => 99 | 5 => 5 | 173 => 207 | 212 => 218 | 51 => 149 | 20 => 20 | 213 => 219 | 46 => 121 | 232 => 229 | 233 => 213 | n => n, fun | 17 => 7 | 18 => 8 | 19 => 6 | n => n⟩
open Go.RowKit Go.Sort Go.Lib in
def Tryz.lays243_ren : Go.Shelf.Ren := ⟨fun | 243 => 118 | 246 => 138 | 283 => 156 | 284 => 157 | 285 => 158 | 286 => 159 | 129 => 126 | 317 => 168 | 318 => 169 | 319 => 170 | 320 => 171 | 337 => 176 | 338 => 149 | n => n, fun | 3 => 3 | 9 => 9 | 2 => 2 | 4 => 4 | 171 => 205 | 0 => 0 | 53 => 166 | 37 => 99 | 5 => 5 | 173 => 207 | 212 => 218 | 51 => 149 | 20 => 20 | 213 => 219 | 46 => 121 | 232 => 229 | 233 => 213 | n => n, fun | 17 => 7 | 18 => 8 | 19 => 6 | n => n⟩
open Go.RowKit Go.Sort Go.Lib in
def Tryz.laysM171_ren : Go.Shelf.Ren := ⟨fun | 171 => 98 | 243 => 118 | 246 => 138 | 283 => 156 | 284 => 157 | 285 => 158 | 286 => 159 | 129 => 126 | 317 => 168 | 318 => 169 | 319 => 170 | 320 => 171 | 337 => 176 | 338 => 149 | n => n, fun | 3 => 3 | 9 => 9 | 2 => 2 | 4 => 4 | 171 => 205 | 0 => 0 | 53 => 166 | 37 => 99 | 5 => 5 | 173 => 207 | 212 => 218 | 51 => 149 | 20 => 20 | 213 => 219 | 46 => 121 | 232 => 229 | 233 => 213 | n => n, fun | 17 => 7 | 18 => 8 | 19 => 6 | n => n⟩
theorem Tryz.laysM171 : Go.Proofs.LaysM.n171 Tryz.prog Tryz.laysM171_ren := {
 mixed := by kernel_rfl
 f129 := Tryz.func126.trans (congrArg some (by kernel_rfl))
 f171 := Tryz.func98.trans (congrArg some (by kernel_rfl))
 f243 := Tryz.func118.trans (congrArg some (by kernel_rfl))
 f246 := Tryz.func138.trans (congrArg some (by kernel_rfl))
 f283 := Tryz.func156.trans (congrArg some (by kernel_rfl))
 f284 := Tryz.func157.trans (congrArg some (by kernel_rfl))
 f285 := Tryz.func158.trans (congrArg some (by kernel_rfl))
 f286 := Tryz.func159.trans (congrArg some (by kernel_rfl))
 f317 := Tryz.func168.trans (congrArg some (by kernel_rfl))
 f318 := Tryz.func169.trans (congrArg some (by kernel_rfl))
 f319 := Tryz.func170.trans (congrArg some (by kernel_rfl))
 f320 := Tryz.func171.trans (congrArg some (by kernel_rfl))
 f337 := Tryz.func176.trans (congrArg some (by kernel_rfl))
 f338 := Tryz.func149.trans (congrArg some (by kernel_rfl))
 t0 := Tryz.underlying0
 a0 := Tryz.isAgg0
 z0 := Tryz.sizeOf0
 v0 := Tryz.zeroValue0
 t2 := Tryz.underlying2
 a2 := Tryz.isAgg2
 z2 := Tryz.sizeOf2
 v2 := Tryz.zeroValue2
 t3 := Tryz.underlying3
 a3 := Tryz.isAgg3
 z3 := Tryz.sizeOf3
 v3 := Tryz.zeroValue3
 t4 := Tryz.underlying4
 a4 := Tryz.isAgg4
 z4 := Tryz.sizeOf4
 v4 := Tryz.zeroValue4
 t5 := Tryz.underlying5
 a5 := Tryz.isAgg5
 z5 := Tryz.sizeOf5
 v5 := Tryz.zeroValue5
 t9 := Tryz.underlying9
 a9 := Tryz.isAgg9
 z9 := Tryz.sizeOf9
 v9 := Tryz.zeroValue9
 t20 := Tryz.underlying20
 a20 := Tryz.isAgg20
 z20 := Tryz.sizeOf20
 v20 := Tryz.zeroValue20
 t37 := Tryz.underlying99
 a37 := Tryz.isAgg99
 z37 := Tryz.sizeOf99
 v37 := Tryz.zeroValue99
 t46 := Tryz.underlying121
 a46 := Tryz.isAgg121
 z46 := Tryz.sizeOf121
 v46 := Tryz.zeroValue121
 t51 := Tryz.underlying149
 a51 := Tryz.isAgg149
 z51 := Tryz.sizeOf149
 v51 := Tryz.zeroValue149
 t53 := Tryz.underlying166
 a53 := Tryz.isAgg166
 z53 := Tryz.sizeOf166
 v53 := Tryz.zeroValue166
 t171 := Tryz.underlying205
 a171 := Tryz.isAgg205
 z171 := Tryz.sizeOf205
 v171 := Tryz.zeroValue205
 t173 := Tryz.underlying207
 a173 := Tryz.isAgg207
 z173 := Tryz.sizeOf207
 v173 := Tryz.zeroValue207
 t212 := Tryz.underlying218
 a212 := Tryz.isAgg218
 z212 := Tryz.sizeOf218
 v212 := Tryz.zeroValue218
 t213 := Tryz.underlying219
 a213 := Tryz.isAgg219
 z213 := Tryz.sizeOf219
 t232 := Tryz.underlying229
 a232 := Tryz.isAgg229
 z232 := Tryz.sizeOf229
 v232 := Tryz.zeroValue229
 t233 := Tryz.underlying213
 a233 := Tryz.isAgg213
 z233 := Tryz.sizeOf213
 v233 := Tryz.zeroValue213
 g17 := by kernel_rfl
 g18 := by kernel_rfl
 g19 := by kernel_rfl
 i0 := by kernel_rfl
 i2 := by kernel_rfl
 i3 := by kernel_rfl
 i4 := by kernel_rfl
 i5 := by kernel_rfl
 i9 := by kernel_rfl
 i20 := by kernel_rfl
 i37 := by kernel_rfl
 i46 := by kernel_rfl
 i51 := by kernel_rfl
 i53 := by kernel_rfl
 i171 := by kernel_rfl
 i173 := by kernel_rfl
 i212 := by kernel_rfl
 i232 := by kernel_rfl
 i233 := by kernel_rfl
 m17 := by kernel_rfl
 m18 := by kernel_rfl
 m19 := by kernel_rfl }
open Go.RowKit Go.Sort Go.Lib in
theorem Tryz.strconv_Itoa (n : Int) (h0 : -9223372036854775808 ≤ n) (h1 : n ≤ 9223372036854775807) (w : World) (htab : Lib.TabIs Tryz.prog w "internal/strconv.uint64pow10" .u64 Lib.pow10Tab) :
  Calls Tryz.prog 98 #[.int .i64 n] w fun e w' => e = .returned (.string ⟨(Lib.itoa n).toArray⟩) ∧ ∃ k os, w' = grow (w.drewN k) os := Any.strconv_Itoa Tryz.laysM171 n h0 h1 w htab
def Tryz.lays171_ren : Go.Shelf.Ren := ⟨fun | 171 => 98 | 243 => 118 | 246 => 138 | 283 => 156 | 284 => 157 | 285 => 158 | 286 => 159 | 129 => 126 | 317 => 168 | 318 => 169 | 319 => 170 | 320 => 171 | 337 => 176 | 338 => 149 | n => n, fun | 3 => 3 | 9 => 9 | 2 => 2 | 4 => 4 | 171 => 205 | 0 => 0 | 53 => 166 | 37 => 99 | 5 => 5 | 173 => 207 | 212 => 218 | 51 => 149 | 20 => 20 | 213 => 219 | 46 => 121 | 232 => 229 | 233 => 213 | n => n, fun | 17 => 7 | 18 => 8 | 19 => 6 | n => n⟩
open Go.RowKit Go.Sort Go.Lib in
open Go.RowKit in
def Tryz.lays247_ren : Go.Shelf.Ren := ⟨fun | 247 => 139 | 287 => 125 | 321 => 144 | 322 => 145 | n => n, fun | 9 => 9 | 3 => 3 | 2 => 2 | 75 => 107 | 4 => 4 | 167 => 191 | 5 => 5 | 53 => 166 | 175 => 167 | 46 => 121 | 37 => 99 | 0 => 0 | 21 => 21 | 80 => 103 | n => n, fun | n => n⟩
open Go.RowKit in
open Go.RowKit in
open Go.RowKit in
def Tryz.laysM316_ren : Go.Shelf.Ren := ⟨fun | 316 => 160 | n => n, fun | 9 => 9 | 3 => 3 | 4 => 4 | 37 => 99 | 0 => 0 | 127 => 126 | 5 => 5 | n => n, fun | n => n⟩
open Go.RowKit in
def Tryz.laysM279_ren : Go.Shelf.Ren := ⟨fun | 279 => 140 | 316 => 160 | n => n, fun | 9 => 9 | 168 => 194 | 75 => 107 | 210 => 211 | 3 => 3 | 4 => 4 | 37 => 99 | 0 => 0 | 127 => 126 | 80 => 103 | 5 => 5 | n => n, fun | 15 => 4 | n => n⟩
open Go.RowKit in
def Tryz.laysC245_ren : Go.Shelf.Ren := ⟨fun | 245 => 120 | 279 => 140 | 280 => 141 | 281 => 142 | 282 => 143 | 316 => 160 | 171 => 98 | 205 => 161 | 243 => 118 | 246 => 138 | 283 => 156 | 284 => 157 | 285 => 158 | 286 => 159 | 129 => 126 | 317 => 168 | 318 => 169 | 319 => 170 | 320 => 171 | 337 => 176 | 338 => 149 | n => n, fun | 9 => 9 | 3 => 3 | 75 => 107 | 167 => 191 | 4 => 4 | 168 => 194 | 210 => 211 | 37 => 99 | 0 => 0 | 127 => 126 | 145 => 223 | 143 => 221 | 2 => 2 | 171 => 205 | 53 => 166 | 5 => 5 | 173 => 207 | 212 => 218 | 51 => 149 | 20 => 20 | 213 => 219 | 46 => 121 | 232 => 229 | 233 => 213 | 80 => 103 | n => n, fun | 15 => 4 | 16 => 5 | 17 => 7 | 18 => 8 | 19 => 6 | n => n⟩
open Go.RowKit in
def Tryz.laysC172_ren : Go.Shelf.Ren := ⟨fun | 172 => 100 | 244 => 119 | 245 => 120 | 247 => 139 | 279 => 140 | 280 => 141 | 281 => 142 | 282 => 143 | 287 => 125 | 316 => 160 | 171 => 98 | 205 => 161 | 321 => 144 | 322 => 145 | 243 => 118 | 246 => 138 | 283 => 156 | 284 => 157 | 285 => 158 | 286 => 159 | 129 => 126 | 317 => 168 | 318 => 169 | 319 => 170 | 320 => 171 | 337 => 176 | 338 => 149 | n => n, fun | 9 => 9 | 3 => 3 | 75 => 107 | 76 => 108 | 4 => 4 | 5 => 5 | 167 => 191 | 37 => 99 | 0 => 0 | 85 => 192 | 2 => 2 | 168 => 194 | 53 => 166 | 175 => 167 | 46 => 121 | 210 => 211 | 127 => 126 | 145 => 223 | 143 => 221 | 21 => 21 | 171 => 205 | 173 => 207 | 212 => 218 | 51 => 149 | 20 => 20 | 213 => 219 | 232 => 229 | 233 => 213 | 80 => 103 | n => n, fun | 15 => 4 | 16 => 5 | 17 => 7 | 18 => 8 | 19 => 6 | n => n⟩
theorem Tryz.laysC172 : Go.Proofs.LaysC.n172 Tryz.prog Tryz.laysC172_ren := {
 mixed := by kernel_rfl
 f129 := Tryz.func126.trans (congrArg some (by kernel_rfl))
 f171 := Tryz.func98.trans (congrArg some (by kernel_rfl))
 f172 := Tryz.func100.trans (congrArg some (by kernel_rfl))
 f205 := Tryz.func161.trans (congrArg some (by kernel_rfl))
 f243 := Tryz.func118.trans (congrArg some (by kernel_rfl))
 f244 := Tryz.func119.trans (congrArg some (by kernel_rfl))
 f245 := Tryz.func120.trans (congrArg some (by kernel_rfl))
 f246 := Tryz.func138.trans (congrArg some (by kernel_rfl))
 f247 := Tryz.func139.trans (congrArg some (by kernel_rfl))
 f279 := Tryz.func140.trans (congrArg some (by kernel_rfl))
 f280 := Tryz.func141.trans (congrArg some (by kernel_rfl))
 f281 := Tryz.func142.trans (congrArg some (by kernel_rfl))
 f282 := Tryz.func143.trans (congrArg some (by kernel_rfl))
 f283 := Tryz.func156.trans (congrArg some (by kernel_rfl))
 f284 := Tryz.func157.trans (congrArg some (by kernel_rfl))
 f285 := Tryz.func158.trans (congrArg some (by kernel_rfl))
 f286 := Tryz.func159.trans (congrArg some (by kernel_rfl))
 f287 := Tryz.func125.trans (congrArg some (by kernel_rfl))
 f316 := Tryz.func160.trans (congrArg some (by kernel_rfl))
 f317 := Tryz.func168.trans (congrArg some (by kernel_rfl))
 f318 := Tryz.func169.trans (congrArg some (by kernel_rfl))
 f319 := Tryz.func170.trans (congrArg some (by kernel_rfl))
 f320 := Tryz.func171.trans (congrArg some (by kernel_rfl))
 f321 := Tryz.func144.trans (congrArg some (by kernel_rfl))
 f322 := Tryz.func145.trans (congrArg some (by kernel_rfl))
 f337 := Tryz.func176.trans (congrArg some (by kernel_rfl))
 f338 := Tryz.func149.trans (congrArg some (by kernel_rfl))
 t0 := Tryz.underlying0
 a0 := Tryz.isAgg0
 z0 := Tryz.sizeOf0
 v0 := Tryz.zeroValue0
 t2 := Tryz.underlying2
 a2 := Tryz.isAgg2
 z2 := Tryz.sizeOf2
 v2 := Tryz.zeroValue2
 t3 := Tryz.underlying3
 a3 := Tryz.isAgg3
 z3 := Tryz.sizeOf3
 v3 := Tryz.zeroValue3
 t4 := Tryz.underlying4
 a4 := Tryz.isAgg4
 z4 := Tryz.sizeOf4
 v4 := Tryz.zeroValue4
 t5 := Tryz.underlying5
 a5 := Tryz.isAgg5
 z5 := Tryz.sizeOf5
 v5 := Tryz.zeroValue5
 t9 := Tryz.underlying9
 a9 := Tryz.isAgg9
 z9 := Tryz.sizeOf9
 v9 := Tryz.zeroValue9
 t20 := Tryz.underlying20
 a20 := Tryz.isAgg20
 z20 := Tryz.sizeOf20
 v20 := Tryz.zeroValue20
 t21 := Tryz.underlying21
 a21 := Tryz.isAgg21
 z21 := Tryz.sizeOf21
 v21 := Tryz.zeroValue21
 t37 := Tryz.underlying99
 a37 := Tryz.isAgg99
 z37 := Tryz.sizeOf99
 v37 := Tryz.zeroValue99
 t46 := Tryz.underlying121
 a46 := Tryz.isAgg121
 z46 := Tryz.sizeOf121
 v46 := Tryz.zeroValue121
 t51 := Tryz.underlying149
 a51 := Tryz.isAgg149
 z51 := Tryz.sizeOf149
 v51 := Tryz.zeroValue149
 t53 := Tryz.underlying166
 a53 := Tryz.isAgg166
 z53 := Tryz.sizeOf166
 v53 := Tryz.zeroValue166
 t75 := Tryz.underlying107
 a75 := Tryz.isAgg107
 z75 := Tryz.sizeOf107
 v75 := Tryz.zeroValue107
 t76 := Tryz.underlying108
 a76 := Tryz.isAgg108
 z76 := Tryz.sizeOf108
 v76 := Tryz.zeroValue108
 t85 := Tryz.underlying192
 a85 := Tryz.isAgg192
 z85 := Tryz.sizeOf192
 v85 := Tryz.zeroValue192
 t127 := Tryz.underlying126
 a127 := Tryz.isAgg126
 z127 := Tryz.sizeOf126
 v127 := Tryz.zeroValue126
 t143 := Tryz.underlying221
 a143 := Tryz.isAgg221
 z143 := Tryz.sizeOf221
 v143 := Tryz.zeroValue221
 t145 := Tryz.underlying223
 a145 := Tryz.isAgg223
 z145 := Tryz.sizeOf223
 v145 := Tryz.zeroValue223
 t167 := Tryz.underlying191
 a167 := Tryz.isAgg191
 z167 := Tryz.sizeOf191
 v167 := Tryz.zeroValue191
 t168 := Tryz.underlying194
 a168 := Tryz.isAgg194
 z168 := Tryz.sizeOf194
 v168 := Tryz.zeroValue194
 t171 := Tryz.underlying205
 a171 := Tryz.isAgg205
 z171 := Tryz.sizeOf205
 v171 := Tryz.zeroValue205
 t173 := Tryz.underlying207
 a173 := Tryz.isAgg207
 z173 := Tryz.sizeOf207
 v173 := Tryz.zeroValue207
 t175 := Tryz.underlying167
 a175 := Tryz.isAgg167
 z175 := Tryz.sizeOf167
 v175 := Tryz.zeroValue167
 t210 := Tryz.underlying211
 a210 := Tryz.isAgg211
 z210 := Tryz.sizeOf211
 v210 := Tryz.zeroValue211
 t212 := Tryz.underlying218
 a212 := Tryz.isAgg218
 z212 := Tryz.sizeOf218
 v212 := Tryz.zeroValue218
 t213 := Tryz.underlying219
 a213 := Tryz.isAgg219
 z213 := Tryz.sizeOf219
 t232 := Tryz.underlying229
 a232 := Tryz.isAgg229
 z232 := Tryz.sizeOf229
 v232 := Tryz.zeroValue229
 t233 := Tryz.underlying213
 a233 := Tryz.isAgg213
 z233 := Tryz.sizeOf213
 v233 := Tryz.zeroValue213
 g15 := by kernel_rfl
 g16 := by kernel_rfl
 g17 := by kernel_rfl
 g18 := by kernel_rfl
 g19 := by kernel_rfl
 t80 := Tryz.underlying103
 a80 := Tryz.isAgg103
 z80 := Tryz.sizeOf103
 v80 := Tryz.zeroValue103
 i0 := by kernel_rfl
 i2 := by kernel_rfl
 i3 := by kernel_rfl
 i4 := by kernel_rfl
 i5 := by kernel_rfl
 i9 := by kernel_rfl
 i20 := by kernel_rfl
 i21 := by kernel_rfl
 i37 := by kernel_rfl
 i46 := by kernel_rfl
 i51 := by kernel_rfl
 i53 := by kernel_rfl
 i75 := by kernel_rfl
 i76 := by kernel_rfl
 i80 := by kernel_rfl
 i85 := by kernel_rfl
 i127 := by kernel_rfl
 i143 := by kernel_rfl
 i145 := by kernel_rfl
 i167 := by kernel_rfl
 i168 := by kernel_rfl
 i171 := by kernel_rfl
 i173 := by kernel_rfl
 i175 := by kernel_rfl
 i210 := by kernel_rfl
 i212 := by kernel_rfl
 i232 := by kernel_rfl
 i233 := by kernel_rfl
 m15 := by kernel_rfl
 m16 := by kernel_rfl
 m17 := by kernel_rfl
 m18 := by kernel_rfl
 m19 := by kernel_rfl
 c0 := by kernel_rfl
 c2 := by kernel_rfl
 c3 := by kernel_rfl
 c4 := by kernel_rfl
 c5 := by kernel_rfl
 c9 := by kernel_rfl
 c20 := by kernel_rfl
 c21 := by kernel_rfl
 c37 := by kernel_rfl
 c46 := by kernel_rfl
 c51 := by kernel_rfl
 c53 := by kernel_rfl
 c75 := by kernel_rfl
 c76 := by kernel_rfl
 c80 := by kernel_rfl
 c85 := by kernel_rfl
 c127 := by kernel_rfl
 c143 := by kernel_rfl
 c145 := by kernel_rfl
 c167 := by kernel_rfl
 c168 := by kernel_rfl
 c171 := by kernel_rfl
 c173 := by kernel_rfl
 c175 := by kernel_rfl
 c210 := by kernel_rfl
 c212 := by kernel_rfl
 c213 := by kernel_rfl
 c232 := by kernel_rfl
 c233 := by kernel_rfl }
open Go.RowKit in
theorem Tryz.strconv_Atoi_err (s : ByteArray) (hl : s.size ≤ 18) (h : Lib.atoi s.data.toList = none) (ev : Value) (w : World) (hv : w.cell? ⟨4, 0, none⟩ = some ev) (hev : ev = .nilIface ∨ ∃ te pe, ev = .iface te pe) :
  Calls Tryz.prog 100 #[.string s] w fun e w' => ∃ N, e = .returned (.tuple #[.int .i64 0, .iface 194 (.pointer (some ⟨N, 0, none⟩))]) ∧ w.heap.size ≤ N ∧ w'.heap[N]? = some (.cells #[.string ⟨#[65, 116, 111, 105]⟩, .string s, ev] 211 (0, 0)) ∧ Below w.heap.size w w' := Any.strconv_Atoi_err Tryz.laysC172 s hl h ev w hv hev
open Go.RowKit in
def Tryz.lays217_ren : Go.Shelf.Ren := ⟨fun | 217 => 32 | 266 => 49 | n => n, fun | 9 => 9 | 5 => 5 | 3 => 3 | n => n, fun | n => n⟩
open Go.RowKit Go.Lib in
def Tryz.lays224_ren : Go.Shelf.Ren := ⟨fun | 224 => 69 | n => n, fun | 3 => 3 | n => n, fun | n => n⟩
open Go.RowKit Go.Lib in
def Tryz.lays314_ren : Go.Shelf.Ren := ⟨fun | 314 => 93 | n => n, fun | 9 => 9 | 51 => 149 | 3 => 3 | 4 => 4 | 5 => 5 | 46 => 121 | n => n, fun | n => n⟩
open Go.RowKit Go.Lib in
def Tryz.lays267_ren : Go.Shelf.Ren := ⟨fun | 267 => 70 | 314 => 93 | n => n, fun | 9 => 9 | 3 => 3 | 146 => 150 | 51 => 149 | 4 => 4 | 5 => 5 | 46 => 121 | n => n, fun | n => n⟩
open Go.RowKit Go.Lib in
def Tryz.lays219_ren : Go.Shelf.Ren := ⟨fun | 219 => 51 | 217 => 32 | 225 => 68 | 224 => 69 | 267 => 70 | 266 => 49 | 314 => 93 | n => n, fun | 9 => 9 | 3 => 3 | 4 => 4 | 5 => 5 | 46 => 121 | 146 => 150 | 51 => 149 | n => n, fun | 1 => 2 | n => n⟩
open Go.RowKit Go.Lib in
open Go.RowKit Go.Lib in
def Tryz.lays143_ren : Go.Shelf.Ren := ⟨fun | 143 => 34 | 219 => 51 | 217 => 32 | 225 => 68 | 224 => 69 | 267 => 70 | 266 => 49 | 314 => 93 | n => n, fun | 9 => 9 | 3 => 3 | 4 => 4 | 5 => 5 | 46 => 121 | 146 => 150 | 51 => 149 | n => n, fun | 1 => 2 | n => n⟩
theorem Tryz.lays143 : Go.Proofs.Lays.n143 Tryz.prog Tryz.lays143_ren := {
 mixed := by kernel_rfl
 f143 := Tryz.func34.trans (congrArg some (by kernel_rfl))
 f217 := Tryz.func32.trans (congrArg some (by kernel_rfl))
 f219 := Tryz.func51.trans (congrArg some (by kernel_rfl))
 f224 := Tryz.func69.trans (congrArg some (by kernel_rfl))
 f225 := Tryz.func68.trans (congrArg some (by kernel_rfl))
 f266 := Tryz.func49.trans (congrArg some (by kernel_rfl))
 f267 := Tryz.func70.trans (congrArg some (by kernel_rfl))
 f314 := Tryz.func93.trans (congrArg some (by kernel_rfl))
 t3 := Tryz.underlying3
 a3 := Tryz.isAgg3
 z3 := Tryz.sizeOf3
 v3 := Tryz.zeroValue3
 t4 := Tryz.underlying4
 a4 := Tryz.isAgg4
 z4 := Tryz.sizeOf4
 v4 := Tryz.zeroValue4
 t5 := Tryz.underlying5
 a5 := Tryz.isAgg5
 z5 := Tryz.sizeOf5
 v5 := Tryz.zeroValue5
 t9 := Tryz.underlying9
 a9 := Tryz.isAgg9
 z9 := Tryz.sizeOf9
 v9 := Tryz.zeroValue9
 t46 := Tryz.underlying121
 a46 := Tryz.isAgg121
 z46 := Tryz.sizeOf121
 v46 := Tryz.zeroValue121
 t51 := Tryz.underlying149
 a51 := Tryz.isAgg149
 z51 := Tryz.sizeOf149
 v51 := Tryz.zeroValue149
 t146 := Tryz.underlying150
 a146 := Tryz.isAgg150
 z146 := Tryz.sizeOf150
 v146 := Tryz.zeroValue150
 g1 := by kernel_rfl }
open Go.RowKit Go.Lib in
open Go.RowKit Go.Lib in
theorem Tryz.strings_Index (s sub : ByteArray) (m : Int) (w : World) (hs : s.size < 4294967281) (hm : w.cell? ⟨2, 0, none⟩ = some (.int .i64 m)) :
  Calls Tryz.prog 34 #[.string s, .string sub] w fun e w' => e = .returned (.int .i64 (Lib.index s.data.toList sub.data.toList)) ∧ w' = w := Any.strings_Index Tryz.lays143 s sub m w hs hm
def Tryz.lays220_ren : Go.Shelf.Ren := ⟨fun | 220 => 124 | 219 => 51 | 217 => 32 | 225 => 68 | 224 => 69 | 267 => 70 | 266 => 49 | 314 => 93 | n => n, fun | 9 => 9 | 4 => 4 | 3 => 3 | 5 => 5 | 46 => 121 | 146 => 150 | 51 => 149 | n => n, fun | 1 => 2 | n => n⟩
open Go.RowKit Go.Lib in
def Tryz.lays145_ren : Go.Shelf.Ren := ⟨fun | 145 => 105 | 220 => 124 | 219 => 51 | 217 => 32 | 225 => 68 | 224 => 69 | 267 => 70 | 266 => 49 | 314 => 93 | n => n, fun | 9 => 9 | 4 => 4 | 59 => 164 | 3 => 3 | 5 => 5 | 46 => 121 | 146 => 150 | 51 => 149 | n => n, fun | 1 => 2 | n => n⟩
open Go.RowKit Go.Lib in
def Tryz.laysM219_ren : Go.Shelf.Ren := ⟨fun | 219 => 51 | 217 => 32 | 225 => 68 | 224 => 69 | 267 => 70 | 266 => 49 | 314 => 93 | n => n, fun | 9 => 9 | 3 => 3 | 4 => 4 | 5 => 5 | 46 => 121 | 146 => 150 | 51 => 149 | n => n, fun | 1 => 2 | n => n⟩
open Go.RowKit Go.Lib in
def Tryz.laysM143_ren : Go.Shelf.Ren := ⟨fun | 143 => 34 | 219 => 51 | 217 => 32 | 225 => 68 | 224 => 69 | 267 => 70 | 266 => 49 | 314 => 93 | n => n, fun | 9 => 9 | 3 => 3 | 4 => 4 | 5 => 5 | 46 => 121 | 146 => 150 | 51 => 149 | n => n, fun | 1 => 2 | n => n⟩
open Go.RowKit Go.Lib in
def Tryz.laysM220_ren : Go.Shelf.Ren := ⟨fun | 220 => 124 | 219 => 51 | 217 => 32 | 225 => 68 | 224 => 69 | 267 => 70 | 266 => 49 | 314 => 93 | n => n, fun | 9 => 9 | 4 => 4 | 3 => 3 | 5 => 5 | 46 => 121 | 146 => 150 | 51 => 149 | n => n, fun | 1 => 2 | n => n⟩
open Go.RowKit Go.Lib in
def Tryz.laysM145_ren : Go.Shelf.Ren := ⟨fun | 145 => 105 | 220 => 124 | 219 => 51 | 217 => 32 | 225 => 68 | 224 => 69 | 267 => 70 | 266 => 49 | 314 => 93 | n => n, fun | 9 => 9 | 4 => 4 | 59 => 164 | 3 => 3 | 5 => 5 | 46 => 121 | 146 => 150 | 51 => 149 | n => n, fun | 1 => 2 | n => n⟩
open Go.RowKit Go.Lib in
def Tryz.lays206_ren : Go.Shelf.Ren := ⟨fun | 206 => 50 | n => n, fun | 9 => 9 | 4 => 4 | 3 => 3 | n => n, fun | n => n⟩
open Go.RowKit Go.Lib in
def Tryz.lays99_ren : Go.Shelf.Ren := ⟨fun | 99 => 33 | 206 => 50 | n => n, fun | 9 => 9 | 4 => 4 | 3 => 3 | n => n, fun | n => n⟩
open Go.RowKit Go.Lib in
def Tryz.lays208_ren : Go.Shelf.Ren := ⟨fun | 208 => 121 | 206 => 50 | n => n, fun | 9 => 9 | 4 => 4 | 3 => 3 | n => n, fun | n => n⟩
open Go.RowKit Go.Lib in
def Tryz.lays101_ren : Go.Shelf.Ren := ⟨fun | 101 => 101 | 208 => 121 | 206 => 50 | n => n, fun | 9 => 9 | 4 => 4 | 3 => 3 | n => n, fun | n => n⟩
theorem Tryz.lays101 : Go.Proofs.Lays.n101 Tryz.prog Tryz.lays101_ren := {
 mixed := by kernel_rfl
 f101 := Tryz.func101.trans (congrArg some (by kernel_rfl))
 f206 := Tryz.func50.trans (congrArg some (by kernel_rfl))
 f208 := Tryz.func121.trans (congrArg some (by kernel_rfl))
 t3 := Tryz.underlying3
 a3 := Tryz.isAgg3
 z3 := Tryz.sizeOf3
 v3 := Tryz.zeroValue3
 t4 := Tryz.underlying4
 a4 := Tryz.isAgg4
 z4 := Tryz.sizeOf4
 v4 := Tryz.zeroValue4
 t9 := Tryz.underlying9
 a9 := Tryz.isAgg9
 z9 := Tryz.sizeOf9
 v9 := Tryz.zeroValue9 }
open Go.RowKit Go.Lib in
theorem Tryz.strings_TrimPrefix (s p : ByteArray) (w : World) :
  Calls Tryz.prog 101 #[.string s, .string p] w fun e w' => e = .returned (.string ⟨(Lib.trimPrefix s.data.toList p.data.toList).toArray⟩) ∧ w' = w := Any.strings_TrimPrefix Tryz.lays101 s p w
def Tryz.lays197_ren : Go.Shelf.Ren := ⟨fun | 197 => 31 | 260 => 48 | n => n, fun | 9 => 9 | 21 => 21 | 3 => 3 | 4 => 4 | 5 => 5 | 105 => 82 | 119 => 120 | 0 => 0 | 46 => 121 | 139 => 124 | 138 => 123 | n => n, fun | 3 => 0 | 4 => 1 | n => n⟩
theorem Tryz.lays197 : Go.Proofs.Lays.n197 Tryz.prog Tryz.lays197_ren := {
 mixed := by kernel_rfl
 f197 := Tryz.func31.trans (congrArg some (by kernel_rfl))
 f260 := Tryz.func48.trans (congrArg some (by kernel_rfl))
 t0 := Tryz.underlying0
 a0 := Tryz.isAgg0
 z0 := Tryz.sizeOf0
 v0 := Tryz.zeroValue0
 t3 := Tryz.underlying3
 a3 := Tryz.isAgg3
 z3 := Tryz.sizeOf3
 v3 := Tryz.zeroValue3
 t4 := Tryz.underlying4
 a4 := Tryz.isAgg4
 z4 := Tryz.sizeOf4
 v4 := Tryz.zeroValue4
 t5 := Tryz.underlying5
 a5 := Tryz.isAgg5
 z5 := Tryz.sizeOf5
 v5 := Tryz.zeroValue5
 t9 := Tryz.underlying9
 a9 := Tryz.isAgg9
 z9 := Tryz.sizeOf9
 v9 := Tryz.zeroValue9
 t21 := Tryz.underlying21
 a21 := Tryz.isAgg21
 z21 := Tryz.sizeOf21
 v21 := Tryz.zeroValue21
 t46 := Tryz.underlying121
 a46 := Tryz.isAgg121
 z46 := Tryz.sizeOf121
 v46 := Tryz.zeroValue121
 t105 := Tryz.underlying82
 a105 := Tryz.isAgg82
 z105 := Tryz.sizeOf82
 v105 := Tryz.zeroValue82
 t119 := Tryz.underlying120
 a119 := Tryz.isAgg120
 z119 := Tryz.sizeOf120
 t138 := Tryz.underlying123
 a138 := Tryz.isAgg123
 z138 := Tryz.sizeOf123
 v138 := Tryz.zeroValue123
 t139 := Tryz.underlying124
 a139 := Tryz.isAgg124
 z139 := Tryz.sizeOf124
 v139 := Tryz.zeroValue124
 g3 := by kernel_rfl
 g4 := by kernel_rfl }
open Go.RowKit Go.Lib in
def Tryz.lays152_ren : Go.Shelf.Ren := ⟨fun | 152 => 75 | 137 => 15 | 119 => 96 | 224 => 69 | 225 => 68 | 217 => 32 | 266 => 49 | n => n, fun | 9 => 9 | 21 => 21 | 3 => 3 | 4 => 4 | 5 => 5 | 0 => 0 | 46 => 121 | n => n, fun | n => n⟩
open Go.RowKit Go.Lib in
def Tryz.lays151_ren : Go.Shelf.Ren := ⟨fun | 151 => 167 | 152 => 75 | 137 => 15 | 119 => 96 | 224 => 69 | 225 => 68 | 217 => 32 | 266 => 49 | n => n, fun | 9 => 9 | 21 => 21 | 4 => 4 | 3 => 3 | 5 => 5 | 0 => 0 | 46 => 121 | n => n, fun | n => n⟩
open Go.RowKit Go.Lib in
def Tryz.lays226_ren : Go.Shelf.Ren := ⟨fun | 226 => 76 | n => n, fun | 3 => 3 | 4 => 4 | n => n, fun | n => n⟩
open Go.RowKit Go.Lib in
def Tryz.lays153_ren : Go.Shelf.Ren := ⟨fun | 153 => 60 | 152 => 75 | 226 => 76 | 227 => 77 | 228 => 78 | 137 => 15 | 119 => 96 | 224 => 69 | 225 => 68 | 217 => 32 | 266 => 49 | n => n, fun | 9 => 9 | 3 => 3 | 4 => 4 | 5 => 5 | 21 => 21 | 117 => 132 | 116 => 131 | 0 => 0 | 46 => 121 | 124 => 155 | n => n, fun | n => n⟩
open Go.RowKit Go.Lib in
open Go.RowKit Go.Lib in
open Go.RowKit Go.Lib in
def Tryz.lays227_ren : Go.Shelf.Ren := ⟨fun | 227 => 77 | n => n, fun | 9 => 9 | 116 => 131 | 4 => 4 | 0 => 0 | 3 => 3 | 5 => 5 | n => n, fun | n => n⟩
open Go.RowKit Go.Lib in
def Tryz.lays228_ren : Go.Shelf.Ren := ⟨fun | 228 => 78 | n => n, fun | 124 => 155 | 5 => 5 | 4 => 4 | 0 => 0 | 116 => 131 | n => n, fun | n => n⟩
open Go.RowKit Go.Lib in
open Go.RowKit Go.Lib in
open Go.RowKit Go.Lib in
def Tryz.lays150_ren : Go.Shelf.Ren := ⟨fun | 150 => 40 | 153 => 60 | 152 => 75 | 226 => 76 | 227 => 77 | 228 => 78 | 137 => 15 | 119 => 96 | 224 => 69 | 225 => 68 | 217 => 32 | 266 => 49 | n => n, fun | 9 => 9 | 4 => 4 | 3 => 3 | 5 => 5 | 21 => 21 | 117 => 132 | 116 => 131 | 0 => 0 | 46 => 121 | 124 => 155 | n => n, fun | n => n⟩
theorem Tryz.lays150 : Go.Proofs.Lays.n150 Tryz.prog Tryz.lays150_ren := {
 mixed := by kernel_rfl
 f119 := Tryz.func96.trans (congrArg some (by kernel_rfl))
 f137 := Tryz.func15.trans (congrArg some (by kernel_rfl))
 f150 := Tryz.func40.trans (congrArg some (by kernel_rfl))
 f152 := Tryz.func75.trans (congrArg some (by kernel_rfl))
 f153 := Tryz.func60.trans (congrArg some (by kernel_rfl))
 f217 := Tryz.func32.trans (congrArg some (by kernel_rfl))
 f224 := Tryz.func69.trans (congrArg some (by kernel_rfl))
 f225 := Tryz.func68.trans (congrArg some (by kernel_rfl))
 f226 := Tryz.func76.trans (congrArg some (by kernel_rfl))
 f227 := Tryz.func77.trans (congrArg some (by kernel_rfl))
 f228 := Tryz.func78.trans (congrArg some (by kernel_rfl))
 f266 := Tryz.func49.trans (congrArg some (by kernel_rfl))
 t0 := Tryz.underlying0
 a0 := Tryz.isAgg0
 z0 := Tryz.sizeOf0
 v0 := Tryz.zeroValue0
 t3 := Tryz.underlying3
 a3 := Tryz.isAgg3
 z3 := Tryz.sizeOf3
 v3 := Tryz.zeroValue3
 t4 := Tryz.underlying4
 a4 := Tryz.isAgg4
 z4 := Tryz.sizeOf4
 v4 := Tryz.zeroValue4
 t5 := Tryz.underlying5
 a5 := Tryz.isAgg5
 z5 := Tryz.sizeOf5
 v5 := Tryz.zeroValue5
 t9 := Tryz.underlying9
 a9 := Tryz.isAgg9
 z9 := Tryz.sizeOf9
 v9 := Tryz.zeroValue9
 t21 := Tryz.underlying21
 a21 := Tryz.isAgg21
 z21 := Tryz.sizeOf21
 v21 := Tryz.zeroValue21
 t46 := Tryz.underlying121
 a46 := Tryz.isAgg121
 z46 := Tryz.sizeOf121
 v46 := Tryz.zeroValue121
 t116 := Tryz.underlying131
 a116 := Tryz.isAgg131
 z116 := Tryz.sizeOf131
 t117 := Tryz.underlying132
 a117 := Tryz.isAgg132
 z117 := Tryz.sizeOf132
 v117 := Tryz.zeroValue132
 t124 := Tryz.underlying155
 a124 := Tryz.isAgg155
 z124 := Tryz.sizeOf155
 v124 := Tryz.zeroValue155 }
open Go.RowKit Go.Lib in
open Go.RowKit Go.Lib in
open Go.RowKit Go.Lib in
theorem Tryz.strings_ContainsAny_laid (s chars : ByteArray) (w : World) (hs : s.size < 4294967281) (hcs : chars.size < 4294967281) (has : ∀ (j : Nat) b, s.data.toList[j]? = some b → b.toNat < 128) (hac : ∀ (j : Nat) b, chars.data.toList[j]? = some b → b.toNat < 128) :
  Calls Tryz.prog 40 #[.string s, .string chars] w fun e w' => e = .returned (.bool (Lib.containsAny s.data.toList chars.data.toList)) ∧ Below w.heap.size w w' := Any.strings_ContainsAny_laid Tryz.lays150 (by kernel_rfl) s chars w hs hcs has hac
def Tryz.lays264_ren : Go.Shelf.Ren := ⟨fun | 264 => 173 | n => n, fun | 53 => 166 | 46 => 121 | n => n, fun | n => n⟩
open Go.RowKit Go.Lib in
def Tryz.lays212_ren : Go.Shelf.Ren := ⟨fun | 212 => 162 | 263 => 172 | 264 => 173 | n => n, fun | 46 => 121 | 51 => 149 | 146 => 150 | 53 => 166 | 148 => 225 | n => n, fun | n => n⟩
open Go.RowKit Go.Lib in
def Tryz.lays260_ren : Go.Shelf.Ren := ⟨fun | 260 => 48 | n => n, fun | 9 => 9 | 21 => 21 | 3 => 3 | 4 => 4 | 5 => 5 | 119 => 120 | 0 => 0 | 46 => 121 | 139 => 124 | 138 => 123 | n => n, fun | 3 => 0 | 4 => 1 | n => n⟩
theorem Tryz.lays260 : Go.Proofs.Lays.n260 Tryz.prog Tryz.lays260_ren := {
 mixed := by kernel_rfl
 f260 := Tryz.func48.trans (congrArg some (by kernel_rfl))
 t0 := Tryz.underlying0
 a0 := Tryz.isAgg0
 z0 := Tryz.sizeOf0
 v0 := Tryz.zeroValue0
 t3 := Tryz.underlying3
 a3 := Tryz.isAgg3
 z3 := Tryz.sizeOf3
 v3 := Tryz.zeroValue3
 t4 := Tryz.underlying4
 a4 := Tryz.isAgg4
 z4 := Tryz.sizeOf4
 v4 := Tryz.zeroValue4
 t5 := Tryz.underlying5
 a5 := Tryz.isAgg5
 z5 := Tryz.sizeOf5
 v5 := Tryz.zeroValue5
 t9 := Tryz.underlying9
 a9 := Tryz.isAgg9
 z9 := Tryz.sizeOf9
 v9 := Tryz.zeroValue9
 t21 := Tryz.underlying21
 a21 := Tryz.isAgg21
 z21 := Tryz.sizeOf21
 v21 := Tryz.zeroValue21
 t46 := Tryz.underlying121
 a46 := Tryz.isAgg121
 z46 := Tryz.sizeOf121
 v46 := Tryz.zeroValue121
 t119 := Tryz.underlying120
 a119 := Tryz.isAgg120
 z119 := Tryz.sizeOf120
 t138 := Tryz.underlying123
 a138 := Tryz.isAgg123
 z138 := Tryz.sizeOf123
 v138 := Tryz.zeroValue123
 t139 := Tryz.underlying124
 a139 := Tryz.isAgg124
 z139 := Tryz.sizeOf124
 v139 := Tryz.zeroValue124
 g3 := by kernel_rfl
 g4 := by kernel_rfl }
open Go.RowKit Go.Lib in
open Go.RowKit Go.Lib in
theorem Tryz.utf8_DecodeRuneInString (s : ByteArray) (w : World) (hT : Lib.Utf8Tabs 0 1 w) :
  Calls Tryz.prog 31 #[.string s] w fun e w' => e = .returned (.tuple #[.int .i32 (Lib.decodeGo s).1, .int .i64 (Lib.decodeGo s).2]) ∧ Below w.heap.size w w' := Any.utf8_DecodeRuneInString Tryz.lays197 s w hT
end Go.Proofs
