/-
 DERIVED: THE SHELF's CONTRACTS AT THIS DUMP, IN PLAIN WORDS (tools/lay-plain.mjs out of 'TryzShelf.lean', which tools/lay-shelf.mjs wrote): THE SAME DECLARATIONS UNDER THE SAME NAMES: 'import', 'namespace', 'open', 'def', 'theorem' AND NOTHING ELSE: no command of the shelf's: FOR A HAND-IN. Each laying: the table of numbers ('.._ren') and one theorem, a field a fact of the dump's own or the kernel's comparison; each contract: ONE APPLICATION.
-/
import Derived.Shelf.Strings.Builder1
import Derived.Shelf.Strings.Builder2
import Derived.Shelf.Small.Utf8
import Derived.Shelf.Small.Strs
import Derived.Shelf.Strings.BuilderF
import Derived.Shelf.Strings.BuilderK
import Derived.Shelf.Strings.Builder2Cap
import Derived.Shelf.Strconv.Atoi
import Derived.Shelf.Strconv.Itoa0
import Derived.Shelf.Strconv.Itoa1
import Derived.Shelf.LaysM
import Derived.Shelf.Strconv.Itoa2
import Derived.Shelf.Strconv.Itoa3
import Derived.Shelf.Strconv.AtoiErrFast
import Derived.Shelf.Strconv.ParseIntEmpty
import Derived.Shelf.Strconv.AtoiFail
import Derived.Shelf.Strconv.Clone
import Derived.Shelf.Strconv.SyntaxError
import Derived.Shelf.LaysC
import Derived.Shelf.Strconv.ToError
import Derived.Shelf.Strconv.AtoiErr
import Derived.Shelf.Strings.Search1
import Derived.Shelf.Strings.Search2
import Derived.Shelf.Strings.Cut
import Derived.Shelf.Strings.Shaped
import Derived.Shelf.Strings.Prefix
import Derived.Shelf.Unicode.Decode
import Derived.Shelf.Strings.Runes
import Derived.Shelf.Strings.AsciiSet
import Derived.Shelf.Bits.Mul64
import Derived.Shelf.Unicode.DecodeSlow
import Derived.Shelf.Unicode.DecodeAny
import Derived.Shelf.Strings.BuilderCap
import Derived.Test.YtbhigefbihpnlaaGreatDoorProg
namespace Go.Proofs
open Go.Shelf
open Go.RowKit in
def Tryz.lays169_ren : Go.Shelf.Ren := ⟨fun | 169 => 99 | n => n, fun | 70 => 188 | 9 => 9 | 0 => 0 | 72 => 190 | 37 => 23 | 127 => 236 | 3 => 3 | 5 => 5 | n => n, fun | n => n⟩
theorem Tryz.lays169 : Go.Proofs.Lays.n169 Tryz.prog Tryz.lays169_ren := {
 mixed := by kernel_rfl
 f169 := Tryz.func99.trans (congrArg some (by kernel_rfl))
 t0 := Tryz.underlying0
 a0 := Tryz.isAgg0
 z0 := Tryz.sizeOf0
 v0 := Tryz.zeroValue0
 t3 := Tryz.underlying3
 a3 := Tryz.isAgg3
 z3 := Tryz.sizeOf3
 v3 := Tryz.zeroValue3
 t9 := Tryz.underlying9
 a9 := Tryz.isAgg9
 z9 := Tryz.sizeOf9
 v9 := Tryz.zeroValue9
 t37 := Tryz.underlying23
 a37 := Tryz.isAgg23
 z37 := Tryz.sizeOf23
 v37 := Tryz.zeroValue23
 t70 := Tryz.underlying188
 a70 := Tryz.isAgg188
 z70 := Tryz.sizeOf188
 v70 := Tryz.zeroValue188
 t72 := Tryz.underlying190
 a72 := Tryz.isAgg190
 z72 := Tryz.sizeOf190
 v72 := Tryz.zeroValue190
 t127 := Tryz.underlying236
 a127 := Tryz.isAgg236
 z127 := Tryz.sizeOf236
 v127 := Tryz.zeroValue236 }
theorem Tryz.Builder_Extra_169 : Builder.Extra Tryz.prog Tryz.lays169_ren := {
 sizeBuilder := by kernel_rfl
 liesBuilder := by kernel_rfl
 t5 := Tryz.underlying5
 a5 := Tryz.isAgg5
 z5 := Tryz.sizeOf5
 v5 := Tryz.zeroValue5
 infoByte := by kernel_rfl
 cellsByte := by kernel_rfl
 sizeByte := by kernel_rfl
 neB5 := by decide }
open Go.RowKit in
open Go.RowKit in
open Go.RowKit in
open Go.RowKit in
open Go.RowKit in
open Go.RowKit in
def Tryz.lays106_ren : Go.Shelf.Ren := ⟨fun | 106 => 142 | 213 => 176 | 265 => 207 | n => n, fun | 9 => 9 | 3 => 3 | n => n, fun | n => n⟩
theorem Tryz.lays106 : Go.Proofs.Lays.n106 Tryz.prog Tryz.lays106_ren := {
 mixed := by kernel_rfl
 f106 := Tryz.func142.trans (congrArg some (by kernel_rfl))
 f213 := Tryz.func176.trans (congrArg some (by kernel_rfl))
 f265 := Tryz.func207.trans (congrArg some (by kernel_rfl))
 t3 := Tryz.underlying3
 a3 := Tryz.isAgg3
 z3 := Tryz.sizeOf3
 v3 := Tryz.zeroValue3
 t9 := Tryz.underlying9
 a9 := Tryz.isAgg9
 z9 := Tryz.sizeOf9
 v9 := Tryz.zeroValue9 }
open Go.RowKit in
theorem Tryz.strings_Compare (a b : ByteArray) (w : World) :
  Calls Tryz.prog 142 #[.string a, .string b] w fun e w' => e = .returned (.int .i64 (Lib.compareBytes a.data.toList b.data.toList)) ∧ w' = w := Any.strings_Compare Tryz.lays106 a b w
def Tryz.lays137_ren : Go.Shelf.Ren := ⟨fun | 137 => 112 | 217 => 155 | 266 => 184 | n => n, fun | 9 => 9 | 5 => 5 | 3 => 3 | n => n, fun | n => n⟩
theorem Tryz.lays137 : Go.Proofs.Lays.n137 Tryz.prog Tryz.lays137_ren := {
 mixed := by kernel_rfl
 f137 := Tryz.func112.trans (congrArg some (by kernel_rfl))
 f217 := Tryz.func155.trans (congrArg some (by kernel_rfl))
 f266 := Tryz.func184.trans (congrArg some (by kernel_rfl))
 t3 := Tryz.underlying3
 a3 := Tryz.isAgg3
 z3 := Tryz.sizeOf3
 v3 := Tryz.zeroValue3
 t5 := Tryz.underlying5
 a5 := Tryz.isAgg5
 z5 := Tryz.sizeOf5
 v5 := Tryz.zeroValue5
 t9 := Tryz.underlying9
 a9 := Tryz.isAgg9
 z9 := Tryz.sizeOf9
 v9 := Tryz.zeroValue9 }
open Go.RowKit in
theorem Tryz.strings_IndexByte (s : ByteArray) (c : Int) (w : World) :
  Calls Tryz.prog 112 #[.string s, .int .u8 c] w fun e w' => e = .returned (.int .i64 (Lib.indexByte s.data.toList c.toNat.toUInt8)) ∧ w' = w := Any.strings_IndexByte Tryz.lays137 s c w
open Go.RowKit in
open Go.RowKit in
open Go.RowKit in
open Go.RowKit in
theorem Tryz.Builder_String_any_f (B b : Nat) (l : List UInt8) (w : World) (h : Lib.IsBuilderF 190 5 B b (Lib.byteCells l) w) (hBw : B ≤ w.heap.size) :
  Calls Tryz.prog 99 #[.pointer (some ⟨b, 0, none⟩)] w fun e w' => e = .returned (.string ⟨l.toArray⟩) ∧ (Lib.IsBuilderF 190 5 B b (Lib.byteCells l) w' ∧ Below B w w') := Any.Builder_String_any_f Tryz.lays169 Tryz.Builder_Extra_169 B b l w h hBw
open Go.RowKit in
open Go.RowKit in
open Go.RowKit in
open Go.RowKit in
open Go.RowKit in
open Go.RowKit in
def Tryz.lays172_ren : Go.Shelf.Ren := ⟨fun | 172 => 113 | 244 => 156 | 245 => 157 | 247 => 185 | 279 => 186 | 280 => 187 | 281 => 188 | 282 => 189 | 287 => 164 | 316 => 211 | 171 => 160 | 205 => 212 | 321 => 195 | 322 => 196 | 243 => 193 | 246 => 213 | 283 => 217 | 284 => 218 | 285 => 219 | 286 => 220 | 129 => 96 | 317 => 227 | 318 => 228 | 319 => 229 | 320 => 230 | 337 => 233 | 338 => 179 | n => n, fun | 9 => 9 | 3 => 3 | 75 => 51 | 76 => 79 | 4 => 4 | 5 => 5 | 167 => 276 | 37 => 23 | 0 => 0 | 85 => 277 | 2 => 2 | 168 => 279 | 53 => 36 | 175 => 216 | 46 => 39 | 210 => 300 | 127 => 236 | 145 => 313 | 143 => 311 | 21 => 21 | 171 => 303 | 173 => 305 | 212 => 316 | 51 => 185 | 20 => 20 | 213 => 317 | 232 => 320 | 233 => 293 | 80 => 191 | n => n, fun | 15 => 7 | 16 => 8 | 17 => 9 | 18 => 10 | 19 => 6 | n => n⟩
theorem Tryz.lays172 : Go.Proofs.Lays.n172 Tryz.prog Tryz.lays172_ren := {
 mixed := by kernel_rfl
 f129 := Tryz.func96.trans (congrArg some (by kernel_rfl))
 f171 := Tryz.func160.trans (congrArg some (by kernel_rfl))
 f172 := Tryz.func113.trans (congrArg some (by kernel_rfl))
 f205 := Tryz.func212.trans (congrArg some (by kernel_rfl))
 f243 := Tryz.func193.trans (congrArg some (by kernel_rfl))
 f244 := Tryz.func156.trans (congrArg some (by kernel_rfl))
 f245 := Tryz.func157.trans (congrArg some (by kernel_rfl))
 f246 := Tryz.func213.trans (congrArg some (by kernel_rfl))
 f247 := Tryz.func185.trans (congrArg some (by kernel_rfl))
 f279 := Tryz.func186.trans (congrArg some (by kernel_rfl))
 f280 := Tryz.func187.trans (congrArg some (by kernel_rfl))
 f281 := Tryz.func188.trans (congrArg some (by kernel_rfl))
 f282 := Tryz.func189.trans (congrArg some (by kernel_rfl))
 f283 := Tryz.func217.trans (congrArg some (by kernel_rfl))
 f284 := Tryz.func218.trans (congrArg some (by kernel_rfl))
 f285 := Tryz.func219.trans (congrArg some (by kernel_rfl))
 f286 := Tryz.func220.trans (congrArg some (by kernel_rfl))
 f287 := Tryz.func164.trans (congrArg some (by kernel_rfl))
 f316 := Tryz.func211.trans (congrArg some (by kernel_rfl))
 f317 := Tryz.func227.trans (congrArg some (by kernel_rfl))
 f318 := Tryz.func228.trans (congrArg some (by kernel_rfl))
 f319 := Tryz.func229.trans (congrArg some (by kernel_rfl))
 f320 := Tryz.func230.trans (congrArg some (by kernel_rfl))
 f321 := Tryz.func195.trans (congrArg some (by kernel_rfl))
 f322 := Tryz.func196.trans (congrArg some (by kernel_rfl))
 f337 := Tryz.func233.trans (congrArg some (by kernel_rfl))
 f338 := Tryz.func179.trans (congrArg some (by kernel_rfl))
 t0 := Tryz.underlying0
 a0 := Tryz.isAgg0
 z0 := Tryz.sizeOf0
 v0 := Tryz.zeroValue0
 t2 := Tryz.underlying2
 a2 := Tryz.isAgg2
 z2 := Tryz.sizeOf2
 v2 := Tryz.zeroValue2
 t3 := Tryz.underlying3
 a3 := Tryz.isAgg3
 z3 := Tryz.sizeOf3
 v3 := Tryz.zeroValue3
 t4 := Tryz.underlying4
 a4 := Tryz.isAgg4
 z4 := Tryz.sizeOf4
 v4 := Tryz.zeroValue4
 t5 := Tryz.underlying5
 a5 := Tryz.isAgg5
 z5 := Tryz.sizeOf5
 v5 := Tryz.zeroValue5
 t9 := Tryz.underlying9
 a9 := Tryz.isAgg9
 z9 := Tryz.sizeOf9
 v9 := Tryz.zeroValue9
 t20 := Tryz.underlying20
 a20 := Tryz.isAgg20
 z20 := Tryz.sizeOf20
 v20 := Tryz.zeroValue20
 t21 := Tryz.underlying21
 a21 := Tryz.isAgg21
 z21 := Tryz.sizeOf21
 v21 := Tryz.zeroValue21
 t37 := Tryz.underlying23
 a37 := Tryz.isAgg23
 z37 := Tryz.sizeOf23
 v37 := Tryz.zeroValue23
 t46 := Tryz.underlying39
 a46 := Tryz.isAgg39
 z46 := Tryz.sizeOf39
 v46 := Tryz.zeroValue39
 t51 := Tryz.underlying185
 a51 := Tryz.isAgg185
 z51 := Tryz.sizeOf185
 v51 := Tryz.zeroValue185
 t53 := Tryz.underlying36
 a53 := Tryz.isAgg36
 z53 := Tryz.sizeOf36
 v53 := Tryz.zeroValue36
 t75 := Tryz.underlying51
 a75 := Tryz.isAgg51
 z75 := Tryz.sizeOf51
 v75 := Tryz.zeroValue51
 t76 := Tryz.underlying79
 a76 := Tryz.isAgg79
 z76 := Tryz.sizeOf79
 v76 := Tryz.zeroValue79
 t85 := Tryz.underlying277
 a85 := Tryz.isAgg277
 z85 := Tryz.sizeOf277
 v85 := Tryz.zeroValue277
 t127 := Tryz.underlying236
 a127 := Tryz.isAgg236
 z127 := Tryz.sizeOf236
 v127 := Tryz.zeroValue236
 t143 := Tryz.underlying311
 a143 := Tryz.isAgg311
 z143 := Tryz.sizeOf311
 v143 := Tryz.zeroValue311
 t145 := Tryz.underlying313
 a145 := Tryz.isAgg313
 z145 := Tryz.sizeOf313
 v145 := Tryz.zeroValue313
 t167 := Tryz.underlying276
 a167 := Tryz.isAgg276
 z167 := Tryz.sizeOf276
 v167 := Tryz.zeroValue276
 t168 := Tryz.underlying279
 a168 := Tryz.isAgg279
 z168 := Tryz.sizeOf279
 v168 := Tryz.zeroValue279
 t171 := Tryz.underlying303
 a171 := Tryz.isAgg303
 z171 := Tryz.sizeOf303
 v171 := Tryz.zeroValue303
 t173 := Tryz.underlying305
 a173 := Tryz.isAgg305
 z173 := Tryz.sizeOf305
 v173 := Tryz.zeroValue305
 t175 := Tryz.underlying216
 a175 := Tryz.isAgg216
 z175 := Tryz.sizeOf216
 v175 := Tryz.zeroValue216
 t210 := Tryz.underlying300
 a210 := Tryz.isAgg300
 z210 := Tryz.sizeOf300
 v210 := Tryz.zeroValue300
 t212 := Tryz.underlying316
 a212 := Tryz.isAgg316
 z212 := Tryz.sizeOf316
 v212 := Tryz.zeroValue316
 t213 := Tryz.underlying317
 a213 := Tryz.isAgg317
 z213 := Tryz.sizeOf317
 t232 := Tryz.underlying320
 a232 := Tryz.isAgg320
 z232 := Tryz.sizeOf320
 v232 := Tryz.zeroValue320
 t233 := Tryz.underlying293
 a233 := Tryz.isAgg293
 z233 := Tryz.sizeOf293
 v233 := Tryz.zeroValue293
 g15 := by kernel_rfl
 g16 := by kernel_rfl
 g17 := by kernel_rfl
 g18 := by kernel_rfl
 g19 := by kernel_rfl }
open Go.RowKit in
theorem Tryz.strconv_Atoi (s : ByteArray) (n : Int) (hl : s.size ≤ 18) (h : Lib.atoi s.data.toList = some n) (w : World) :
  Calls Tryz.prog 113 #[.string s] w fun e w' => e = .returned (.tuple #[.int .i64 n, .nilIface]) ∧ ∃ t, w' = Lib.bytesWorld w 5 t := Any.strconv_Atoi Tryz.lays172 s n hl h w
def Tryz.lays129_ren : Go.Shelf.Ren := ⟨fun | 129 => 96 | n => n, fun | 53 => 36 | 3 => 3 | 4 => 4 | 46 => 39 | 5 => 5 | 9 => 9 | n => n, fun | n => n⟩
theorem Tryz.lays129 : Go.Proofs.Lays.n129 Tryz.prog Tryz.lays129_ren := {
 mixed := by kernel_rfl
 f129 := Tryz.func96.trans (congrArg some (by kernel_rfl))
 t3 := Tryz.underlying3
 a3 := Tryz.isAgg3
 z3 := Tryz.sizeOf3
 v3 := Tryz.zeroValue3
 t4 := Tryz.underlying4
 a4 := Tryz.isAgg4
 z4 := Tryz.sizeOf4
 v4 := Tryz.zeroValue4
 t5 := Tryz.underlying5
 a5 := Tryz.isAgg5
 z5 := Tryz.sizeOf5
 v5 := Tryz.zeroValue5
 t9 := Tryz.underlying9
 a9 := Tryz.isAgg9
 z9 := Tryz.sizeOf9
 v9 := Tryz.zeroValue9
 t46 := Tryz.underlying39
 a46 := Tryz.isAgg39
 z46 := Tryz.sizeOf39
 v46 := Tryz.zeroValue39
 t53 := Tryz.underlying36
 a53 := Tryz.isAgg36
 z53 := Tryz.sizeOf36
 v53 := Tryz.zeroValue36 }
theorem Tryz.bits_Len64 (x : Int) (w : World) (h0 : 0 ≤ x) (h1 : x ≤ 18446744073709551615) :
  Calls Tryz.prog 96 #[.int .u64 x] w fun e w' => e = .returned (.int .i64 (Lib.bitLen x.toNat)) ∧ w' = w := Any.bits_Len64 Tryz.lays129 x w h0 h1
open Go.Lib in
open Go.Lib in
open Go.Lib in
open Go.Lib in
open Go.RowKit Go.Sort Go.Lib in
open Go.RowKit Go.Sort Go.Lib in
open Go.RowKit Go.Sort Go.Lib in
open Go.RowKit Go.Sort Go.Lib in
open Go.RowKit Go.Sort Go.Lib in
def Tryz.laysM171_ren : Go.Shelf.Ren := ⟨fun | 171 => 160 | 243 => 193 | 246 => 213 | 283 => 217 | 284 => 218 | 285 => 219 | 286 => 220 | 129 => 96 | 317 => 227 | 318 => 228 | 319 => 229 | 320 => 230 | 337 => 233 | 338 => 179 | n => n, fun | 3 => 3 | 9 => 9 | 2 => 2 | 4 => 4 | 171 => 303 | 0 => 0 | 53 => 36 | 37 => 23 | 5 => 5 | 173 => 305 | 212 => 316 | 51 => 185 | 20 => 20 | 213 => 317 | 46 => 39 | 232 => 320 | 233 => 293 | n => n, fun | 17 => 9 | 18 => 10 | 19 => 6 | n => n⟩
theorem Tryz.laysM171 : Go.Proofs.LaysM.n171 Tryz.prog Tryz.laysM171_ren := {
 mixed := by kernel_rfl
 f129 := Tryz.func96.trans (congrArg some (by kernel_rfl))
 f171 := Tryz.func160.trans (congrArg some (by kernel_rfl))
 f243 := Tryz.func193.trans (congrArg some (by kernel_rfl))
 f246 := Tryz.func213.trans (congrArg some (by kernel_rfl))
 f283 := Tryz.func217.trans (congrArg some (by kernel_rfl))
 f284 := Tryz.func218.trans (congrArg some (by kernel_rfl))
 f285 := Tryz.func219.trans (congrArg some (by kernel_rfl))
 f286 := Tryz.func220.trans (congrArg some (by kernel_rfl))
 f317 := Tryz.func227.trans (congrArg some (by kernel_rfl))
 f318 := Tryz.func228.trans (congrArg some (by kernel_rfl))
 f319 := Tryz.func229.trans (congrArg some (by kernel_rfl))
 f320 := Tryz.func230.trans (congrArg some (by kernel_rfl))
 f337 := Tryz.func233.trans (congrArg some (by kernel_rfl))
 f338 := Tryz.func179.trans (congrArg some (by kernel_rfl))
 t0 := Tryz.underlying0
 a0 := Tryz.isAgg0
 z0 := Tryz.sizeOf0
 v0 := Tryz.zeroValue0
 t2 := Tryz.underlying2
 a2 := Tryz.isAgg2
 z2 := Tryz.sizeOf2
 v2 := Tryz.zeroValue2
 t3 := Tryz.underlying3
 a3 := Tryz.isAgg3
 z3 := Tryz.sizeOf3
 v3 := Tryz.zeroValue3
 t4 := Tryz.underlying4
 a4 := Tryz.isAgg4
 z4 := Tryz.sizeOf4
 v4 := Tryz.zeroValue4
 t5 := Tryz.underlying5
 a5 := Tryz.isAgg5
 z5 := Tryz.sizeOf5
 v5 := Tryz.zeroValue5
 t9 := Tryz.underlying9
 a9 := Tryz.isAgg9
 z9 := Tryz.sizeOf9
 v9 := Tryz.zeroValue9
 t20 := Tryz.underlying20
 a20 := Tryz.isAgg20
 z20 := Tryz.sizeOf20
 v20 := Tryz.zeroValue20
 t37 := Tryz.underlying23
 a37 := Tryz.isAgg23
 z37 := Tryz.sizeOf23
 v37 := Tryz.zeroValue23
 t46 := Tryz.underlying39
 a46 := Tryz.isAgg39
 z46 := Tryz.sizeOf39
 v46 := Tryz.zeroValue39
 t51 := Tryz.underlying185
 a51 := Tryz.isAgg185
 z51 := Tryz.sizeOf185
 v51 := Tryz.zeroValue185
 t53 := Tryz.underlying36
 a53 := Tryz.isAgg36
 z53 := Tryz.sizeOf36
 v53 := Tryz.zeroValue36
 t171 := Tryz.underlying303
 a171 := Tryz.isAgg303
 z171 := Tryz.sizeOf303
 v171 := Tryz.zeroValue303
 t173 := Tryz.underlying305
 a173 := Tryz.isAgg305
 z173 := Tryz.sizeOf305
 v173 := Tryz.zeroValue305
 t212 := Tryz.underlying316
 a212 := Tryz.isAgg316
 z212 := Tryz.sizeOf316
 v212 := Tryz.zeroValue316
 t213 := Tryz.underlying317
 a213 := Tryz.isAgg317
 z213 := Tryz.sizeOf317
 t232 := Tryz.underlying320
 a232 := Tryz.isAgg320
 z232 := Tryz.sizeOf320
 v232 := Tryz.zeroValue320
 t233 := Tryz.underlying293
 a233 := Tryz.isAgg293
 z233 := Tryz.sizeOf293
 v233 := Tryz.zeroValue293
 g17 := by kernel_rfl
 g18 := by kernel_rfl
 g19 := by kernel_rfl
 i0 := by kernel_rfl
 i2 := by kernel_rfl
 i3 := by kernel_rfl
 i4 := by kernel_rfl
 i5 := by kernel_rfl
 i9 := by kernel_rfl
 i20 := by kernel_rfl
 i37 := by kernel_rfl
 i46 := by kernel_rfl
 i51 := by kernel_rfl
 i53 := by kernel_rfl
 i171 := by kernel_rfl
 i173 := by kernel_rfl
 i212 := by kernel_rfl
 i232 := by kernel_rfl
 i233 := by kernel_rfl
 m17 := by kernel_rfl
 m18 := by kernel_rfl
 m19 := by kernel_rfl }
open Go.RowKit Go.Sort Go.Lib in
theorem Tryz.strconv_Itoa (n : Int) (h0 : -9223372036854775808 ≤ n) (h1 : n ≤ 9223372036854775807) (w : World) (htab : Lib.TabIs Tryz.prog w "internal/strconv.uint64pow10" .u64 Lib.pow10Tab) :
  Calls Tryz.prog 160 #[.int .i64 n] w fun e w' => e = .returned (.string ⟨(Lib.itoa n).toArray⟩) ∧ ∃ k os, w' = grow (w.drewN k) os := Any.strconv_Itoa Tryz.laysM171 n h0 h1 w htab
open Go.RowKit Go.Sort Go.Lib in
open Go.RowKit in
open Go.RowKit in
open Go.RowKit in
open Go.RowKit in
open Go.RowKit in
open Go.RowKit in
open Go.RowKit in
def Tryz.laysC172_ren : Go.Shelf.Ren := ⟨fun | 172 => 113 | 244 => 156 | 245 => 157 | 247 => 185 | 279 => 186 | 280 => 187 | 281 => 188 | 282 => 189 | 287 => 164 | 316 => 211 | 171 => 160 | 205 => 212 | 321 => 195 | 322 => 196 | 243 => 193 | 246 => 213 | 283 => 217 | 284 => 218 | 285 => 219 | 286 => 220 | 129 => 96 | 317 => 227 | 318 => 228 | 319 => 229 | 320 => 230 | 337 => 233 | 338 => 179 | n => n, fun | 9 => 9 | 3 => 3 | 75 => 51 | 76 => 79 | 4 => 4 | 5 => 5 | 167 => 276 | 37 => 23 | 0 => 0 | 85 => 277 | 2 => 2 | 168 => 279 | 53 => 36 | 175 => 216 | 46 => 39 | 210 => 300 | 127 => 236 | 145 => 313 | 143 => 311 | 21 => 21 | 171 => 303 | 173 => 305 | 212 => 316 | 51 => 185 | 20 => 20 | 213 => 317 | 232 => 320 | 233 => 293 | 80 => 191 | n => n, fun | 15 => 7 | 16 => 8 | 17 => 9 | 18 => 10 | 19 => 6 | n => n⟩
theorem Tryz.laysC172 : Go.Proofs.LaysC.n172 Tryz.prog Tryz.laysC172_ren := {
 mixed := by kernel_rfl
 f129 := Tryz.func96.trans (congrArg some (by kernel_rfl))
 f171 := Tryz.func160.trans (congrArg some (by kernel_rfl))
 f172 := Tryz.func113.trans (congrArg some (by kernel_rfl))
 f205 := Tryz.func212.trans (congrArg some (by kernel_rfl))
 f243 := Tryz.func193.trans (congrArg some (by kernel_rfl))
 f244 := Tryz.func156.trans (congrArg some (by kernel_rfl))
 f245 := Tryz.func157.trans (congrArg some (by kernel_rfl))
 f246 := Tryz.func213.trans (congrArg some (by kernel_rfl))
 f247 := Tryz.func185.trans (congrArg some (by kernel_rfl))
 f279 := Tryz.func186.trans (congrArg some (by kernel_rfl))
 f280 := Tryz.func187.trans (congrArg some (by kernel_rfl))
 f281 := Tryz.func188.trans (congrArg some (by kernel_rfl))
 f282 := Tryz.func189.trans (congrArg some (by kernel_rfl))
 f283 := Tryz.func217.trans (congrArg some (by kernel_rfl))
 f284 := Tryz.func218.trans (congrArg some (by kernel_rfl))
 f285 := Tryz.func219.trans (congrArg some (by kernel_rfl))
 f286 := Tryz.func220.trans (congrArg some (by kernel_rfl))
 f287 := Tryz.func164.trans (congrArg some (by kernel_rfl))
 f316 := Tryz.func211.trans (congrArg some (by kernel_rfl))
 f317 := Tryz.func227.trans (congrArg some (by kernel_rfl))
 f318 := Tryz.func228.trans (congrArg some (by kernel_rfl))
 f319 := Tryz.func229.trans (congrArg some (by kernel_rfl))
 f320 := Tryz.func230.trans (congrArg some (by kernel_rfl))
 f321 := Tryz.func195.trans (congrArg some (by kernel_rfl))
 f322 := Tryz.func196.trans (congrArg some (by kernel_rfl))
 f337 := Tryz.func233.trans (congrArg some (by kernel_rfl))
 f338 := Tryz.func179.trans (congrArg some (by kernel_rfl))
 t0 := Tryz.underlying0
 a0 := Tryz.isAgg0
 z0 := Tryz.sizeOf0
 v0 := Tryz.zeroValue0
 t2 := Tryz.underlying2
 a2 := Tryz.isAgg2
 z2 := Tryz.sizeOf2
 v2 := Tryz.zeroValue2
 t3 := Tryz.underlying3
 a3 := Tryz.isAgg3
 z3 := Tryz.sizeOf3
 v3 := Tryz.zeroValue3
 t4 := Tryz.underlying4
 a4 := Tryz.isAgg4
 z4 := Tryz.sizeOf4
 v4 := Tryz.zeroValue4
 t5 := Tryz.underlying5
 a5 := Tryz.isAgg5
 z5 := Tryz.sizeOf5
 v5 := Tryz.zeroValue5
 t9 := Tryz.underlying9
 a9 := Tryz.isAgg9
 z9 := Tryz.sizeOf9
 v9 := Tryz.zeroValue9
 t20 := Tryz.underlying20
 a20 := Tryz.isAgg20
 z20 := Tryz.sizeOf20
 v20 := Tryz.zeroValue20
 t21 := Tryz.underlying21
 a21 := Tryz.isAgg21
 z21 := Tryz.sizeOf21
 v21 := Tryz.zeroValue21
 t37 := Tryz.underlying23
 a37 := Tryz.isAgg23
 z37 := Tryz.sizeOf23
 v37 := Tryz.zeroValue23
 t46 := Tryz.underlying39
 a46 := Tryz.isAgg39
 z46 := Tryz.sizeOf39
 v46 := Tryz.zeroValue39
 t51 := Tryz.underlying185
 a51 := Tryz.isAgg185
 z51 := Tryz.sizeOf185
 v51 := Tryz.zeroValue185
 t53 := Tryz.underlying36
 a53 := Tryz.isAgg36
 z53 := Tryz.sizeOf36
 v53 := Tryz.zeroValue36
 t75 := Tryz.underlying51
 a75 := Tryz.isAgg51
 z75 := Tryz.sizeOf51
 v75 := Tryz.zeroValue51
 t76 := Tryz.underlying79
 a76 := Tryz.isAgg79
 z76 := Tryz.sizeOf79
 v76 := Tryz.zeroValue79
 t85 := Tryz.underlying277
 a85 := Tryz.isAgg277
 z85 := Tryz.sizeOf277
 v85 := Tryz.zeroValue277
 t127 := Tryz.underlying236
 a127 := Tryz.isAgg236
 z127 := Tryz.sizeOf236
 v127 := Tryz.zeroValue236
 t143 := Tryz.underlying311
 a143 := Tryz.isAgg311
 z143 := Tryz.sizeOf311
 v143 := Tryz.zeroValue311
 t145 := Tryz.underlying313
 a145 := Tryz.isAgg313
 z145 := Tryz.sizeOf313
 v145 := Tryz.zeroValue313
 t167 := Tryz.underlying276
 a167 := Tryz.isAgg276
 z167 := Tryz.sizeOf276
 v167 := Tryz.zeroValue276
 t168 := Tryz.underlying279
 a168 := Tryz.isAgg279
 z168 := Tryz.sizeOf279
 v168 := Tryz.zeroValue279
 t171 := Tryz.underlying303
 a171 := Tryz.isAgg303
 z171 := Tryz.sizeOf303
 v171 := Tryz.zeroValue303
 t173 := Tryz.underlying305
 a173 := Tryz.isAgg305
 z173 := Tryz.sizeOf305
 v173 := Tryz.zeroValue305
 t175 := Tryz.underlying216
 a175 := Tryz.isAgg216
 z175 := Tryz.sizeOf216
 v175 := Tryz.zeroValue216
 t210 := Tryz.underlying300
 a210 := Tryz.isAgg300
 z210 := Tryz.sizeOf300
 v210 := Tryz.zeroValue300
 t212 := Tryz.underlying316
 a212 := Tryz.isAgg316
 z212 := Tryz.sizeOf316
 v212 := Tryz.zeroValue316
 t213 := Tryz.underlying317
 a213 := Tryz.isAgg317
 z213 := Tryz.sizeOf317
 t232 := Tryz.underlying320
 a232 := Tryz.isAgg320
 z232 := Tryz.sizeOf320
 v232 := Tryz.zeroValue320
 t233 := Tryz.underlying293
 a233 := Tryz.isAgg293
 z233 := Tryz.sizeOf293
 v233 := Tryz.zeroValue293
 g15 := by kernel_rfl
 g16 := by kernel_rfl
 g17 := by kernel_rfl
 g18 := by kernel_rfl
 g19 := by kernel_rfl
 t80 := Tryz.underlying191
 a80 := Tryz.isAgg191
 z80 := Tryz.sizeOf191
 v80 := Tryz.zeroValue191
 i0 := by kernel_rfl
 i2 := by kernel_rfl
 i3 := by kernel_rfl
 i4 := by kernel_rfl
 i5 := by kernel_rfl
 i9 := by kernel_rfl
 i20 := by kernel_rfl
 i21 := by kernel_rfl
 i37 := by kernel_rfl
 i46 := by kernel_rfl
 i51 := by kernel_rfl
 i53 := by kernel_rfl
 i75 := by kernel_rfl
 i76 := by kernel_rfl
 i80 := by kernel_rfl
 i85 := by kernel_rfl
 i127 := by kernel_rfl
 i143 := by kernel_rfl
 i145 := by kernel_rfl
 i167 := by kernel_rfl
 i168 := by kernel_rfl
 i171 := by kernel_rfl
 i173 := by kernel_rfl
 i175 := by kernel_rfl
 i210 := by kernel_rfl
 i212 := by kernel_rfl
 i232 := by kernel_rfl
 i233 := by kernel_rfl
 m15 := by kernel_rfl
 m16 := by kernel_rfl
 m17 := by kernel_rfl
 m18 := by kernel_rfl
 m19 := by kernel_rfl
 c0 := by kernel_rfl
 c2 := by kernel_rfl
 c3 := by kernel_rfl
 c4 := by kernel_rfl
 c5 := by kernel_rfl
 c9 := by kernel_rfl
 c20 := by kernel_rfl
 c21 := by kernel_rfl
 c37 := by kernel_rfl
 c46 := by kernel_rfl
 c51 := by kernel_rfl
 c53 := by kernel_rfl
 c75 := by kernel_rfl
 c76 := by kernel_rfl
 c80 := by kernel_rfl
 c85 := by kernel_rfl
 c127 := by kernel_rfl
 c143 := by kernel_rfl
 c145 := by kernel_rfl
 c167 := by kernel_rfl
 c168 := by kernel_rfl
 c171 := by kernel_rfl
 c173 := by kernel_rfl
 c175 := by kernel_rfl
 c210 := by kernel_rfl
 c212 := by kernel_rfl
 c213 := by kernel_rfl
 c232 := by kernel_rfl
 c233 := by kernel_rfl }
open Go.RowKit in
theorem Tryz.strconv_Atoi_err (s : ByteArray) (hl : s.size ≤ 18) (h : Lib.atoi s.data.toList = none) (ev : Value) (w : World) (hv : w.cell? ⟨7, 0, none⟩ = some ev) (hev : ev = .nilIface ∨ ∃ te pe, ev = .iface te pe) :
  Calls Tryz.prog 113 #[.string s] w fun e w' => ∃ N, e = .returned (.tuple #[.int .i64 0, .iface 279 (.pointer (some ⟨N, 0, none⟩))]) ∧ w.heap.size ≤ N ∧ w'.heap[N]? = some (.cells #[.string ⟨#[65, 116, 111, 105]⟩, .string s, ev] 300 (0, 0)) ∧ Below w.heap.size w w' := Any.strconv_Atoi_err Tryz.laysC172 s hl h ev w hv hev
open Go.RowKit Go.Lib in
open Go.RowKit Go.Lib in
open Go.RowKit Go.Lib in
open Go.RowKit Go.Lib in
open Go.RowKit Go.Lib in
open Go.RowKit Go.Lib in
open Go.RowKit Go.Lib in
open Go.RowKit Go.Lib in
open Go.RowKit Go.Lib in
open Go.RowKit Go.Lib in
open Go.RowKit Go.Lib in
open Go.RowKit Go.Lib in
open Go.RowKit Go.Lib in
open Go.RowKit Go.Lib in
def Tryz.lays101_ren : Go.Shelf.Ren := ⟨fun | 101 => 114 | 208 => 158 | 206 => 190 | n => n, fun | 9 => 9 | 4 => 4 | 3 => 3 | n => n, fun | n => n⟩
theorem Tryz.lays101 : Go.Proofs.Lays.n101 Tryz.prog Tryz.lays101_ren := {
 mixed := by kernel_rfl
 f101 := Tryz.func114.trans (congrArg some (by kernel_rfl))
 f206 := Tryz.func190.trans (congrArg some (by kernel_rfl))
 f208 := Tryz.func158.trans (congrArg some (by kernel_rfl))
 t3 := Tryz.underlying3
 a3 := Tryz.isAgg3
 z3 := Tryz.sizeOf3
 v3 := Tryz.zeroValue3
 t4 := Tryz.underlying4
 a4 := Tryz.isAgg4
 z4 := Tryz.sizeOf4
 v4 := Tryz.zeroValue4
 t9 := Tryz.underlying9
 a9 := Tryz.isAgg9
 z9 := Tryz.sizeOf9
 v9 := Tryz.zeroValue9 }
open Go.RowKit Go.Lib in
theorem Tryz.strings_TrimPrefix (s p : ByteArray) (w : World) :
  Calls Tryz.prog 114 #[.string s, .string p] w fun e w' => e = .returned (.string ⟨(Lib.trimPrefix s.data.toList p.data.toList).toArray⟩) ∧ w' = w := Any.strings_TrimPrefix Tryz.lays101 s p w
def Tryz.lays197_ren : Go.Shelf.Ren := ⟨fun | 197 => 81 | 260 => 128 | n => n, fun | 9 => 9 | 21 => 21 | 3 => 3 | 4 => 4 | 5 => 5 | 105 => 168 | 119 => 260 | 0 => 0 | 46 => 39 | 139 => 263 | 138 => 262 | n => n, fun | 3 => 2 | 4 => 3 | n => n⟩
theorem Tryz.lays197 : Go.Proofs.Lays.n197 Tryz.prog Tryz.lays197_ren := {
 mixed := by kernel_rfl
 f197 := Tryz.func81.trans (congrArg some (by kernel_rfl))
 f260 := Tryz.func128.trans (congrArg some (by kernel_rfl))
 t0 := Tryz.underlying0
 a0 := Tryz.isAgg0
 z0 := Tryz.sizeOf0
 v0 := Tryz.zeroValue0
 t3 := Tryz.underlying3
 a3 := Tryz.isAgg3
 z3 := Tryz.sizeOf3
 v3 := Tryz.zeroValue3
 t4 := Tryz.underlying4
 a4 := Tryz.isAgg4
 z4 := Tryz.sizeOf4
 v4 := Tryz.zeroValue4
 t5 := Tryz.underlying5
 a5 := Tryz.isAgg5
 z5 := Tryz.sizeOf5
 v5 := Tryz.zeroValue5
 t9 := Tryz.underlying9
 a9 := Tryz.isAgg9
 z9 := Tryz.sizeOf9
 v9 := Tryz.zeroValue9
 t21 := Tryz.underlying21
 a21 := Tryz.isAgg21
 z21 := Tryz.sizeOf21
 v21 := Tryz.zeroValue21
 t46 := Tryz.underlying39
 a46 := Tryz.isAgg39
 z46 := Tryz.sizeOf39
 v46 := Tryz.zeroValue39
 t105 := Tryz.underlying168
 a105 := Tryz.isAgg168
 z105 := Tryz.sizeOf168
 v105 := Tryz.zeroValue168
 t119 := Tryz.underlying260
 a119 := Tryz.isAgg260
 z119 := Tryz.sizeOf260
 t138 := Tryz.underlying262
 a138 := Tryz.isAgg262
 z138 := Tryz.sizeOf262
 v138 := Tryz.zeroValue262
 t139 := Tryz.underlying263
 a139 := Tryz.isAgg263
 z139 := Tryz.sizeOf263
 v139 := Tryz.zeroValue263
 g3 := by kernel_rfl
 g4 := by kernel_rfl }
open Go.RowKit Go.Lib in
open Go.RowKit Go.Lib in
open Go.RowKit Go.Lib in
open Go.RowKit Go.Lib in
open Go.RowKit Go.Lib in
open Go.RowKit Go.Lib in
open Go.RowKit Go.Lib in
def Tryz.lays260_ren : Go.Shelf.Ren := ⟨fun | 260 => 128 | n => n, fun | 9 => 9 | 21 => 21 | 3 => 3 | 4 => 4 | 5 => 5 | 119 => 260 | 0 => 0 | 46 => 39 | 139 => 263 | 138 => 262 | n => n, fun | 3 => 2 | 4 => 3 | n => n⟩
theorem Tryz.lays260 : Go.Proofs.Lays.n260 Tryz.prog Tryz.lays260_ren := {
 mixed := by kernel_rfl
 f260 := Tryz.func128.trans (congrArg some (by kernel_rfl))
 t0 := Tryz.underlying0
 a0 := Tryz.isAgg0
 z0 := Tryz.sizeOf0
 v0 := Tryz.zeroValue0
 t3 := Tryz.underlying3
 a3 := Tryz.isAgg3
 z3 := Tryz.sizeOf3
 v3 := Tryz.zeroValue3
 t4 := Tryz.underlying4
 a4 := Tryz.isAgg4
 z4 := Tryz.sizeOf4
 v4 := Tryz.zeroValue4
 t5 := Tryz.underlying5
 a5 := Tryz.isAgg5
 z5 := Tryz.sizeOf5
 v5 := Tryz.zeroValue5
 t9 := Tryz.underlying9
 a9 := Tryz.isAgg9
 z9 := Tryz.sizeOf9
 v9 := Tryz.zeroValue9
 t21 := Tryz.underlying21
 a21 := Tryz.isAgg21
 z21 := Tryz.sizeOf21
 v21 := Tryz.zeroValue21
 t46 := Tryz.underlying39
 a46 := Tryz.isAgg39
 z46 := Tryz.sizeOf39
 v46 := Tryz.zeroValue39
 t119 := Tryz.underlying260
 a119 := Tryz.isAgg260
 z119 := Tryz.sizeOf260
 t138 := Tryz.underlying262
 a138 := Tryz.isAgg262
 z138 := Tryz.sizeOf262
 v138 := Tryz.zeroValue262
 t139 := Tryz.underlying263
 a139 := Tryz.isAgg263
 z139 := Tryz.sizeOf263
 v139 := Tryz.zeroValue263
 g3 := by kernel_rfl
 g4 := by kernel_rfl }
open Go.RowKit Go.Lib in
open Go.RowKit Go.Lib in
theorem Tryz.utf8_DecodeRuneInString (s : ByteArray) (w : World) (hT : Lib.Utf8Tabs 2 3 w) :
  Calls Tryz.prog 81 #[.string s] w fun e w' => e = .returned (.tuple #[.int .i32 (Lib.decodeGo s).1, .int .i64 (Lib.decodeGo s).2]) ∧ Below w.heap.size w w' := Any.utf8_DecodeRuneInString Tryz.lays197 s w hT
end Go.Proofs
