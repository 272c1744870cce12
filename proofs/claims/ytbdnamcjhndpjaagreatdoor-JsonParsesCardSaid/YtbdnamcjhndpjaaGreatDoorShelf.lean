/-
 DERIVED: THE SHELF's CONTRACTS AT THIS DUMP, IN PLAIN WORDS (tools/lay-plain.mjs out of 'TryzShelf.lean', which tools/lay-shelf.mjs wrote): THE SAME DECLARATIONS UNDER THE SAME NAMES: 'import', 'namespace', 'open', 'def', 'theorem' AND NOTHING ELSE: no command of the shelf's: FOR A HAND-IN. Each laying: the table of numbers ('.._ren') and one theorem, a field a fact of the dump's own or the kernel's comparison; each contract: ONE APPLICATION.
-/
import Derived.Shelf.Strings.Builder1
import Derived.Shelf.Small.Utf8
import Derived.Shelf.Small.Strs
import Derived.Shelf.Strings.BuilderF
import Derived.Shelf.Strings.BuilderK
import Derived.Shelf.Strings.BuilderRune
import Derived.Shelf.Utf8.AppendRune
import Derived.Shelf.Utf8.AppendRunePlain
import Derived.Shelf.Strconv.Itoa0
import Derived.Shelf.Strconv.Itoa1
import Derived.Shelf.LaysM
import Derived.Shelf.Strconv.Itoa2
import Derived.Shelf.Strconv.Itoa3
import Derived.Shelf.Strings.Search1
import Derived.Shelf.Strings.Search2
import Derived.Shelf.Strings.Search3
import Derived.Shelf.Strings.Shaped
import Derived.Shelf.Strings.Prefix
import Derived.Shelf.Unicode.Decode
import Derived.Shelf.Strings.Runes
import Derived.Shelf.Strings.IndexAny
import Derived.Shelf.Strings.AsciiSet
import Derived.Shelf.Strings.IndexAnyAll
import Derived.Shelf.Unicode.DecodeSlow
import Derived.Shelf.Unicode.DecodeAny
import Derived.Shelf.Strings.BuilderCap
import Derived.Test.YtbdnamcjhndpjaaGreatDoorProg
namespace Go.Proofs
open Go.Shelf
def Tryz.lays169_ren : Go.Shelf.Ren := ⟨fun | 169 => 67 | n => n, fun | 70 => 119 | 9 => 9 | 0 => 0 | 72 => 121 | 37 => 103 | 127 => 152 | 3 => 3 | 5 => 5 | n => n, fun | n => n⟩
theorem Tryz.lays169 : Go.Proofs.Lays.n169 Tryz.prog Tryz.lays169_ren := {
 mixed := by kernel_rfl
 f169 := Tryz.func67.trans (congrArg some (by kernel_rfl))
 t0 := Tryz.underlying0
 a0 := Tryz.isAgg0
 z0 := Tryz.sizeOf0
 v0 := Tryz.zeroValue0
 t3 := Tryz.underlying3
 a3 := Tryz.isAgg3
 z3 := Tryz.sizeOf3
 v3 := Tryz.zeroValue3
 t9 := Tryz.underlying9
 a9 := Tryz.isAgg9
 z9 := Tryz.sizeOf9
 v9 := Tryz.zeroValue9
 t37 := Tryz.underlying103
 a37 := Tryz.isAgg103
 z37 := Tryz.sizeOf103
 v37 := Tryz.zeroValue103
 t70 := Tryz.underlying119
 a70 := Tryz.isAgg119
 z70 := Tryz.sizeOf119
 v70 := Tryz.zeroValue119
 t72 := Tryz.underlying121
 a72 := Tryz.isAgg121
 z72 := Tryz.sizeOf121
 v72 := Tryz.zeroValue121
 t127 := Tryz.underlying152
 a127 := Tryz.isAgg152
 z127 := Tryz.sizeOf152
 v127 := Tryz.zeroValue152 }
theorem Tryz.Builder_Extra_169 : Builder.Extra Tryz.prog Tryz.lays169_ren := {
 sizeBuilder := by kernel_rfl
 liesBuilder := by kernel_rfl
 t5 := Tryz.underlying5
 a5 := Tryz.isAgg5
 z5 := Tryz.sizeOf5
 v5 := Tryz.zeroValue5
 infoByte := by kernel_rfl
 cellsByte := by kernel_rfl
 sizeByte := by kernel_rfl
 neB5 := by decide }
open Go.RowKit in
open Go.RowKit in
open Go.RowKit in
def Tryz.lays118_ren : Go.Shelf.Ren := ⟨fun | 118 => 66 | n => n, fun | 21 => 21 | 3 => 3 | 4 => 4 | n => n, fun | n => n⟩
theorem Tryz.lays118 : Go.Proofs.Lays.n118 Tryz.prog Tryz.lays118_ren := {
 mixed := by kernel_rfl
 f118 := Tryz.func66.trans (congrArg some (by kernel_rfl))
 t3 := Tryz.underlying3
 a3 := Tryz.isAgg3
 z3 := Tryz.sizeOf3
 v3 := Tryz.zeroValue3
 t4 := Tryz.underlying4
 a4 := Tryz.isAgg4
 z4 := Tryz.sizeOf4
 v4 := Tryz.zeroValue4
 t21 := Tryz.underlying21
 a21 := Tryz.isAgg21
 z21 := Tryz.sizeOf21
 v21 := Tryz.zeroValue21 }
theorem Tryz.utf8_RuneLen (r : Int) (w : World) :
  Calls Tryz.prog 66 #[.int .i32 r] w fun e w' => e = .returned (.int .i64 (Lib.runeLen r)) ∧ w' = w := Any.utf8_RuneLen Tryz.lays118 r w
def Tryz.lays119_ren : Go.Shelf.Ren := ⟨fun | 119 => 114 | n => n, fun | 21 => 21 | 4 => 4 | n => n, fun | n => n⟩
def Tryz.lays137_ren : Go.Shelf.Ren := ⟨fun | 137 => 18 | 217 => 36 | 266 => 63 | n => n, fun | 9 => 9 | 5 => 5 | 3 => 3 | n => n, fun | n => n⟩
theorem Tryz.lays137 : Go.Proofs.Lays.n137 Tryz.prog Tryz.lays137_ren := {
 mixed := by kernel_rfl
 f137 := Tryz.func18.trans (congrArg some (by kernel_rfl))
 f217 := Tryz.func36.trans (congrArg some (by kernel_rfl))
 f266 := Tryz.func63.trans (congrArg some (by kernel_rfl))
 t3 := Tryz.underlying3
 a3 := Tryz.isAgg3
 z3 := Tryz.sizeOf3
 v3 := Tryz.zeroValue3
 t5 := Tryz.underlying5
 a5 := Tryz.isAgg5
 z5 := Tryz.sizeOf5
 v5 := Tryz.zeroValue5
 t9 := Tryz.underlying9
 a9 := Tryz.isAgg9
 z9 := Tryz.sizeOf9
 v9 := Tryz.zeroValue9 }
open Go.RowKit in
theorem Tryz.strings_IndexByte (s : ByteArray) (c : Int) (w : World) :
  Calls Tryz.prog 18 #[.string s, .int .u8 c] w fun e w' => e = .returned (.int .i64 (Lib.indexByte s.data.toList c.toNat.toUInt8)) ∧ w' = w := Any.strings_IndexByte Tryz.lays137 s c w
open Go.RowKit in
open Go.RowKit in
open Go.RowKit in
open Go.RowKit in
open Go.RowKit in
open Go.RowKit in
theorem Tryz.Builder_String_any_k (B b : Nat) (l : List UInt8) (w : World) (h : Lib.IsBuilderF 121 5 B b (Lib.byteCells l) w) (hBw : B ≤ w.heap.size) :
  Calls Tryz.prog 67 #[.pointer (some ⟨b, 0, none⟩)] w fun e w' => e = .returned (.string ⟨l.toArray⟩) ∧ (Lib.IsBuilderF 121 5 B b (Lib.byteCells l) w' ∧ Below B w w' ∧ Lib.OthersKept 5 (some b) w w') := Any.Builder_String_any_k Tryz.lays169 Tryz.Builder_Extra_169 B b l w h hBw
def Tryz.lays278_ren : Go.Shelf.Ren := ⟨fun | 278 => 113 | n => n, fun | 37 => 103 | 21 => 21 | 51 => 166 | 4 => 4 | 46 => 147 | 5 => 5 | n => n, fun | n => n⟩
open Go.RowKit in
def Tryz.lays242_ren : Go.Shelf.Ren := ⟨fun | 242 => 95 | 278 => 113 | n => n, fun | 37 => 103 | 21 => 21 | 51 => 166 | 4 => 4 | 5 => 5 | 46 => 147 | n => n, fun | n => n⟩
theorem Tryz.lays242 : Go.Proofs.Lays.n242 Tryz.prog Tryz.lays242_ren := {
 mixed := by kernel_rfl
 f242 := Tryz.func95.trans (congrArg some (by kernel_rfl))
 f278 := Tryz.func113.trans (congrArg some (by kernel_rfl))
 t4 := Tryz.underlying4
 a4 := Tryz.isAgg4
 z4 := Tryz.sizeOf4
 v4 := Tryz.zeroValue4
 t5 := Tryz.underlying5
 a5 := Tryz.isAgg5
 z5 := Tryz.sizeOf5
 v5 := Tryz.zeroValue5
 t21 := Tryz.underlying21
 a21 := Tryz.isAgg21
 z21 := Tryz.sizeOf21
 v21 := Tryz.zeroValue21
 t37 := Tryz.underlying103
 a37 := Tryz.isAgg103
 z37 := Tryz.sizeOf103
 v37 := Tryz.zeroValue103
 t46 := Tryz.underlying147
 a46 := Tryz.isAgg147
 z46 := Tryz.sizeOf147
 v46 := Tryz.zeroValue147
 t51 := Tryz.underlying166
 a51 := Tryz.isAgg166
 z51 := Tryz.sizeOf166
 v51 := Tryz.zeroValue166 }
open Go.RowKit in
theorem Tryz.utf8_AppendRune_row (B : Nat) (v : Value) (n : Nat) (xs : List Value) (r : Int) (hr0 : -2147483648 ≤ r) (hr1 : r ≤ 2147483647) (w : World) (hown : w.ownsRowF B 5 1 v n xs) (hlen : n + 4 ≤ 140737488355328) (hBw : B ≤ w.heap.size) :
  Calls Tryz.prog 95 #[v, .int .i32 r] w fun e w' => ∃ v', e = .returned v' ∧ w'.ownsRowF B 5 1 v' (n + (Lib.runeCells r).length) (xs ++ Lib.runeCells r) ∧ ∃ o, (w.alloc o).grownBy w' v.ownBlock := Any.utf8_AppendRune_row Tryz.lays242 (by kernel_rfl) B v n xs r hr0 hr1 w hown hlen hBw
open Go.RowKit in
open Go.RowKit in
def Tryz.lays129_ren : Go.Shelf.Ren := ⟨fun | 129 => 127 | n => n, fun | 53 => 175 | 3 => 3 | 4 => 4 | 46 => 147 | 5 => 5 | 9 => 9 | n => n, fun | n => n⟩
def Tryz.lays317_ren : Go.Shelf.Ren := ⟨fun | 317 => 126 | n => n, fun | 3 => 3 | 46 => 147 | n => n, fun | n => n⟩
open Go.Lib in
def Tryz.lays318_ren : Go.Shelf.Ren := ⟨fun | 318 => 128 | n => n, fun | 3 => 3 | 4 => 4 | n => n, fun | n => n⟩
open Go.Lib in
def Tryz.lays283_ren : Go.Shelf.Ren := ⟨fun | 283 => 122 | n => n, fun | 3 => 3 | 9 => 9 | 4 => 4 | n => n, fun | n => n⟩
open Go.Lib in
def Tryz.laysM284_ren : Go.Shelf.Ren := ⟨fun | 284 => 123 | 129 => 127 | 317 => 126 | 318 => 128 | n => n, fun | 53 => 175 | 3 => 3 | 212 => 181 | 0 => 0 | 4 => 4 | 46 => 147 | 5 => 5 | 9 => 9 | n => n, fun | 17 => 3 | n => n⟩
open Go.Lib in
def Tryz.lays285_ren : Go.Shelf.Ren := ⟨fun | 285 => 124 | n => n, fun | 37 => 103 | 53 => 175 | 3 => 3 | 4 => 4 | 51 => 166 | 9 => 9 | 5 => 5 | 0 => 0 | n => n, fun | n => n⟩
open Go.RowKit Go.Sort Go.Lib in
def Tryz.laysM246_ren : Go.Shelf.Ren := ⟨fun | 246 => 121 | 283 => 122 | 284 => 123 | 285 => 124 | 286 => 125 | 129 => 127 | 317 => 126 | 318 => 128 | 319 => 129 | 320 => 130 | 337 => 131 | 338 => 132 | n => n, fun | 2 => 2 | 3 => 3 | 9 => 9 | 4 => 4 | 171 => 174 | 0 => 0 | 53 => 175 | 37 => 103 | 5 => 5 | 173 => 178 | 212 => 181 | 51 => 166 | 20 => 20 | 213 => 182 | 46 => 147 | 232 => 185 | 233 => 186 | n => n, fun | 17 => 3 | 18 => 4 | 19 => 5 | n => n⟩
open Go.RowKit Go.Sort Go.Lib in
def Tryz.lays246_ren : Go.Shelf.Ren := ⟨fun | 246 => 121 | 283 => 122 | 284 => 123 | 285 => 124 | 286 => 125 | 129 => 127 | 317 => 126 | 318 => 128 | 319 => 129 | 320 => 130 | 337 => 131 | 338 => 132 | n => n, fun | 2 => 2 | 3 => 3 | 9 => 9 | 4 => 4 | 171 => 174 | 0 => 0 | 53 => 175 | 37 => 103 | 5 => 5 | 173 => 178 | 212 => 181 | 51 => 166 | 20 => 20 | 213 => 182 | 46 => 147 | 232 => 185 | 233 => 186 | n => n, fun | 17 => 3 | 18 => 4 | 19 => 5 | n => n⟩
open Go.RowKit Go.Sort Go.Lib in
def Tryz.laysM243_ren : Go.Shelf.Ren := ⟨fun | 243 => 120 | 246 => 121 | 283 => 122 | 284 => 123 | 285 => 124 | 286 => 125 | 129 => 127 | 317 => 126 | 318 => 128 | 319 => 129 | 320 => 130 | 337 => 131 | 338 => 132 | n => n, fun | 3 => 3 | 9 => 9 | 2 => 2 | 4 => 4 | 171 => 174 | 0 => 0 | 53 => 175 | 37 => 103 | 5 => 5 | 173 => 178 | 212 => 181 | 51 => 166 | 20 => 20 | 213 => 182 | 46 => 147 | 232 => 185 | 233 => 186 | n => n, fun | 17 => 3 | 18 => 4 | 19 => 5 | n => n⟩
open Go.RowKit Go.Sort Go.Lib in
def Tryz.lays243_ren : Go.Shelf.Ren := ⟨fun | 243 => 120 | 246 => 121 | 283 => 122 | 284 => 123 | 285 => 124 | 286 => 125 | 129 => 127 | 317 => 126 | 318 => 128 | 319 => 129 | 320 => 130 | 337 => 131 | 338 => 132 | n => n, fun | 3 => 3 | 9 => 9 | 2 => 2 | 4 => 4 | 171 => 174 | 0 => 0 | 53 => 175 | 37 => 103 | 5 => 5 | 173 => 178 | 212 => 181 | 51 => 166 | 20 => 20 | 213 => 182 | 46 => 147 | 232 => 185 | 233 => 186 | n => n, fun | 17 => 3 | 18 => 4 | 19 => 5 | n => n⟩
open Go.RowKit Go.Sort Go.Lib in
def Tryz.laysM171_ren : Go.Shelf.Ren := ⟨fun | 171 => 116 | 243 => 120 | 246 => 121 | 283 => 122 | 284 => 123 | 285 => 124 | 286 => 125 | 129 => 127 | 317 => 126 | 318 => 128 | 319 => 129 | 320 => 130 | 337 => 131 | 338 => 132 | n => n, fun | 3 => 3 | 9 => 9 | 2 => 2 | 4 => 4 | 171 => 174 | 0 => 0 | 53 => 175 | 37 => 103 | 5 => 5 | 173 => 178 | 212 => 181 | 51 => 166 | 20 => 20 | 213 => 182 | 46 => 147 | 232 => 185 | 233 => 186 | n => n, fun | 17 => 3 | 18 => 4 | 19 => 5 | n => n⟩
theorem Tryz.laysM171 : Go.Proofs.LaysM.n171 Tryz.prog Tryz.laysM171_ren := {
 mixed := by kernel_rfl
 f129 := Tryz.func127.trans (congrArg some (by kernel_rfl))
 f171 := Tryz.func116.trans (congrArg some (by kernel_rfl))
 f243 := Tryz.func120.trans (congrArg some (by kernel_rfl))
 f246 := Tryz.func121.trans (congrArg some (by kernel_rfl))
 f283 := Tryz.func122.trans (congrArg some (by kernel_rfl))
 f284 := Tryz.func123.trans (congrArg some (by kernel_rfl))
 f285 := Tryz.func124.trans (congrArg some (by kernel_rfl))
 f286 := Tryz.func125.trans (congrArg some (by kernel_rfl))
 f317 := Tryz.func126.trans (congrArg some (by kernel_rfl))
 f318 := Tryz.func128.trans (congrArg some (by kernel_rfl))
 f319 := Tryz.func129.trans (congrArg some (by kernel_rfl))
 f320 := Tryz.func130.trans (congrArg some (by kernel_rfl))
 f337 := Tryz.func131.trans (congrArg some (by kernel_rfl))
 f338 := Tryz.func132.trans (congrArg some (by kernel_rfl))
 t0 := Tryz.underlying0
 a0 := Tryz.isAgg0
 z0 := Tryz.sizeOf0
 v0 := Tryz.zeroValue0
 t2 := Tryz.underlying2
 a2 := Tryz.isAgg2
 z2 := Tryz.sizeOf2
 v2 := Tryz.zeroValue2
 t3 := Tryz.underlying3
 a3 := Tryz.isAgg3
 z3 := Tryz.sizeOf3
 v3 := Tryz.zeroValue3
 t4 := Tryz.underlying4
 a4 := Tryz.isAgg4
 z4 := Tryz.sizeOf4
 v4 := Tryz.zeroValue4
 t5 := Tryz.underlying5
 a5 := Tryz.isAgg5
 z5 := Tryz.sizeOf5
 v5 := Tryz.zeroValue5
 t9 := Tryz.underlying9
 a9 := Tryz.isAgg9
 z9 := Tryz.sizeOf9
 v9 := Tryz.zeroValue9
 t20 := Tryz.underlying20
 a20 := Tryz.isAgg20
 z20 := Tryz.sizeOf20
 v20 := Tryz.zeroValue20
 t37 := Tryz.underlying103
 a37 := Tryz.isAgg103
 z37 := Tryz.sizeOf103
 v37 := Tryz.zeroValue103
 t46 := Tryz.underlying147
 a46 := Tryz.isAgg147
 z46 := Tryz.sizeOf147
 v46 := Tryz.zeroValue147
 t51 := Tryz.underlying166
 a51 := Tryz.isAgg166
 z51 := Tryz.sizeOf166
 v51 := Tryz.zeroValue166
 t53 := Tryz.underlying175
 a53 := Tryz.isAgg175
 z53 := Tryz.sizeOf175
 v53 := Tryz.zeroValue175
 t171 := Tryz.underlying174
 a171 := Tryz.isAgg174
 z171 := Tryz.sizeOf174
 v171 := Tryz.zeroValue174
 t173 := Tryz.underlying178
 a173 := Tryz.isAgg178
 z173 := Tryz.sizeOf178
 v173 := Tryz.zeroValue178
 t212 := Tryz.underlying181
 a212 := Tryz.isAgg181
 z212 := Tryz.sizeOf181
 v212 := Tryz.zeroValue181
 t213 := Tryz.underlying182
 a213 := Tryz.isAgg182
 z213 := Tryz.sizeOf182
 t232 := Tryz.underlying185
 a232 := Tryz.isAgg185
 z232 := Tryz.sizeOf185
 v232 := Tryz.zeroValue185
 t233 := Tryz.underlying186
 a233 := Tryz.isAgg186
 z233 := Tryz.sizeOf186
 v233 := Tryz.zeroValue186
 g17 := by kernel_rfl
 g18 := by kernel_rfl
 g19 := by kernel_rfl
 i0 := by kernel_rfl
 i2 := by kernel_rfl
 i3 := by kernel_rfl
 i4 := by kernel_rfl
 i5 := by kernel_rfl
 i9 := by kernel_rfl
 i20 := by kernel_rfl
 i37 := by kernel_rfl
 i46 := by kernel_rfl
 i51 := by kernel_rfl
 i53 := by kernel_rfl
 i171 := by kernel_rfl
 i173 := by kernel_rfl
 i212 := by kernel_rfl
 i232 := by kernel_rfl
 i233 := by kernel_rfl
 m17 := by kernel_rfl
 m18 := by kernel_rfl
 m19 := by kernel_rfl }
open Go.RowKit Go.Sort Go.Lib in
theorem Tryz.strconv_Itoa (n : Int) (h0 : -9223372036854775808 ≤ n) (h1 : n ≤ 9223372036854775807) (w : World) (htab : Lib.TabIs Tryz.prog w "internal/strconv.uint64pow10" .u64 Lib.pow10Tab) :
  Calls Tryz.prog 116 #[.int .i64 n] w fun e w' => e = .returned (.string ⟨(Lib.itoa n).toArray⟩) ∧ ∃ k os, w' = grow (w.drewN k) os := Any.strconv_Itoa Tryz.laysM171 n h0 h1 w htab
def Tryz.lays171_ren : Go.Shelf.Ren := ⟨fun | 171 => 116 | 243 => 120 | 246 => 121 | 283 => 122 | 284 => 123 | 285 => 124 | 286 => 125 | 129 => 127 | 317 => 126 | 318 => 128 | 319 => 129 | 320 => 130 | 337 => 131 | 338 => 132 | n => n, fun | 3 => 3 | 9 => 9 | 2 => 2 | 4 => 4 | 171 => 174 | 0 => 0 | 53 => 175 | 37 => 103 | 5 => 5 | 173 => 178 | 212 => 181 | 51 => 166 | 20 => 20 | 213 => 182 | 46 => 147 | 232 => 185 | 233 => 186 | n => n, fun | 17 => 3 | 18 => 4 | 19 => 5 | n => n⟩
open Go.RowKit Go.Sort Go.Lib in
def Tryz.lays217_ren : Go.Shelf.Ren := ⟨fun | 217 => 36 | 266 => 63 | n => n, fun | 9 => 9 | 5 => 5 | 3 => 3 | n => n, fun | n => n⟩
open Go.RowKit Go.Lib in
def Tryz.lays224_ren : Go.Shelf.Ren := ⟨fun | 224 => 90 | n => n, fun | 3 => 3 | n => n, fun | n => n⟩
open Go.RowKit Go.Lib in
def Tryz.lays314_ren : Go.Shelf.Ren := ⟨fun | 314 => 111 | n => n, fun | 9 => 9 | 51 => 166 | 3 => 3 | 4 => 4 | 5 => 5 | 46 => 147 | n => n, fun | n => n⟩
open Go.RowKit Go.Lib in
def Tryz.lays267_ren : Go.Shelf.Ren := ⟨fun | 267 => 91 | 314 => 111 | n => n, fun | 9 => 9 | 3 => 3 | 146 => 167 | 51 => 166 | 4 => 4 | 5 => 5 | 46 => 147 | n => n, fun | n => n⟩
open Go.RowKit Go.Lib in
def Tryz.lays219_ren : Go.Shelf.Ren := ⟨fun | 219 => 65 | 217 => 36 | 225 => 89 | 224 => 90 | 267 => 91 | 266 => 63 | 314 => 111 | n => n, fun | 9 => 9 | 3 => 3 | 4 => 4 | 5 => 5 | 46 => 147 | 146 => 167 | 51 => 166 | n => n, fun | 1 => 2 | n => n⟩
open Go.RowKit Go.Lib in
open Go.RowKit Go.Lib in
def Tryz.lays143_ren : Go.Shelf.Ren := ⟨fun | 143 => 38 | 219 => 65 | 217 => 36 | 225 => 89 | 224 => 90 | 267 => 91 | 266 => 63 | 314 => 111 | n => n, fun | 9 => 9 | 3 => 3 | 4 => 4 | 5 => 5 | 46 => 147 | 146 => 167 | 51 => 166 | n => n, fun | 1 => 2 | n => n⟩
theorem Tryz.lays143 : Go.Proofs.Lays.n143 Tryz.prog Tryz.lays143_ren := {
 mixed := by kernel_rfl
 f143 := Tryz.func38.trans (congrArg some (by kernel_rfl))
 f217 := Tryz.func36.trans (congrArg some (by kernel_rfl))
 f219 := Tryz.func65.trans (congrArg some (by kernel_rfl))
 f224 := Tryz.func90.trans (congrArg some (by kernel_rfl))
 f225 := Tryz.func89.trans (congrArg some (by kernel_rfl))
 f266 := Tryz.func63.trans (congrArg some (by kernel_rfl))
 f267 := Tryz.func91.trans (congrArg some (by kernel_rfl))
 f314 := Tryz.func111.trans (congrArg some (by kernel_rfl))
 t3 := Tryz.underlying3
 a3 := Tryz.isAgg3
 z3 := Tryz.sizeOf3
 v3 := Tryz.zeroValue3
 t4 := Tryz.underlying4
 a4 := Tryz.isAgg4
 z4 := Tryz.sizeOf4
 v4 := Tryz.zeroValue4
 t5 := Tryz.underlying5
 a5 := Tryz.isAgg5
 z5 := Tryz.sizeOf5
 v5 := Tryz.zeroValue5
 t9 := Tryz.underlying9
 a9 := Tryz.isAgg9
 z9 := Tryz.sizeOf9
 v9 := Tryz.zeroValue9
 t46 := Tryz.underlying147
 a46 := Tryz.isAgg147
 z46 := Tryz.sizeOf147
 v46 := Tryz.zeroValue147
 t51 := Tryz.underlying166
 a51 := Tryz.isAgg166
 z51 := Tryz.sizeOf166
 v51 := Tryz.zeroValue166
 t146 := Tryz.underlying167
 a146 := Tryz.isAgg167
 z146 := Tryz.sizeOf167
 v146 := Tryz.zeroValue167
 g1 := by kernel_rfl }
open Go.RowKit Go.Lib in
open Go.RowKit Go.Lib in
theorem Tryz.strings_Index (s sub : ByteArray) (m : Int) (w : World) (hs : s.size < 4294967281) (hm : w.cell? ⟨2, 0, none⟩ = some (.int .i64 m)) :
  Calls Tryz.prog 38 #[.string s, .string sub] w fun e w' => e = .returned (.int .i64 (Lib.index s.data.toList sub.data.toList)) ∧ w' = w := Any.strings_Index Tryz.lays143 s sub m w hs hm
def Tryz.laysM219_ren : Go.Shelf.Ren := ⟨fun | 219 => 65 | 217 => 36 | 225 => 89 | 224 => 90 | 267 => 91 | 266 => 63 | 314 => 111 | n => n, fun | 9 => 9 | 3 => 3 | 4 => 4 | 5 => 5 | 46 => 147 | 146 => 167 | 51 => 166 | n => n, fun | 1 => 2 | n => n⟩
open Go.RowKit Go.Lib in
def Tryz.laysM143_ren : Go.Shelf.Ren := ⟨fun | 143 => 38 | 219 => 65 | 217 => 36 | 225 => 89 | 224 => 90 | 267 => 91 | 266 => 63 | 314 => 111 | n => n, fun | 9 => 9 | 3 => 3 | 4 => 4 | 5 => 5 | 46 => 147 | 146 => 167 | 51 => 166 | n => n, fun | 1 => 2 | n => n⟩
open Go.RowKit Go.Lib in
def Tryz.lays206_ren : Go.Shelf.Ren := ⟨fun | 206 => 64 | n => n, fun | 9 => 9 | 4 => 4 | 3 => 3 | n => n, fun | n => n⟩
open Go.RowKit Go.Lib in
def Tryz.lays99_ren : Go.Shelf.Ren := ⟨fun | 99 => 37 | 206 => 64 | n => n, fun | 9 => 9 | 4 => 4 | 3 => 3 | n => n, fun | n => n⟩
open Go.RowKit Go.Lib in
def Tryz.lays197_ren : Go.Shelf.Ren := ⟨fun | 197 => 35 | 260 => 62 | n => n, fun | 9 => 9 | 21 => 21 | 3 => 3 | 4 => 4 | 5 => 5 | 105 => 90 | 119 => 146 | 0 => 0 | 46 => 147 | 139 => 150 | 138 => 149 | n => n, fun | 3 => 0 | 4 => 1 | n => n⟩
theorem Tryz.lays197 : Go.Proofs.Lays.n197 Tryz.prog Tryz.lays197_ren := {
 mixed := by kernel_rfl
 f197 := Tryz.func35.trans (congrArg some (by kernel_rfl))
 f260 := Tryz.func62.trans (congrArg some (by kernel_rfl))
 t0 := Tryz.underlying0
 a0 := Tryz.isAgg0
 z0 := Tryz.sizeOf0
 v0 := Tryz.zeroValue0
 t3 := Tryz.underlying3
 a3 := Tryz.isAgg3
 z3 := Tryz.sizeOf3
 v3 := Tryz.zeroValue3
 t4 := Tryz.underlying4
 a4 := Tryz.isAgg4
 z4 := Tryz.sizeOf4
 v4 := Tryz.zeroValue4
 t5 := Tryz.underlying5
 a5 := Tryz.isAgg5
 z5 := Tryz.sizeOf5
 v5 := Tryz.zeroValue5
 t9 := Tryz.underlying9
 a9 := Tryz.isAgg9
 z9 := Tryz.sizeOf9
 v9 := Tryz.zeroValue9
 t21 := Tryz.underlying21
 a21 := Tryz.isAgg21
 z21 := Tryz.sizeOf21
 v21 := Tryz.zeroValue21
 t46 := Tryz.underlying147
 a46 := Tryz.isAgg147
 z46 := Tryz.sizeOf147
 v46 := Tryz.zeroValue147
 t105 := Tryz.underlying90
 a105 := Tryz.isAgg90
 z105 := Tryz.sizeOf90
 v105 := Tryz.zeroValue90
 t119 := Tryz.underlying146
 a119 := Tryz.isAgg146
 z119 := Tryz.sizeOf146
 t138 := Tryz.underlying149
 a138 := Tryz.isAgg149
 z138 := Tryz.sizeOf149
 v138 := Tryz.zeroValue149
 t139 := Tryz.underlying150
 a139 := Tryz.isAgg150
 z139 := Tryz.sizeOf150
 v139 := Tryz.zeroValue150
 g3 := by kernel_rfl
 g4 := by kernel_rfl }
open Go.RowKit Go.Lib in
def Tryz.lays152_ren : Go.Shelf.Ren := ⟨fun | 152 => 96 | 137 => 18 | 119 => 114 | 224 => 90 | 225 => 89 | 217 => 36 | 266 => 63 | n => n, fun | 9 => 9 | 21 => 21 | 3 => 3 | 4 => 4 | 5 => 5 | 0 => 0 | 46 => 147 | n => n, fun | n => n⟩
open Go.RowKit Go.Lib in
def Tryz.lays226_ren : Go.Shelf.Ren := ⟨fun | 226 => 97 | n => n, fun | 3 => 3 | 4 => 4 | n => n, fun | n => n⟩
open Go.RowKit Go.Lib in
def Tryz.lays153_ren : Go.Shelf.Ren := ⟨fun | 153 => 74 | 152 => 96 | 226 => 97 | 227 => 98 | 228 => 99 | 137 => 18 | 119 => 114 | 224 => 90 | 225 => 89 | 217 => 36 | 266 => 63 | n => n, fun | 9 => 9 | 3 => 3 | 4 => 4 | 5 => 5 | 21 => 21 | 117 => 158 | 116 => 157 | 0 => 0 | 46 => 147 | 124 => 172 | n => n, fun | n => n⟩
open Go.RowKit Go.Lib in
open Go.RowKit Go.Lib in
open Go.RowKit Go.Lib in
def Tryz.lays227_ren : Go.Shelf.Ren := ⟨fun | 227 => 98 | n => n, fun | 9 => 9 | 116 => 157 | 4 => 4 | 0 => 0 | 3 => 3 | 5 => 5 | n => n, fun | n => n⟩
open Go.RowKit Go.Lib in
def Tryz.lays228_ren : Go.Shelf.Ren := ⟨fun | 228 => 99 | n => n, fun | 124 => 172 | 5 => 5 | 4 => 4 | 0 => 0 | 116 => 157 | n => n, fun | n => n⟩
open Go.RowKit Go.Lib in
open Go.RowKit Go.Lib in
open Go.RowKit Go.Lib in
def Tryz.lays150_ren : Go.Shelf.Ren := ⟨fun | 150 => 44 | 153 => 74 | 152 => 96 | 226 => 97 | 227 => 98 | 228 => 99 | 137 => 18 | 119 => 114 | 224 => 90 | 225 => 89 | 217 => 36 | 266 => 63 | n => n, fun | 9 => 9 | 4 => 4 | 3 => 3 | 5 => 5 | 21 => 21 | 117 => 158 | 116 => 157 | 0 => 0 | 46 => 147 | 124 => 172 | n => n, fun | n => n⟩
theorem Tryz.lays150 : Go.Proofs.Lays.n150 Tryz.prog Tryz.lays150_ren := {
 mixed := by kernel_rfl
 f119 := Tryz.func114.trans (congrArg some (by kernel_rfl))
 f137 := Tryz.func18.trans (congrArg some (by kernel_rfl))
 f150 := Tryz.func44.trans (congrArg some (by kernel_rfl))
 f152 := Tryz.func96.trans (congrArg some (by kernel_rfl))
 f153 := Tryz.func74.trans (congrArg some (by kernel_rfl))
 f217 := Tryz.func36.trans (congrArg some (by kernel_rfl))
 f224 := Tryz.func90.trans (congrArg some (by kernel_rfl))
 f225 := Tryz.func89.trans (congrArg some (by kernel_rfl))
 f226 := Tryz.func97.trans (congrArg some (by kernel_rfl))
 f227 := Tryz.func98.trans (congrArg some (by kernel_rfl))
 f228 := Tryz.func99.trans (congrArg some (by kernel_rfl))
 f266 := Tryz.func63.trans (congrArg some (by kernel_rfl))
 t0 := Tryz.underlying0
 a0 := Tryz.isAgg0
 z0 := Tryz.sizeOf0
 v0 := Tryz.zeroValue0
 t3 := Tryz.underlying3
 a3 := Tryz.isAgg3
 z3 := Tryz.sizeOf3
 v3 := Tryz.zeroValue3
 t4 := Tryz.underlying4
 a4 := Tryz.isAgg4
 z4 := Tryz.sizeOf4
 v4 := Tryz.zeroValue4
 t5 := Tryz.underlying5
 a5 := Tryz.isAgg5
 z5 := Tryz.sizeOf5
 v5 := Tryz.zeroValue5
 t9 := Tryz.underlying9
 a9 := Tryz.isAgg9
 z9 := Tryz.sizeOf9
 v9 := Tryz.zeroValue9
 t21 := Tryz.underlying21
 a21 := Tryz.isAgg21
 z21 := Tryz.sizeOf21
 v21 := Tryz.zeroValue21
 t46 := Tryz.underlying147
 a46 := Tryz.isAgg147
 z46 := Tryz.sizeOf147
 v46 := Tryz.zeroValue147
 t116 := Tryz.underlying157
 a116 := Tryz.isAgg157
 z116 := Tryz.sizeOf157
 t117 := Tryz.underlying158
 a117 := Tryz.isAgg158
 z117 := Tryz.sizeOf158
 v117 := Tryz.zeroValue158
 t124 := Tryz.underlying172
 a124 := Tryz.isAgg172
 z124 := Tryz.sizeOf172
 v124 := Tryz.zeroValue172 }
open Go.RowKit Go.Lib in
open Go.RowKit Go.Lib in
open Go.RowKit Go.Lib in
theorem Tryz.strings_ContainsAny_laid (s chars : ByteArray) (w : World) (hs : s.size < 4294967281) (hcs : chars.size < 4294967281) (has : ∀ (j : Nat) b, s.data.toList[j]? = some b → b.toNat < 128) (hac : ∀ (j : Nat) b, chars.data.toList[j]? = some b → b.toNat < 128) :
  Calls Tryz.prog 44 #[.string s, .string chars] w fun e w' => e = .returned (.bool (Lib.containsAny s.data.toList chars.data.toList)) ∧ Below w.heap.size w w' := Any.strings_ContainsAny_laid Tryz.lays150 (by kernel_rfl) s chars w hs hcs has hac
def Tryz.lays260_ren : Go.Shelf.Ren := ⟨fun | 260 => 62 | n => n, fun | 9 => 9 | 21 => 21 | 3 => 3 | 4 => 4 | 5 => 5 | 119 => 146 | 0 => 0 | 46 => 147 | 139 => 150 | 138 => 149 | n => n, fun | 3 => 0 | 4 => 1 | n => n⟩
theorem Tryz.lays260 : Go.Proofs.Lays.n260 Tryz.prog Tryz.lays260_ren := {
 mixed := by kernel_rfl
 f260 := Tryz.func62.trans (congrArg some (by kernel_rfl))
 t0 := Tryz.underlying0
 a0 := Tryz.isAgg0
 z0 := Tryz.sizeOf0
 v0 := Tryz.zeroValue0
 t3 := Tryz.underlying3
 a3 := Tryz.isAgg3
 z3 := Tryz.sizeOf3
 v3 := Tryz.zeroValue3
 t4 := Tryz.underlying4
 a4 := Tryz.isAgg4
 z4 := Tryz.sizeOf4
 v4 := Tryz.zeroValue4
 t5 := Tryz.underlying5
 a5 := Tryz.isAgg5
 z5 := Tryz.sizeOf5
 v5 := Tryz.zeroValue5
 t9 := Tryz.underlying9
 a9 := Tryz.isAgg9
 z9 := Tryz.sizeOf9
 v9 := Tryz.zeroValue9
 t21 := Tryz.underlying21
 a21 := Tryz.isAgg21
 z21 := Tryz.sizeOf21
 v21 := Tryz.zeroValue21
 t46 := Tryz.underlying147
 a46 := Tryz.isAgg147
 z46 := Tryz.sizeOf147
 v46 := Tryz.zeroValue147
 t119 := Tryz.underlying146
 a119 := Tryz.isAgg146
 z119 := Tryz.sizeOf146
 t138 := Tryz.underlying149
 a138 := Tryz.isAgg149
 z138 := Tryz.sizeOf149
 v138 := Tryz.zeroValue149
 t139 := Tryz.underlying150
 a139 := Tryz.isAgg150
 z139 := Tryz.sizeOf150
 v139 := Tryz.zeroValue150
 g3 := by kernel_rfl
 g4 := by kernel_rfl }
open Go.RowKit Go.Lib in
open Go.RowKit Go.Lib in
theorem Tryz.utf8_DecodeRuneInString (s : ByteArray) (w : World) (hT : Lib.Utf8Tabs 0 1 w) :
  Calls Tryz.prog 35 #[.string s] w fun e w' => e = .returned (.tuple #[.int .i32 (Lib.decodeGo s).1, .int .i64 (Lib.decodeGo s).2]) ∧ Below w.heap.size w w' := Any.utf8_DecodeRuneInString Tryz.lays197 s w hT
end Go.Proofs
