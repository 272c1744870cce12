/- What the row's list of variables gives, and a world for the witness. -/
import Derived.Test.YtgbkbgiogdhnaaaGreatDoorCards
import Derived.Test.YtgbkbgiogdhnaaaGreatDoorTie
import Derived.Test.YtgbkbgiogdhnaaaGreatDoorMAa
import Derived.Test.YtgbkbgiogdhnaaaGreatDoorMAe
import Derived.Test.YtgbkbgiogdhnaaaGreatDoorMAj
import Derived.Test.YtgbkbgiogdhnaaaGreatDoorShelf
import Derived.OpenShut
import Derived.Deep.DeepHandedRow
import Derived.Lib.LaidTab
import Derived.Lib.LaidU8
import Derived.Stop.LaidErr
set_option linter.unusedVariables false
set_option linter.unusedSimpArgs false
set_option linter.defProp false
set_option linter.constructorNameAsVariable false
namespace Go.Proofs.YtgbkbgiogdhnaaaGreatDoor
open Go.ChangeShapes Go.WideShapes Go.ChangeAt Go.RowKit Go.Lib
theorem Tryz.g_pow:Tryz.prog.globalNamed "internal/strconv.uint64pow10" = some 6:=by kernel_rfl
theorem pow_type:(Tryz.prog.globals[6]?).map (·.type)=some 289:=by kernel_rfl
theorem cells_u64:Tryz.prog.cellsOf 92=1:=by kernel_rfl
theorem cells_pow:Tryz.prog.cellsOf 289=20:=by kernel_rfl
theorem tabIs_of_reads {P:Program} {W:World} {name:String} {k:IntKind} {zs:List Int} {g:Nat} {t e:TypeId} {n:Nat}
  (hg:P.globalNamed name=some g) (hty:(P.globals[g]?).map (·.type)=some t) (ht:P.underlying t=some (.array n e)) (he:P.underlying e=some (.int k)) (hce:P.cellsOf e=1) (hct:P.cellsOf t=n)
  (h:VarReads P W name (tabData k zs)):TabIs P W name k zs:=by
 obtain⟨g',t',cs,fuel,p,hg',ht',hvar,hd⟩:=h
 obtain rfl:=Option.some.inj (hg.symm.trans hg')
 obtain rfl:=Option.some.inj (hty.symm.trans ht')
 unfold TabIs
 rw [hvar,←cells_of_tab ht he hce hct hd]
theorem pow_data:Rows.laid_internal_strconv_uint64pow10=(tabData .u64 pow10Tab:DataW Unit):=by kernel_rfl
theorem first_data:Rows.laid_unicode_utf8_first=firstData:=by kernel_rfl
theorem accept_data:Rows.laid_unicode_utf8_acceptRanges=acceptData:=by kernel_rfl
theorem u8_extra:U8Extra Tryz.prog Tryz.lays260_ren:=⟨by kernel_rfl,by kernel_rfl,by kernel_rfl,by kernel_rfl,by kernel_rfl,by kernel_rfl,by kernel_rfl⟩
theorem lib_ok {W:World} (h:laidMet Tryz.prog Rows.jsonoutQuotesRow.laid W) (hsh:W.ShapedOpen Tryz.prog):LibOK W where
 pow:=by
  have h1:VarReads Tryz.prog W "internal/strconv.uint64pow10" Rows.laid_internal_strconv_uint64pow10:=laidMet.reads h (by simp [Rows.jsonoutQuotesRow])
  rw [pow_data] at h1
  exact tabIs_of_reads Tryz.g_pow pow_type Tryz.underlying289 Tryz.underlying92 cells_u64 cells_pow h1
 max:=cell_of_shapedOpen_int (zero:=#[.int .i64 0]) (t:=3) (g:=0) hsh (of_decide_eq_true (by kernel_rfl)) (by kernel_rfl) rfl (by kernel_rfl) (by kernel_rfl) Tryz.underlying3
 tabs:=by
  have h3:VarReads Tryz.prog W "unicode/utf8.first" Rows.laid_unicode_utf8_first:=laidMet.reads h (by simp [Rows.jsonoutQuotesRow])
  have h4:VarReads Tryz.prog W "unicode/utf8.acceptRanges" Rows.laid_unicode_utf8_acceptRanges:=laidMet.reads h (by simp [Rows.jsonoutQuotesRow])
  rw [first_data] at h3
  rw [accept_data] at h4
  exact utf8Tabs_of_reads Tryz.lays260 u8_extra h3 h4
theorem Tryz.g_syn:Tryz.prog.globalNamed "strconv.ErrSyntax" = some 4:=by kernel_rfl
theorem syn_type:(Tryz.prog.globals[4]?).map (·.type)=some 55:=by kernel_rfl
theorem star_err : "*" ++ "errors.errorString" = "*errors.errorString" := by decide
theorem row_err (u:TypeId) (h:Tryz.prog.typeName? 3 u=some "*errors.errorString"):u=297:=
 typeName_ptr_named (nm:= "errors.errorString") (by rw [star_err];kernel_rfl) (by kernel_rfl) (by decide) u (by rw [star_err];exact h)
theorem lib_e {W:World} (h:laidMet Tryz.prog Rows.jsonoutQuotesRow.laid W) (hsh:W.ShapedOpen Tryz.prog):LibE W where
 lib:=lib_ok h hsh
 err:=by
  have h5:=h.tail.tail.tail.tail.tail
  obtain⟨a,s,hv,_⟩:=laid_sentinel (n:= "strconv.ErrSyntax") h5 Tryz.g_syn syn_type Tryz.underlying55 row_err Tryz.underlying297 Tryz.underlying299 rfl rfl Tryz.underlying9 (by kernel_rfl) (by kernel_rfl)
  exact⟨_,_,by simpa using World.var?_cell Tryz.g_syn hv 0⟩
def flatD:Nat→DataW Unit→List Value
 | 0,_=>[]
 | _+1,.lit (.int k z)=>[.int k z]
 | n+1,.agg ds=>ds.flatMap (flatD n)
 | _+1,_=>[]
def layAt (h:Array Obj) (g:Nat) (d:DataW Unit):Array Obj:=h.modify g fun
 | .cells _ t fz=>.cells (flatD 4 d).toArray t fz
 | o=>o
def rangeS:ByteArray:=⟨#[118,97,108,117,101,32,111,117,116,32,111,102,32,114,97,110,103,101]⟩
def synS:ByteArray:=⟨#[105,110,118,97,108,105,100,32,115,121,110,116,97,120]⟩
noncomputable def low:Nat:=(World.holding Tryz.prog default ⟨#[],#[],[]⟩).heap.size
def layErr (h:Array Obj) (g n:Nat):Array Obj:=h.modify g fun
 | .cells _ t fz=>.cells #[.iface 297 (.pointer (some ⟨n,0,none⟩))] t fz
 | o=>o
noncomputable def errWorld (os:Os):World:=World.holding Tryz.prog os ⟨#[.cells #[.string rangeS] 299,.cells #[.string synS] 299],#[],[]⟩
noncomputable def laidWorld (os:Os):World:=
 { errWorld os with heap:=layErr (layErr (layAt (layAt (layAt (layAt (layAt (errWorld os).heap 8 Rows.laid_math_bits_deBruijn32tab) 7 Rows.laid_math_bits_deBruijn64tab) 6 Rows.laid_internal_strconv_uint64pow10) 2 Rows.laid_unicode_utf8_acceptRanges) 1 Rows.laid_unicode_utf8_first) 5 low) 4 (low+1) }
theorem laid_met (os:Os):laidMet Tryz.prog Rows.jsonoutQuotesRow.laid ((laidWorld os).forCall (fun _ _=>0) ⟨#[],#[.string ⟨#[]⟩],[]⟩).memory:=
 laidMet_of_run' 8 (by kernel_rfl) (by kernel_rfl)
theorem jb_reads (os:Os) {H:Type} (enc:TypeId×Value→H):∃places,DataW.whole enc Tryz.prog ((laidWorld os).forCall (fun _ _=>0) ⟨#[],#[.string ⟨#[]⟩],[]⟩).memory Tryz.f4.params.toList Rows.jsonoutQuotesSpec.vars false #[Value.string ⟨#[]⟩].toList 8=some ([.lit (.string [])],[],places):=
 ⟨[],by kernel_rfl⟩
end Go.Proofs.YtgbkbgiogdhnaaaGreatDoor
