/- IniOutTexts holds for every input: the row, and the card that ties its variables to the program's text. No condition: every two texts. -/
import Derived.Test.YtnnnagnjikdnnaaGreatDoorCards
import Derived.Test.YtnnnagnjikdnnaaGreatDoorTie
import Derived.Test.YtnnnagnjikdnnaaGreatDoorMAa
import Derived.Test.YtnnnagnjikdnnaaGreatDoorMBx
import Derived.Test.YtnnnagnjikdnnaaGreatDoorShelf
import Derived.OpenShut
import Derived.Deep.DeepHandedRow
import Derived.Lib.LaidTab
import Derived.Lib.LaidU8
import Derived.Stop.LaidErr
set_option linter.unusedVariables false
set_option linter.unusedSimpArgs false
set_option linter.defProp false
set_option linter.constructorNameAsVariable false
namespace Go.Proofs.YtnnnagnjikdnnaaGreatDoor
open Go.ChangeShapes Go.WideShapes Go.ChangeAt Go.RowKit Go.Lib
theorem Tryz.g_pow:Tryz.prog.globalNamed "internal/strconv.uint64pow10" = some 3:=by kernel_rfl
theorem pow_type:(Tryz.prog.globals[3]?).map (·.type)=some 221:=by kernel_rfl
theorem cells_u64:Tryz.prog.cellsOf 181=1:=by kernel_rfl
theorem cells_pow:Tryz.prog.cellsOf 221=20:=by kernel_rfl
theorem tabIs_of_reads {P:Program} {W:World} {name:String} {k:IntKind} {zs:List Int} {g:Nat} {t e:TypeId} {n:Nat}
  (hg:P.globalNamed name=some g) (hty:(P.globals[g]?).map (·.type)=some t) (ht:P.underlying t=some (.array n e)) (he:P.underlying e=some (.int k)) (hce:P.cellsOf e=1) (hct:P.cellsOf t=n)
  (h:VarReads P W name (tabData k zs)):TabIs P W name k zs:=by
 obtain⟨g',t',cs,fuel,p,hg',ht',hvar,hd⟩:=h
 obtain rfl:=Option.some.inj (hg.symm.trans hg')
 obtain rfl:=Option.some.inj (hty.symm.trans ht')
 unfold TabIs
 rw [hvar,←cells_of_tab ht he hce hct hd]
theorem pow_data:Rows.laid_internal_strconv_uint64pow10=(tabData .u64 pow10Tab:DataW Unit):=by kernel_rfl
theorem first_data:Rows.laid_unicode_utf8_first=firstData:=by kernel_rfl
theorem accept_data:Rows.laid_unicode_utf8_acceptRanges=acceptData:=by kernel_rfl
theorem u8_extra:U8Extra Tryz.prog Tryz.lays260_ren:=⟨by kernel_rfl,by kernel_rfl,by kernel_rfl,by kernel_rfl,by kernel_rfl,by kernel_rfl,by kernel_rfl⟩
theorem lib_ok {W:World} (h:laidMet Tryz.prog Rows.iniOutTextsRow.laid W) (hsh:W.ShapedOpen Tryz.prog):LibOK W where
 pow:=by
  have h1:VarReads Tryz.prog W "internal/strconv.uint64pow10" Rows.laid_internal_strconv_uint64pow10:=laidMet.reads h (by simp [Rows.iniOutTextsRow])
  rw [pow_data] at h1
  exact tabIs_of_reads Tryz.g_pow pow_type Tryz.underlying221 Tryz.underlying181 cells_u64 cells_pow h1
 max:=cell_of_shapedOpen_int (zero:=#[.int .i64 0]) (t:=3) (g:=2) hsh (of_decide_eq_true (by kernel_rfl)) (by kernel_rfl) rfl (by kernel_rfl) (by kernel_rfl) Tryz.underlying3
 tabs:=by
  have h3:VarReads Tryz.prog W "unicode/utf8.first" Rows.laid_unicode_utf8_first:=laidMet.reads h (by simp [Rows.iniOutTextsRow])
  have h4:VarReads Tryz.prog W "unicode/utf8.acceptRanges" Rows.laid_unicode_utf8_acceptRanges:=laidMet.reads h (by simp [Rows.iniOutTextsRow])
  rw [first_data] at h3
  rw [accept_data] at h4
  exact utf8Tabs_of_reads Tryz.lays260 u8_extra h3 h4
theorem Tryz.g_syn:Tryz.prog.globalNamed "strconv.ErrSyntax" = some 7:=by kernel_rfl
theorem syn_type:(Tryz.prog.globals[7]?).map (·.type)=some 56:=by kernel_rfl
theorem star_err : "*" ++ "errors.errorString" = "*errors.errorString" := by decide
theorem row_err (u:TypeId) (h:Tryz.prog.typeName? 3 u=some "*errors.errorString"):u=288:=
 typeName_ptr_named (nm:= "errors.errorString") (by rw [star_err];kernel_rfl) (by kernel_rfl) (by decide) u (by rw [star_err];exact h)
theorem lib_e {W:World} (h:laidMet Tryz.prog Rows.iniOutTextsRow.laid W) (hsh:W.ShapedOpen Tryz.prog):LibE W where
 lib:=lib_ok h hsh
 err:=by
  have h5:=h.tail.tail.tail.tail.tail
  obtain⟨a,s,hv,_⟩:=laid_sentinel (n:= "strconv.ErrSyntax") h5 Tryz.g_syn syn_type Tryz.underlying56 row_err Tryz.underlying288 Tryz.underlying290 rfl rfl Tryz.underlying9 (by kernel_rfl) (by kernel_rfl)
  exact⟨_,_,by simpa using World.var?_cell Tryz.g_syn hv 0⟩
def db64:List Int:=[0,1,56,2,57,49,28,3,61,58,42,50,38,29,17,4,62,47,59,36,45,43,51,22,53,39,33,30,24,18,12,5,63,55,48,27,60,41,37,16,46,35,44,21,52,32,23,11,54,26,40,15,34,20,31,10,25,14,19,9,13,8,7,6]
theorem db_data:Rows.laid_math_bits_deBruijn64tab=(tabData .u8 db64:DataW Unit):=by kernel_rfl
theorem Tryz.g_db:Tryz.prog.globalNamed "math/bits.deBruijn64tab" = some 6:=by kernel_rfl
theorem db_type:(Tryz.prog.globals[6]?).map (·.type)=some 264:=by kernel_rfl
theorem cells_u8:Tryz.prog.cellsOf 5=1:=by kernel_rfl
theorem cells_db:Tryz.prog.cellsOf 264=64:=by kernel_rfl
theorem lib_i {W:World} (h:laidMet Tryz.prog Rows.iniOutTextsRow.laid W) (hsh:W.ShapedOpen Tryz.prog):LibI W where
 e:=lib_e h hsh
 d:=by
  have h1:VarReads Tryz.prog W "math/bits.deBruijn64tab" Rows.laid_math_bits_deBruijn64tab:=laidMet.reads h (by simp [Rows.iniOutTextsRow])
  rw [db_data] at h1
  exact(tabIs_of_reads Tryz.g_db db_type Tryz.underlying264 Tryz.underlying5 cells_u8 cells_db h1).cell Tryz.g_db 15 (by decide)
def flatD:Nat→DataW Unit→List Value
 | 0,_=>[]
 | _+1,.lit (.int k z)=>[.int k z]
 | n+1,.agg ds=>ds.flatMap (flatD n)
 | _+1,_=>[]
def layAt (h:Array Obj) (g:Nat) (d:DataW Unit):Array Obj:=h.modify g fun
 | .cells _ t fz=>.cells (flatD 4 d).toArray t fz
 | o=>o
def rangeS:ByteArray:=⟨#[118,97,108,117,101,32,111,117,116,32,111,102,32,114,97,110,103,101]⟩
def synS:ByteArray:=⟨#[105,110,118,97,108,105,100,32,115,121,110,116,97,120]⟩
noncomputable def low:Nat:=(World.holding Tryz.prog default ⟨#[],#[],[]⟩).heap.size
def layErr (h:Array Obj) (g n:Nat):Array Obj:=h.modify g fun
 | .cells _ t fz=>.cells #[.iface 288 (.pointer (some ⟨n,0,none⟩))] t fz
 | o=>o
noncomputable def errWorld (os:Os):World:=World.holding Tryz.prog os ⟨#[.cells #[.string rangeS] 290,.cells #[.string synS] 290],#[],[]⟩
noncomputable def laidWorld (os:Os):World:=
 { errWorld os with heap:=layErr (layErr (layAt (layAt (layAt (layAt (layAt (errWorld os).heap 5 Rows.laid_math_bits_deBruijn32tab) 6 Rows.laid_math_bits_deBruijn64tab) 3 Rows.laid_internal_strconv_uint64pow10) 1 Rows.laid_unicode_utf8_acceptRanges) 0 Rows.laid_unicode_utf8_first) 8 low) 7 (low+1) }
theorem laid_met (os:Os):laidMet Tryz.prog Rows.iniOutTextsRow.laid ((laidWorld os).forCall (fun _ _=>0) ⟨#[],#[.string ⟨#[]⟩,.string ⟨#[]⟩],[]⟩).memory:=
 laidMet_of_run' 8 (by kernel_rfl) (by kernel_rfl)
theorem jb_reads (os:Os) {H:Type} (enc:TypeId×Value→H):∃places,DataW.whole enc Tryz.prog ((laidWorld os).forCall (fun _ _=>0) ⟨#[],#[.string ⟨#[]⟩,.string ⟨#[]⟩],[]⟩).memory Tryz.f3.params.toList Rows.iniOutTextsSpec.vars false #[Value.string ⟨#[]⟩,Value.string ⟨#[]⟩].toList 8=some ([.lit (.string []),.lit (.string [])],[],places):=
 ⟨[],by kernel_rfl⟩
set_option maxRecDepth 100000 in
theorem jb_contract (H:Type) (enc:TypeId×Value→H) (W:World) (base:Nat) (args:Array Value) (ds gs:List (DataW H)) (before:List MemPlace)
  (hval:∀(j:Nat) t v,Tryz.f3.params[j]? = some t→args[j]? = some v→Value.okWide Tryz.prog W .any base t v)
  (hW:DataW.Whole enc Tryz.prog Tryz.f3.params.toList Rows.iniOutTextsSpec.vars false W args.toList ds gs before) (hL:laidMet Tryz.prog Rows.iniOutTextsRow.laid W) (hsh:W.ShapedOpen Tryz.prog) :
  Calls Tryz.prog 3 args W fun e W'=>∃v,e=.returned v∧Rows.iniOutTextsSpec.post enc Tryz.prog Tryz.f3 false true false false W args v W':=by
 have hW':=hW
 obtain⟨p,q,hA0,hV,rfl,hfz,hnd⟩:=hW
 have hA:DataW.TrodAll enc Tryz.prog W 0 (fun _=>true) true Tryz.f3.params.toList args.toList ds p:=hA0
 rw [Tryz.params3] at hA hval
 obtain⟨v0,v1,d0,d1,p0,p1,rfl,rfl,rfl,h0,h1⟩:=trodAll_two hA
 obtain⟨rfl,rfl⟩:=trodVars_none hV
 obtain⟨l0,hl0,rfl,rfl,hm0,t0⟩:=open_str8 (hval 0 _ v0 rfl rfl) h0
 obtain⟨l1,hl1,rfl,rfl,hm1,t1⟩:=open_str8 (hval 1 _ v1 rfl rfl) h1
 clear hA0
 simp only [List.append_nil] at hW'
 refine(initexts_law hl0 hl1 W (lib_i hL hsh)).mono fun e W' ⟨he,hg⟩=>?_
 subst he
 exact⟨_,rfl,post_below (pa:=[]) (pv:=[]) hW' (fun _ _ _=>trodAll_mk1 (shut_bool Tryz.underlying4 _)) (fun sp _=>trodAll_mk2 (t0 W' sp) (t1 W' sp)) (fun _ _=>rfl) rfl hg (ok_one (by kernel_rfl) rfl (okWide_bool_mk Tryz.underlying4 _))⟩
set_option maxRecDepth 100000 in
theorem jb_lifted (os:Os) (started:os.Started) (H:Type) (enc:TypeId×Value→H) (F:Stop.Interp) :
  ReturnsInHanded {} Tryz.checked os 3 .any ((OpenSpec.ofChange Rows.iniOutTextsSpec).preRow enc Tryz.prog Tryz.f3 Rows.iniOutTextsRow.domain false Rows.iniOutTextsRow.laid) (((OpenSpec.ofChange Rows.iniOutTextsSpec).at F).post enc Tryz.prog Tryz.f3 false true false false):=by
 obtain⟨places,hx⟩:=jb_reads os enc
 refine returnsInHanded_of_row (C:=Tryz.checked) (s:=OpenSpec.ofChange Rows.iniOutTextsSpec) own_none started (by kernel_rfl) Tryz.func3
  (witness_row_at (enc:=enc) (C:=Tryz.checked) false (laidWorld os) #[.string ⟨#[]⟩,.string ⟨#[]⟩] rfl (by kernel_rfl) (by kernel_rfl) (by kernel_rfl)
   (OpenSpec.preRow_of_cond 8 hx (by kernel_rfl) (fun k hk=>by cases hk) (by kernel_rfl) (laid_met os))) ?_
 intro W base args ds gs before hval hW _ _ _ hL hsh _
 exact jb_contract H enc W base args ds gs before hval hW hL hsh
theorem iniOutTexts_said:Rows.IniOutTextsSaid:=
 OpenClaim.holds_of_cond 3 Tryz.f3 rfl rfl rfl rfl rfl rfl rfl ⟨rfl,rfl,rfl,rfl,rfl⟩ rfl rfl rfl rfl rfl (by kernel_rfl) Tryz.func3 (by kernel_rfl)
  (of_decide_eq_true (by kernel_rfl)) (by unfold Func.isWrapper;first | (rw [if_pos (by decide +kernel)];kernel_rfl) | (rw [if_neg (by decide +kernel)];exact⟨rfl,rfl⟩))
  (fun os started H enc _ F=>by rw [OpenClaim.pre_eq_preRow];exact jb_lifted os started H enc F)
theorem jb_plain (f:FuncId) (fn:Func) (hf:Tryz.pinned.checked.prog.funcNamed "rosetta/rosettalaw31.IniOutTexts" = some f) (hfn:Tryz.pinned.checked.prog.funcs[f]? = some fn) :
  true=Tryz.pinned.checked.prog.looks []∧∀(j:Nat) t,fn.params[j]? = some t→Tryz.pinned.checked.prog.wantsStandIn t=false:=by
 obtain rfl:f=3:=Option.some.inj ((show Tryz.prog.funcNamed "rosetta/rosettalaw31.IniOutTexts" = some 3 by kernel_rfl).symm.trans hf) |>.symm
 obtain rfl:fn=Tryz.f3:=(Option.some.inj (Tryz.func3.symm.trans hfn)).symm
 refine⟨by kernel_rfl,fun j t ht=>?_⟩
 rw [Tryz.params3] at ht
 have hm:t=9:=by simpa using Array.mem_of_getElem? ht
 subst hm
 exact(show Tryz.prog.wantsStandIn 9=false by kernel_rfl)
theorem iniOutTexts_card:Rows.IniOutTextsCardSaid:=
 Claim7.holds_tied_plain_at .later [] _ _ _ _ iniOutTexts_said (fun _ h=>by cases h) (by kernel_rfl) (fun _ h=>by cases h) iniOutTexts_row_tie rfl ⟨rfl,rfl⟩ (by kernel_rfl) rfl jb_plain (by kernel_rfl)
#print axioms iniOutTexts_card
end Go.Proofs.YtnnnagnjikdnnaaGreatDoor
