/- JsonoutQuotes holds for every input: the row, and the card that ties its variables to the program's text. No condition: every text. -/
import Derived.Test.YtgbkbgiogdhnaaaGreatDoorCards
import Derived.Test.YtgbkbgiogdhnaaaGreatDoorTie
import Derived.Test.YtgbkbgiogdhnaaaGreatDoorMAa
import Derived.Test.YtgbkbgiogdhnaaaGreatDoorNEh
import Derived.Test.YtgbkbgiogdhnaaaGreatDoorNEg
import Derived.Test.YtgbkbgiogdhnaaaGreatDoorNRa
import Derived.Test.YtgbkbgiogdhnaaaGreatDoorShelf
import Derived.OpenShut
import Derived.Deep.DeepHandedRow
import Derived.Lib.LaidTab
import Derived.Lib.LaidU8
import Derived.Stop.LaidErr
set_option linter.unusedVariables false
set_option linter.unusedSimpArgs false
set_option linter.defProp false
set_option linter.constructorNameAsVariable false
namespace Go.Proofs.YtgbkbgiogdhnaaaGreatDoor
open Go.ChangeShapes Go.WideShapes Go.ChangeAt Go.RowKit Go.Lib
set_option maxRecDepth 100000 in
theorem jb_contract (H:Type) (enc:TypeId×Value→H) (W:World) (base:Nat) (args:Array Value) (ds gs:List (DataW H)) (before:List MemPlace)
  (hval:∀(j:Nat) t v,Tryz.f4.params[j]? = some t→args[j]? = some v→Value.okWide Tryz.prog W .any base t v)
  (hW:DataW.Whole enc Tryz.prog Tryz.f4.params.toList Rows.jsonoutQuotesSpec.vars false W args.toList ds gs before) (hL:laidMet Tryz.prog Rows.jsonoutQuotesRow.laid W) (hsh:W.ShapedOpen Tryz.prog) :
  Calls Tryz.prog 4 args W fun e W'=>∃v,e=.returned v∧Rows.jsonoutQuotesSpec.post enc Tryz.prog Tryz.f4 false true false false W args v W':=by
 have hW':=hW
 obtain⟨p,q,hA0,hV,rfl,hfz,hnd⟩:=hW
 have hA:DataW.TrodAll enc Tryz.prog W 0 (fun _=>true) true Tryz.f4.params.toList args.toList ds p:=hA0
 rw [Tryz.params4] at hA hval
 obtain⟨v0,d0,rfl,rfl,h0⟩:=trodAll_one hA
 obtain⟨rfl,rfl⟩:=trodVars_none hV
 obtain⟨l0,hl0,rfl,rfl,hm0,t0⟩:=open_str8 (hval 0 _ v0 rfl rfl) h0
 clear hA0
 simp only [List.append_nil] at hW'
 refine(quotes_any awake_true l0 hl0 hm0 W (lib_e hL hsh)).mono fun e W' ⟨he,hg⟩=>?_
 subst he
 exact⟨_,rfl,post_below (pa:=[]) (pv:=[]) hW' (fun _ _ _=>trodAll_mk1 (shut_bool Tryz.underlying4 _)) (fun sp _=>trodAll_mk1 (t0 W' sp)) (fun _ _=>rfl) rfl hg (ok_one (by kernel_rfl) rfl (okWide_bool_mk Tryz.underlying4 _))⟩
set_option maxRecDepth 100000 in
theorem jb_lifted (os:Os) (started:os.Started) (H:Type) (enc:TypeId×Value→H) (F:Stop.Interp) :
  ReturnsInHanded {} Tryz.checked os 4 .any ((OpenSpec.ofChange Rows.jsonoutQuotesSpec).preRow enc Tryz.prog Tryz.f4 Rows.jsonoutQuotesRow.domain false Rows.jsonoutQuotesRow.laid) (((OpenSpec.ofChange Rows.jsonoutQuotesSpec).at F).post enc Tryz.prog Tryz.f4 false true false false):=by
 obtain⟨places,hx⟩:=jb_reads os enc
 refine returnsInHanded_of_row (C:=Tryz.checked) (s:=OpenSpec.ofChange Rows.jsonoutQuotesSpec) own_none started (by kernel_rfl) Tryz.func4
  (witness_row_at (enc:=enc) (C:=Tryz.checked) false (laidWorld os) #[.string ⟨#[]⟩] rfl (by kernel_rfl) (by kernel_rfl) (by kernel_rfl)
   (OpenSpec.preRow_of_cond 8 hx (by kernel_rfl) (fun k hk=>by cases hk) (by kernel_rfl) (laid_met os))) ?_
 intro W base args ds gs before hval hW _ _ _ hL hsh _
 exact jb_contract H enc W base args ds gs before hval hW hL hsh
theorem jsonoutQuotes_said:Rows.JsonoutQuotesSaid:=
 OpenClaim.holds_of_cond 4 Tryz.f4 rfl rfl rfl rfl rfl rfl rfl ⟨rfl,rfl,rfl,rfl,rfl⟩ rfl rfl rfl rfl rfl (by kernel_rfl) Tryz.func4 (by kernel_rfl)
  (of_decide_eq_true (by kernel_rfl)) (by unfold Func.isWrapper;first | (rw [if_pos (by decide +kernel)];kernel_rfl) | (rw [if_neg (by decide +kernel)];exact⟨rfl,rfl⟩))
  (fun os started H enc _ F=>by rw [OpenClaim.pre_eq_preRow];exact jb_lifted os started H enc F)
theorem jb_plain (f:FuncId) (fn:Func) (hf:Tryz.pinned.checked.prog.funcNamed "rosetta/rosettalaw23.JsonoutQuotes" = some f) (hfn:Tryz.pinned.checked.prog.funcs[f]? = some fn) :
  true=Tryz.pinned.checked.prog.looks []∧∀(j:Nat) t,fn.params[j]? = some t→Tryz.pinned.checked.prog.wantsStandIn t=false:=by
 obtain rfl:f=4:=Option.some.inj ((show Tryz.prog.funcNamed "rosetta/rosettalaw23.JsonoutQuotes" = some 4 by kernel_rfl).symm.trans hf) |>.symm
 obtain rfl:fn=Tryz.f4:=(Option.some.inj (Tryz.func4.symm.trans hfn)).symm
 refine⟨by kernel_rfl,fun j t ht=>?_⟩
 rw [Tryz.params4] at ht
 have hm:t=9:=by simpa using Array.mem_of_getElem? ht
 subst hm
 exact(show Tryz.prog.wantsStandIn 9=false by kernel_rfl)
theorem jsonoutQuotes_card:Rows.JsonoutQuotesCardSaid:=
 Claim7.holds_tied_plain_at .later [] _ _ _ _ jsonoutQuotes_said (fun _ h=>by cases h) (by kernel_rfl) (fun _ h=>by cases h) jsonoutQuotes_row_tie rfl ⟨rfl,rfl⟩ (by kernel_rfl) rfl jb_plain (by kernel_rfl)
#print axioms jsonoutQuotes_card
end Go.Proofs.YtgbkbgiogdhnaaaGreatDoor
