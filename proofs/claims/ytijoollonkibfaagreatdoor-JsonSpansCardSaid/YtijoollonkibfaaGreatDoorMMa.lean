/- value's walk at a list or map: a case of the loop's round. -/
import Derived.Test.YtijoollonkibfaaGreatDoorMMs
import Derived.Deep.CutRange
set_option linter.unusedVariables false
set_option linter.unusedSimpArgs false
set_option linter.defProp false
set_option linter.constructorNameAsVariable false
namespace Go.Proofs.YtijoollonkibfaaGreatDoor
open Go.RowKit
set_option maxRecDepth 100000 in
set_option maxHeartbeats 16000000 in
theorem close_m {w:World} {B pb:Nat} {F:Nat→Prop} {k:PK} {A:Option Addr} {n c:Nat} {vn vs:Value} {ncs:List Value} {st:PSt} (h:PMx w B pb F k A n c vn vs ncs st) (hok:∀t∈st.left,TokOK t) (hL:LibAt B w) (s:JSpan) (d:Nat) (hd:d≤1000) {t:JTok} {r:List JTok} (hl:st.left=t :: r)
  (hk:t.kind=1) (hx:t.text = [123]) (hr:roomV st d=0) (hinv:PInv st) (L f0:Nat) (hll:st.left.length≤L) (hLb:L≤65536) (hfu:2*st.left.length<f0+1) (ih:∀f',f'≤f0→ValOK B pb k L f') (oc:Except PErr PLoop) (res:Except PErr (Int×PSt))
  (HO:Hid (itemsV k.en f0 true st.spans.length d ⟨⟨r,st.nodes ++ [⟨10,[],false,[],[]⟩],st.spans ++ [{ s with node:=st.nodes.length,from_:=t.from_,whole:=true }]⟩,[],[],[]⟩=oc))
  (HR:Hid (contRes st.nodes.length 10 st.spans.length oc=res)):Arg1 (shell_m w B pb F k st s d t r L f0 oc res):=by
 intro K hK nb hne1 mb hw10 cs9 hcs9 wr x FX AX nX cX vnX vsX ncX vk vi hI hnx hsx f hpu hfx hff hm0 hc ho
 intros
 have hB:=hL.size
 have hd32:d≤32:=(room0 hr).1
 have hnl:st.nodes.length<4096:=(room0 hr).2
 have hspl:st.spans.length≤4096:=by have:=hinv.1;have:=hinv.2;omega
 obtain⟨t1,r1,hl1,ht1⟩:=isV_cons hc
 have DI:=is_lit hI.pm hI.tk 125 true hc
 have DT:=Lib.hid (take_any hI.pm.drew (t:=t1) (r:=r1) hl1)
 have hfld:=tok_to t1
 have hrs:=HR.out
 rw [ho,contRes_ok hl1] at hrs
 obtain⟨gs,cS,hvs,hsc,hsm⟩:=own_slice0 hI.pm.spn (by omega)
 obtain⟨gn,cN,hvn,hnc,hnm⟩:=own_slice0 hI.pm.nod (by omega)
 have c6:=hI.pm.par.cell' (i:=6) rfl
 rw [hvs] at c6
 have hks:(st.spans.length:Int)<x.st.spans.length:=by omega
 obtain⟨u4,hu4⟩:∃u,(spansC x.st.spans)[st.spans.length*9+4]? = some u:=⟨_,List.getElem?_eq_getElem (by have:=hI.pm.spn.1;omega)⟩
 have HIw:=Lib.hid hI
 clear hpu hm0
 go_upto_region 40 with(go_at_call 26;(with_reducible refine DI.out.mono ?_);rintro e wn ⟨rfl,rfl⟩)
 go_cut [] (fun wx=>∃A n c y,LoopS w B pb w.heap.size nb mb F k 10 cs9 L y FX A n c vnX vsX ncX vk vi wx∧Hid (Except.ok ((st.nodes.length:Int),⟨y.st.left,y.st.nodes.set st.nodes.length ⟨10,[],false,y.keys,y.items⟩,y.st.spans⟩)=res)∧y.st.nodes.length=x.st.nodes.length)
 case first=>
  go_region_law (go_simp;go_at_call 31;(refine DT.out.mono ?_);rintro e w10 ⟨A10,n10,c10,rfl,hP10,hS10⟩;have p6:=hP10.par.cell' (i:=6) rfl;rw [hvs] at p6;have zf:=own_cell (hvs▸hP10.spn) hu4;have zf1:=zf.1;have zf2:=zf.2;clear zf)
  all_goals
   have hL2:=((hI.below ((Below.refl _ _).drew)).taken hl1 hP10 hS10).spanTo hvs (i:=st.spans.length) hsx (t1.to_:Int)
   clear zf1 zf2 p6 hP10 hS10
   generalize (w10.setCell ⟨gs,st.spans.length*9+4,none⟩ (.int .i64 (t1.to_:Int)))=W12 at *
   go_wp2_with fail
   go_meet
   exact⟨A10,n10,c10,_,hL2,Lib.hid hrs,rfl⟩
 case rest=>
  obtain⟨A12,n12,c12,y,hL20,hres,hny⟩:=hcut
  have hL2:=hL20.below ((Below.refl _ _).drew)
  clear hrs hL20
  obtain⟨Ak,ck,hvk,_,_⟩:=own_slice hL2.ok
  obtain⟨Ai,ci,hvi,_,_⟩:=own_slice hL2.oi
  obtain⟨F',hPM,hSt,hSp⟩:=hL2.closed hvn (i:=st.nodes.length) (by omega) hvk hvi
  have s0:=hL2.sp.cell' (i:=0) (by rw [←hcs9.out];rfl)
  have n0:=hL2.nd.cell' (i:=0) rfl
  have n1:=hL2.nd.cell' (i:=1) rfl
  have n2:=hL2.nd.cell' (i:=2) rfl
  have n3:=hL2.nd.cell' (i:=3) rfl
  have n4:=hL2.nd.cell' (i:=4) rfl
  rw [hvk] at n3
  rw [hvi] at n4
  have m4:=hL2.pm.par.cell' (i:=4) rfl
  rw [hvn] at m4
  have hT:=own_there (g:=gn) (n:=x.st.nodes.length) (cap:=cN) (by rw [←hvn,←hny];exact hL2.pm.nod) (o:=st.nodes.length*5) (m:=5) (by omega)
  have hnx':(st.nodes.length:Int)<x.st.nodes.length:=by omega
  clear hI HIw hvk hvi
  go_upto_region 41 with(fail)
  go_still_tail 10,(by kernel_rfl)
  change wpList _ _ _ _ _ wc.drew
  go_wp2_with ((with_reducible show wpList _ _ _ (Oper.mk _ (Op.store 40 _ _) _ _ _ _ :: _) _ _);go_loud (refine wpList_store_mid rfl 40 (.tmp 259) (.tmp 258) rfl gn (st.nodes.length*5) #[.int .i64 10,.string ⟨#[]⟩,.bool false,.slice Ak y.keys.length ck,.slice Ai y.items.length ci] (by first | rfl | simp) (by first | rfl | simp) hT Tryz.sz40 (by simp [Value.oneCell']) ?_;have z0:=hSp.cell' (i:=0) (by rw [←hcs9.out];rfl)))
  go_ret
  rw [←hres.out]
  exact⟨F',rfl,hPM,hSt⟩
end Go.Proofs.YtijoollonkibfaaGreatDoor
namespace Go.Proofs.YtijoollonkibfaaGreatDoor
open Go.RowKit
set_option maxRecDepth 100000 in
set_option maxHeartbeats 16000000 in
theorem comma_m {w:World} {B pb:Nat} {F:Nat→Prop} {k:PK} {A:Option Addr} {n c:Nat} {vn vs:Value} {ncs:List Value} {st:PSt} (h:PMx w B pb F k A n c vn vs ncs st) (hok:∀t∈st.left,TokOK t) (hL:LibAt B w) (s:JSpan) (d:Nat) (hd:d≤1000) {t:JTok} {r:List JTok} (hl:st.left=t :: r)
  (hk:t.kind=1) (hx:t.text = [123]) (hr:roomV st d=0) (hinv:PInv st) (L f0:Nat) (hll:st.left.length≤L) (hLb:L≤65536) (hfu:2*st.left.length<f0+1) (ih:∀f',f'≤f0→ValOK B pb k L f') (oc:Except PErr PLoop) (res:Except PErr (Int×PSt))
  (HO:Hid (itemsV k.en f0 true st.spans.length d ⟨⟨r,st.nodes ++ [⟨10,[],false,[],[]⟩],st.spans ++ [{ s with node:=st.nodes.length,from_:=t.from_,whole:=true }]⟩,[],[],[]⟩=oc))
  (HR:Hid (contRes st.nodes.length 10 st.spans.length oc=res)):Arg2 (shell_m w B pb F k st s d t r L f0 oc res):=by
 intro K hK nb hne1 mb hw10 cs9 hcs9 wr x FX AX nX cX vnX vsX ncX vk vi hI hnx hsx f hpu hfx hff hm0 hc h0 h1 ho
 intros
 have hB:=hL.size
 have hd32:d≤32:=(room0 hr).1
 have hnl:st.nodes.length<4096:=(room0 hr).2
 have hspl:st.spans.length≤4096:=by have:=hinv.1;have:=hinv.2;omega
 have DI:=is_lit hI.pm hI.tk 125 false hc
 have DJ:=is_lit hI.pm hI.tk 44 false h1
 have DF:Hid (Calls Tryz.prog 11 #[.pointer (some ⟨pb,0,none⟩),.int .i64 4] wr fun e w'=>e=failE (offV k.en x.st.left,4)∧wr=w'):=fail_h hI.pm 4
 have n4:=hI.nd.cell' (i:=4) rfl
 obtain⟨Ai,ci,hvi,hic,him⟩:=own_slice hI.oi
 rw [hvi] at n4
 have h0':(0:Int)<x.items.length:=by omega
 have hB1:Below B w wr:=hI.step.below h.lo hB
 have hrs:=HR.out
 rw [ho] at hrs
 generalize offV k.en x.st.left=ofv at *
 subst hrs
 clear hpu hI hvi ho
 go_wp2_with (first | (go_at_call 26;(first | (with_reducible refine DI.out.mono ?_) | (with_reducible refine DJ.out.mono ?_));rintro e wn ⟨rfl,rfl⟩) | (go_at_call 11;((with_reducible refine DF.out.mono ?_));rintro e wn ⟨he,rfl⟩;unfold failE at he;subst he))
 exact⟨rfl,ValR.bad hB1⟩
end Go.Proofs.YtijoollonkibfaaGreatDoor
