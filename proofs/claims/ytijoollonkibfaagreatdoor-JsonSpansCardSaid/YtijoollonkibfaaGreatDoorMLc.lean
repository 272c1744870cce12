/- value's walk at a list or map: a case of the loop's round. -/
import Derived.Test.YtijoollonkibfaaGreatDoorMLs
import Derived.Deep.CutRange
set_option linter.unusedVariables false
set_option linter.unusedSimpArgs false
set_option linter.defProp false
set_option linter.constructorNameAsVariable false
namespace Go.Proofs.YtijoollonkibfaaGreatDoor
open Go.RowKit
set_option maxRecDepth 100000 in
set_option maxHeartbeats 16000000 in
theorem go_l {w:World} {B pb:Nat} {F:Nat→Prop} {k:PK} {A:Option Addr} {n c:Nat} {vn vs:Value} {ncs:List Value} {st:PSt} (h:PMx w B pb F k A n c vn vs ncs st) (hok:∀t∈st.left,TokOK t) (hL:LibAt B w) (s:JSpan) (d:Nat) (hd:d≤1000) {t:JTok} {r:List JTok} (hl:st.left=t :: r)
  (hk:t.kind=1) (hx:t.text = [91]) (hr:roomV st d=0) (hinv:PInv st) (L f0:Nat) (hll:st.left.length≤L) (hLb:L≤65536) (hfu:2*st.left.length<f0+1) (ih:∀f',f'≤f0→ValOK B pb k L f') (oc:Except PErr PLoop) (res:Except PErr (Int×PSt))
  (HO:Hid (itemsV k.en f0 false st.spans.length d ⟨⟨r,st.nodes ++ [⟨9,[],false,[],[]⟩],st.spans ++ [{ s with node:=st.nodes.length,from_:=t.from_,whole:=true }]⟩,[],[],[]⟩=oc))
  (HR:Hid (contRes st.nodes.length 9 st.spans.length oc=res)):Arg3 (shell_l w B pb F k st s d t r L f0 oc res):=by
 intro K hK nb hne1 mb hw10 cs9 hcs9 wr x FX AX nX cX vnX vsX ncX vk vi hI hnx hsx f hpu hfx hff hm0 hc y hy hev hov
 intros
 have hB:=hL.size
 have hd32:d≤32:=(room0 hr).1
 have hnl:st.nodes.length<4096:=(room0 hr).2
 have hspl:st.spans.length≤4096:=by have:=hinv.1;have:=hinv.2;omega
 have DI:=is_lit hI.pm hI.tk 93 false hc
 have n4:=hI.nd.cell' (i:=4) rfl
 obtain⟨Ai,ci,hvi,hic,him⟩:=own_slice hI.oi
 rw [hvi] at n4
 clear hpu
 have hyf:y.ks=x.ks∧y.keys=x.keys∧y.items=x.items∧y.st.nodes=x.st.nodes∧y.st.spans=x.st.spans∧y.st.left.length≤x.st.left.length:=by rcases hy with⟨_,rfl⟩ | ⟨_,_,rfl⟩ <;> simp
 go_upto_if 139 with(go_at_call 26;(with_reducible refine DI.out.mono ?_);rintro e wn ⟨rfl,rfl⟩)
 go_cut [] from 130 to 236 (fun wx=>LoopX w B pb w.heap.size nb mb F k 9 cs9 L y wx)
 case first=>
  clear n4 hev hov hyf
  rcases hy with⟨h0,rfl⟩ | ⟨h0,h1,rfl⟩
  ·have h0':¬(0:Int)<y.items.length:=by omega
   go_wp2_with fail
   go_meet
   exact⟨_,_,_,_,_,_,_,_,_,hI⟩
  ·obtain⟨t1,r1,hl1,ht1⟩:=isV_cons h1
   have h0':(0:Int)<x.items.length:=by omega
   have DJ:=is_lit hI.pm hI.tk 44 true h1
   have DT:=Lib.hid (take_any hI.pm (t:=t1) (r:=r1) hl1)
   have HIw:=Lib.hid hI
   clear hI hvi
   go_wp2_with (first | (go_at_call 26;(with_reducible refine DJ.out.mono ?_);rintro e wn ⟨rfl,rfl⟩) | (go_at_call 31;(refine DT.out.mono ?_);rintro e w10 ⟨A10,n10,c10,rfl,hP10,hS10⟩))
   go_meet
   rw [drop1 hl1]
   exact⟨_,_,_,_,_,_,_,_,_,HIw.out.taken hl1 hP10 hS10⟩
 case rest=>
  clear hI n4 hvi hic him DI
  obtain⟨FY,AY,nY,cY,vnY,vsY,ncY,vkY,viY,hJ⟩:=hcut
  have HYF:=Lib.hid hyf
  clear hyf
  have n4:=hJ.nd.cell' (i:=4) rfl
  obtain⟨Ai,ci,hvi,hic,him⟩:=own_slice hJ.oi
  subst hvi
  rw [←HYF.out.2.2.1] at hev hov
  have HEV:=Lib.hid hev
  have HOV:=Lib.hid hov
  clear hev hov
  have hC0:=Lib.hid (Arr.new wc 34 [.int .i64 0,.int .i64 0,.int .i64 0,.int .i64 0,.int .i64 0,.int .i64 0,.int .i64 0,.bool false,.bool false])
  have hbc:Below wc.heap.size wc (wc.alloc (.cells #[.int .i64 0,.int .i64 0,.int .i64 0,.int .i64 0,.int .i64 0,.int .i64 0,.int .i64 0,.bool false,.bool false] 34)):=(Below.refl _ _).alloc (Nat.le_refl _) _
  change Hid (Arr (wc.alloc (.cells #[.int .i64 0,.int .i64 0,.int .i64 0,.int .i64 0,.int .i64 0,.int .i64 0,.int .i64 0,.bool false,.bool false] 34)) wc.heap.size 34 [.int .i64 0,.int .i64 0,.int .i64 0,.int .i64 0,.int .i64 0,.int .i64 0,.int .i64 0,.bool false,.bool false]) at hC0
  go_upto_region 39 with(first | ((with_reducible show wpList _ _ _ (Oper.mk none (Op.store 34 (Operand.tmp 14) (Operand.tmp 155)) _ _ _ _ :: _) _ _);go_loud (refine wpList_sr rfl rfl 34 (.tmp 14) (.tmp 155) rfl (wc.heap.size) [.int .i64 0,.int .i64 (st.spans.length:Int),.int .i64 (y.items.length:Int),.int .i64 0,.int .i64 0,.int .i64 0,.int .i64 0,.bool false,.bool false] rfl rfl 34 _ hC0.out _ Tryz.sz34 (by first | rfl | simp) (by first | rfl | simp) (by first | rfl | simp [Value.oneCell']) ?_;intro w15 hr15 hg15 hz15)))
  have hb15:Below wc.heap.size wc w15:=hbc.grown hg15 (by simp) (fun k e=>by have:=Option.some.inj e;omega)
  have hJ1:=hJ.below hb15
  have hJd:=hJ1.below ((Below.refl _ _).drew)
  have hy6:=HYF.out.2.2.2.2.2
  have DV:=Lib.hid (ih f (by omega) w15.drew FY y.st ⟨0,(st.spans.length:Int),(y.items.length:Int),0,0,0,0,false,false⟩ (d+1) ⟨_,_,_,_,_,_,hJd.pm⟩ hJd.tk hJd.iv hJd.li (by omega) (by omega) (by have:=hJd.l1;omega))
  have hdd:((d+1:Nat):Int)=IntKind.i64.wrap ((d:Int)+1):=by rw [show IntKind.i64.wrap ((d:Int)+1)=(d:Int)+1 by rw [IntKind.wrap_i64];omega];omega
  rw [hdd] at DV
  change Hid (Calls Tryz.prog 10 #[.pointer (some ⟨pb,0,none⟩),.agg #[.int .i64 0,.int .i64 (st.spans.length:Int),.int .i64 (y.items.length:Int),.int .i64 0,.int .i64 0,.int .i64 0,.int .i64 0,.bool false,.bool false],.int .i64 (IntKind.i64.wrap ((d:Int)+1))] w15.drew (ValR w15.drew B pb FY k (valueV k.en f y.st ⟨0,(st.spans.length:Int),(y.items.length:Int),0,0,0,0,false,false⟩ (d+1)))) at DV
  have q0:=hr15.out.cell' (i:=0) rfl
  have q1:=hr15.out.cell' (i:=1) rfl
  have q2:=hr15.out.cell' (i:=2) rfl
  have q3:=hr15.out.cell' (i:=3) rfl
  have q4:=hr15.out.cell' (i:=4) rfl
  have q5:=hr15.out.cell' (i:=5) rfl
  have q6:=hr15.out.cell' (i:=6) rfl
  have q7:=hr15.out.cell' (i:=7) rfl
  have q8:=hr15.out.cell' (i:=8) rfl
  have hCd:Arr w15.drew wc.heap.size 34 [.int .i64 0,.int .i64 (st.spans.length:Int),.int .i64 (y.items.length:Int),.int .i64 0,.int .i64 0,.int .i64 0,.int .i64 0,.bool false,.bool false]:=hr15.out
  have hcF:¬FY wc.heap.size:=fun hf=>by have:=hJ.pm.hi _ hf;omega
  have n4:=hJ1.nd.cell' (i:=4) rfl
  have hBd:Below B w w15.drew:=hJd.step.below h.lo hB
  have hsw:w.heap.size≤w15.drew.heap.size:=hJd.step.size
  have hyl:=hJ.l1
  clear hbc hC0 hg15 hz15 hb15 hJ hJ1 hy hdd
  go_region_law (first | ((try go_simp);go_at_call 10;go_loud (refine valCalls DV.out ?_ ?_;rotate_left;(intro w16 er ho hb;exact valpan2 ho HR.out HEV.out hBd hb rfl rfl);rintro w16 v' st' F16 hv ⟨A16,n16,c16,vn16,vs16,ncs16,hP16⟩ hS16;obtain⟨hiv,hsub⟩:=(val_ok k.en f).1 _ _ _ _ _ hJd.iv hv;have hJ2:=hJd.next (y:=⟨st',y.ks,y.keys,y.items⟩) hS16 hP16 rfl rfl rfl hiv (hsub.ok hJd.tk) (by have:=hsub.len;show st'.left.length≤y.st.left.length;omega);have p4:=hJ2.nd.cell' (i:=4) rfl;have p4a:=(hJ2.nd.alloc (.cells #[.int .i64 v'] 3)).cell' (i:=4) rfl;have hs16:w.heap.size≤w16.heap.size:=hJ2.step.size;have hil:=hJ2.l1;replace hv:=Lib.hid hv)) | (refine step_apS rfl (.tmp 228) (.tmp 234) 38 rfl w.heap.size 3 _ 1 _ Tryz.underlying38 Tryz.info3 rfl (by decide) _ y.items.length (I64 y.items) rfl (hJ2.oi.alloc _) ⟨w16.heap.size,0,none⟩ _ [.int .i64 v'] rfl rfl (cells_new _ _ _) rfl (by unfold maxLen;simp at hil;omega) (by simp at hil;omega) (by simp;omega) ?_;intro v2 w18 hown18 hgr18 hat18;obtain⟨A18,c18,rfl,hc18,hm18⟩:=own_slice hown18;have hN18:=(hJ2.nd.alloc (.cells #[.int .i64 v'] 3)).grown hgr18 (fun e=>own_arr hJ2.oi hJ2.nd (by decide) e.symm);have p18:=hN18.cell' (i:=4) rfl;have f18:=hN18.frozen 4))
  all_goals
   have hll3:=hsub.len
   have hsn:=hsub.nodes
   have hss:=hsub.spans
   have h7:=congrArg List.length HYF.out.2.2.2.1
   have h8:=congrArg List.length HYF.out.2.2.2.2.1
   have hL3:=hJ2.pushItem (ob:=.cells #[.int .i64 v'] 3) hgr18 hown18 hat18 (by show y.items.length+1+st'.left.length≤L;omega)
   clear p4 p4a p18 f18 hN18 hown18 hgr18 hat18
   generalize (w18.setCell ⟨nb,4,none⟩ (.slice A18 (y.items.length+1) c18))=W19 at *
   go_wp2_with fail
   go_roundw
   case rel=>exact⟨f,_,⟨_,_,_,_,_,_,_,_,_,hL3⟩,Lib.hid (HOV.out _ _ hv.out),(by show 2*st'.left.length+1<f;omega),by omega,(by show st.nodes.length<st'.nodes.length;omega),(by show st.spans.length<st'.spans.length;omega)⟩
   case measure=>have hq:=leftN_of hL3.pm;have hl4:st'.left.length+1≤y.st.left.length:=hll3;rw [hm0,hq];show st'.left.length<_;omega
end Go.Proofs.YtijoollonkibfaaGreatDoor
