/- value's walk at an entry of a map: a part. -/
import Derived.Test.YtijoollonkibfaaGreatDoorMMk
import Derived.Deep.CutRange
set_option linter.unusedVariables false
set_option linter.unusedSimpArgs false
set_option linter.defProp false
set_option linter.constructorNameAsVariable false
namespace Go.Proofs.YtijoollonkibfaaGreatDoor
open Go.RowKit
set_option maxRecDepth 100000 in
set_option maxHeartbeats 16000000 in
theorem ok_m {w:World} {B pb:Nat} {F:Nat→Prop} {k:PK} {A:Option Addr} {n c:Nat} {vn vs:Value} {ncs:List Value} {st:PSt} (h:PMx w B pb F k A n c vn vs ncs st) (hok:∀t∈st.left,TokOK t) (hL:LibAt B w) (s:JSpan) (d:Nat) (hd:d≤1000) {t:JTok} {r:List JTok} (hl:st.left=t :: r)
  (hk:t.kind=1) (hx:t.text = [123]) (hr:roomV st d=0) (hinv:PInv st) (L f0:Nat) (hll:st.left.length≤L) (hLb:L≤65536) (hfu:2*st.left.length<f0+1) (ih:∀f',f'≤f0→ValOK B pb k L f') (oc:Except PErr PLoop) (res:Except PErr (Int×PSt))
  (HO:Hid (itemsV k.en f0 true st.spans.length d ⟨⟨r,st.nodes ++ [⟨10,[],false,[],[]⟩],st.spans ++ [{ s with node:=st.nodes.length,from_:=t.from_,whole:=true }]⟩,[],[],[]⟩=oc))
  (HR:Hid (contRes st.nodes.length 10 st.spans.length oc=res)):Arg1 (keyshell_m w B pb F k st s d t r L f0 oc res):=by
 intro K hK nb hne1 mb hw10 cs9 hcs9 wr x hnx hsx f hfx hff hm0 hc y FY AY nY cY vnY vsY ncY vkY HYF Ai ci HEV HOV w15 hJ1 cb hcF hC1 hcb J K' hK' t1 r1 hl1 hk2 hr0 hin hlast
 intros
 have hB:=hL.size
 have hd32:d≤32:=(room0 hr).1
 have hnl:st.nodes.length<4096:=(room0 hr).2
 have hspl:st.spans.length≤4096:=by have:=hinv.1;have:=hinv.2;omega
 have hB1:Below B w w15:=hJ1.step.below h.lo hB
 have c0:=hJ1.pm.par.cell' (i:=0) rfl
 have hn:=hJ1.pm.len
 have hdd:((d+1:Nat):Int)=(d:Int)+1:=by omega
 have hmp:=hJ1.mp
 obtain⟨g,o,hA,q0,q1,q2,q3⟩:=hJ1.pm.head hl1
 rw [hA] at c0
 have hokt:=hJ1.tk t1 (by rw [hl1];simp)
 have hkb:By t1.text:=hokt.1
 have hkl:t1.text.length≤4294967296:=by have:=hokt.2.1;omega
 rw [hl1] at hn
 have hn0:0<nY:=by rw [hn];simp
 have hn0':(0:Int)<nY:=by omega
 have hn1:((nY:Int) == 0)=false:=by simp;omega
 clear hn
 have hk2':((t1.kind:Int) != 2)=false:=by simp;omega
 have DR:=room_h0 hJ1.pm (d+1) (by omega) hr0
 rw [hdd] at DR
 have hdec:decide (t1.text∈y.ks)=false:=decide_eq_false hin
 have DT:=Lib.hid (take_any hJ1.pm (t:=t1) (r:=r1) hl1)
 have hly:y.st.left.length=r1.length+1:=by rw [hl1];simp
 have hll1:=hJ1.l1
 have hll2:=hJ1.l2
 have hll3:=hJ1.l3
 have hcl:cb<w15.heap.size:=hC1.out.lt
 have hHJ:=Lib.hid hJ1
 clear hJ1 hdd hB1 hokt hk2 hA
 go_upto_region 33 with(first | (go_at_call 27;(with_reducible refine DR.out.mono ?_);rintro e wn ⟨rfl,rfl⟩) | ((with_reducible show wpList _ _ _ (Oper.mk _ (Op.lookup _ _ _ _) _ _ _ _ :: _) _ _);go_loud (refine wpList_keyIn rfl (.tmp 181) (.tmp 189) rfl mb y.ks.length y.ks (by first | rfl | simp) hmp t1.text hkb hkl (by first | rfl | simp) ?_;rw [hdec])) | (go_at_call 31;go_loud (refine DT.out.mono ?_;rintro e w16 ⟨A16,n16,c16,rfl,hP16,hS16⟩;have hT0:=Lib.hid (Arr.new w16 67 zTok))) | ((with_reducible show wpList _ _ _ (Oper.mk none (Op.store 67 (Operand.tmp 15) (Operand.tmp 196)) _ _ _ _ :: _) _ _);go_loud (refine wpList_sr rfl rfl 67 (.tmp 15) (.tmp 196) rfl (w16.heap.size) (tokC t1) rfl rfl 67 _ hT0.out _ Tryz.sz67 (by first | rfl | simp) (by first | rfl | simp) (by first | rfl | simp [Value.oneCell']) ?_;intro w17 hr17 hg17 hz17)))
 have hb17:Below w16.heap.size w16 w17:=((Below.refl _ _).alloc (Nat.le_refl _) _).grown hg17 (by simp) (fun k e=>by have:=Option.some.inj e;omega)
 have hJ17:=(hHJ.out.taken hl1 hP16 hS16).below hb17
 have hC17:Arr w17 cb 34 [.int .i64 0,.int .i64 (st.spans.length:Int),.int .i64 (y.items.length:Int),.int .i64 0,.int .i64 0,.int .i64 0,.int .i64 0,.bool false,.bool false]:=(hS16.arr hC1.out hcF).keep hb17
 have hT17:=hr17.out
 have htF:¬FY w16.heap.size:=fun hf=>by have:=hP16.hi _ hf;omega
 have htc:cb<w16.heap.size:=by have:=hS16.size;omega
 clear DR hdec DT hHJ hT0 hr17 hg17 hz17 hb17 hP16 hS16 hC1 hmp c0 q0 q1 q2 q3
 generalize w16.heap.size=tb at *
 clear w16
 have k3:=hT17.cell' (i:=3) rfl
 go_upto_region 34 with(first | ((with_reducible show wpList _ _ _ (Oper.mk _ (Op.mapUpdate _ _ _ _) _ _ _ _ :: _) _ _);go_loud (refine wpList_keyPut rfl rfl (.tmp 197) (.tmp 199) _ rfl mb y.ks.length y.ks (by first | rfl | simp) hJ17.mp (by have:=hJ17.l3;simp at this;omega) t1.text hkb hkl (by first | rfl | simp) (by first | rfl | simp) ?_;intro w18 hM18 hg18)))
 have hJ18:=hJ17.putKey hM18 hg18 (by show y.ks.length+1+r1.length≤L;omega)
 have hC18:=hC17.grown hg18 (by intro e;exact map_kind hJ17.mp hC17 (Option.some.inj e))
 have hT18:=hT17.grown hg18 (by intro e;exact map_kind hJ17.mp hT17 (Option.some.inj e))
 clear k3 hJ17 hC17 hT17 hM18 hg18
 clear w17
 have tcn:tb≠cb:=by omega
 have u1:=hT18.cell' (i:=1) rfl
 have u2:=hT18.cell' (i:=2) rfl
 have f5:=hC18.frozen 5
 have f6:=hC18.frozen 6
 have z5:=hC18.cell' (i:=5) rfl
 have z6:=hC18.cell' (i:=6) rfl
 go_region
 have hsc:w.heap.size≠cb:=by omega
 have hJ19:=((hJ18.box hC18 hcF (by omega) hsc 5 (.int .i64 (t1.from_:Int))).box (hC18.store 5 (.int .i64 (t1.from_:Int))) hcF (by omega) hsc 6 (.int .i64 (t1.to_:Int))).below ((Below.refl _ _).drew)
 have hC19:Arr ((w18.setCell ⟨cb,5,none⟩ (.int .i64 (t1.from_:Int))).setCell ⟨cb,6,none⟩ (.int .i64 (t1.to_:Int))).drew cb 34 (spanC ⟨0,(st.spans.length:Int),(y.items.length:Int),0,0,(t1.from_:Int),(t1.to_:Int),false,false⟩):=(hC18.store 5 _).store 6 _
 have hT19:Arr ((w18.setCell ⟨cb,5,none⟩ (.int .i64 (t1.from_:Int))).setCell ⟨cb,6,none⟩ (.int .i64 (t1.to_:Int))).drew tb 67 (tokC t1):=(hT18.far tcn _).far tcn _
 clear hJ18 hC18 hT18 u1 u2 f5 f6 z5 z6
 generalize ((w18.setCell ⟨cb,5,none⟩ (.int .i64 (t1.from_:Int))).setCell ⟨cb,6,none⟩ (.int .i64 (t1.to_:Int))).drew=W19 at *
 clear w18
 obtain⟨Ak,ck,hvk,hkc,hkm⟩:=own_slice hJ19.ok
 subst hvk
 have hny:=(room0 hr0).2
 have hsy:y.st.spans.length≤y.st.nodes.length:=hJ19.iv.2
 go_upto_region 35 with(fail)
 have hJd:=hJ19.below ((Below.refl _ _).drew)
 have hCd:Arr W19.drew cb 34 (spanC ⟨0,(st.spans.length:Int),(y.items.length:Int),0,0,(t1.from_:Int),(t1.to_:Int),false,false⟩):=hC19
 have hTd:Arr W19.drew tb 67 (tokC t1):=hT19
 have n3:=hJd.nd.cell' (i:=3) rfl
 have k3:=hTd.cell' (i:=3) rfl
 have DAdd:=Lib.hid (add_any hJd.pm (by show y.st.nodes.length≤100000;omega) hJd.li.size 5 t1.text)
 change Hid (Calls Tryz.prog 29 #[.pointer (some ⟨pb,0,none⟩),.agg #[.int .i64 5,.string (mks t1.text),.bool false,.slice none 0 0,.slice none 0 0]] W19.drew (AddR W19.drew B pb FY k A16 n16 c16 vsY ⟨r1,y.st.nodes,y.st.spans⟩ ⟨5,t1.text,false,[],[]⟩)) at DAdd
 have hsw:w.heap.size≤W19.drew.heap.size:=hJd.step.size
 clear hJ19 hC19 hT19
 go_region_law (first | ((try go_simp);go_at_call 29;go_loud (refine DAdd.out.mono ?_;rintro e w20 ⟨F20,vn20,nc20,rfl,hP20,hS20,hF20⟩;have hJ20:=hJd.next (y:=⟨⟨r1,y.st.nodes ++ [⟨5,t1.text,false,[],[]⟩],y.st.spans⟩,y.ks ++ [t1.text],y.keys,y.items⟩) hS20 hP20 rfl rfl rfl ⟨by simp;omega,by simp;omega⟩ hJd.tk (Nat.le_refl _);have p3:=hJ20.nd.cell' (i:=3) rfl;have p3a:=(hJ20.nd.alloc (.cells #[.int .i64 (y.st.nodes.length:Int)] 3)).cell' (i:=3) rfl;have hs20:w.heap.size≤w20.heap.size:=hJ20.step.size)) | (refine step_apS rfl (.tmp 207) (.tmp 213) 38 rfl w.heap.size 3 _ 1 _ Tryz.underlying38 Tryz.info3 rfl (by decide) _ y.keys.length (I64 y.keys) rfl (hJ20.ok.alloc _) ⟨w20.heap.size,0,none⟩ _ [.int .i64 (y.st.nodes.length:Int)] rfl rfl (cells_new _ _ _) rfl (by unfold maxLen;omega) (by omega) (by simp;omega) ?_;intro v2 w21 hown21 hgr21 hat21;obtain⟨A21,c21,rfl,hc21,hm21⟩:=own_slice hown21;have hN21:=(hJ20.nd.alloc (.cells #[.int .i64 (y.st.nodes.length:Int)] 3)).grown hgr21 (fun e=>own_arr hJ20.ok hJ20.nd (by decide) e.symm);have p21:=hN21.cell' (i:=3) rfl;have f21:=hN21.frozen 3))
 all_goals
  have hC20:=hS20.arr hCd hcF
  have hcF2:¬F20 cb:=hS20.out hCd.lt hcF
  have hL22:=hJ20.pushKey (ob:=.cells #[.int .i64 (y.st.nodes.length:Int)] 3) hgr21 hown21 hat21 (by show y.keys.length+1+r1.length≤L;omega)
  have hC22:=((hC20.alloc (.cells #[.int .i64 (y.st.nodes.length:Int)] 3)).grown hgr21 (fun e=>own_arr hJ20.ok hC20 (by decide) e.symm)).far (p:=⟨nb,3,none⟩) (by intro e;have h1:=hJ20.nd;rw [show nb=cb from e.symm] at h1;exact absurd (cells_kind h1 hC20) (by decide)) (.slice A21 (y.keys.length+1) c21)
  clear p3 p3a p21 f21 hN21 hown21 hgr21 hat21 hJ20 hJd hCd hTd n3 k3 DAdd hS20 hP20 hF20 hC20
  generalize (w21.setCell ⟨nb,3,none⟩ (.slice A21 (y.keys.length+1) c21))=W22 at *
  have hB22:Below B w W22:=hL22.step.below h.lo hB
  rcases hlast with⟨h58,hk⟩ | ⟨h58,hk⟩
  ·have DI:=is_lit hL22.pm hL22.tk 58 false h58
   have DF:Hid (Calls Tryz.prog 11 #[.pointer (some ⟨pb,0,none⟩),.int .i64 4] W22 fun e w'=>e=failE (offV k.en r1,4)∧W22=w'):=fail_h hL22.pm 4
   have ho:oc=.error (offV k.en r1,4):=HEV.out _ hk
   have hrs:=HR.out
   rw [ho] at hrs
   generalize offV k.en r1=ofv at *
   subst hrs
   clear hL22 hC22
   go_wp2_with (first | (go_at_call 26;(with_reducible refine DI.out.mono ?_);rintro e wn ⟨rfl,rfl⟩) | (go_at_call 11;((with_reducible refine DF.out.mono ?_));rintro e wn ⟨he,rfl⟩;unfold failE at he;subst he))
   exact⟨rfl,ValR.bad hB22⟩
  ·obtain⟨t2,r2,hl2,ht2⟩:=isV_cons h58
   have DI:=is_lit hL22.pm hL22.tk 58 true h58
   have DT:=Lib.hid (take_any hL22.pm (t:=t2) (r:=r2) hl2)
   rw [drop1 hl2] at hk
   have hLH:=Lib.hid hL22
   have hCH:=Lib.hid hC22
   clear hL22 hC22
   go_wp2_with (first | (go_at_call 26;(with_reducible refine DI.out.mono ?_);rintro e wn ⟨rfl,rfl⟩) | (go_at_call 31;(refine DT.out.mono ?_);rintro e w23 ⟨A23,n23,c23,rfl,hP23,hS23⟩))
   go_meet
   have hlr:r1.length=r2.length+1:=by rw [hl2];simp
   have hyn:=congrArg List.length HYF.out.2.2.2.1
   have hys:=congrArg List.length HYF.out.2.2.2.2.1
   have hyl:=HYF.out.2.2.2.2.2
   exact⟨_,_,⟨_,_,_,_,_,_,_,_,_,hLH.out.taken hl2 hP23 hS23,hS23.out hCH.out.lt hcF2,hS23.arr hCH.out hcF2⟩,⟨by simp;omega,by simp;omega,by show r2.length≤_;omega⟩,Lib.hid (HOV.out _ _ hk).1,Lib.hid (HOV.out _ _ hk).2⟩
end Go.Proofs.YtijoollonkibfaaGreatDoor
