/- The walk of graph's Map. -/
import Derived.Test.YtgbkbgiogdhnaaaGreatDoorMEb
import Derived.Test.YtgbkbgiogdhnaaaGreatDoorMEa
set_option linter.unusedVariables false
set_option linter.unusedSimpArgs false
set_option linter.defProp false
set_option linter.constructorNameAsVariable false
namespace Go.Proofs.YtgbkbgiogdhnaaaGreatDoor
open Go.RowKit
structure KeyOK (nodes:List GNode):Prop where
 arg:ArgOK nodes
 one:∀x∈countsV nodes 0,x≤1
 len:(countsV nodes 0).length=nodes.length
def prN (p:GArg×GArg):List GNode×List GNode:=(p.1.nodes,p.2.nodes)
theorem mapT_take {ps:List (GArg×GArg)} {i:Nat} {x:GArg×GArg} (h:ps[i]? = some x):mapT ((ps.take (i+1)).map prN)=addM (mapT ((ps.take i).map prN)) (prN x):=by
 unfold mapT
 rw [List.take_add_one,h]
 simp [List.foldl_append]
set_option maxRecDepth 20000 in
set_option maxHeartbeats 32000000 in
theorem map_any {B c:Nat} {A:Option Addr} {ps:List (GArg×GArg)} (hK:∀x∈ps,KeyOK x.1.nodes) (hV:∀x∈ps,ArgOK x.2.nodes) (hn:ps.length≤8) (hO:ArgOK (mapN (ps.map prN))) (hlen:∀i,i≤ps.length→(mapT ((ps.take i).map prN)).rest.length≤4000∧(mapT ((ps.take i).map prN)).is.length≤4000∧(mapT ((ps.take i).map prN)).ks.length≤4000) (w:World) (hw:LibE w) (hB:B≤w.heap.size) (hR:PsRd w B A ps) :
  Calls Tryz.prog 25 #[.bool false,.slice A ps.length c] w (GrR w (mapN (ps.map prN))):=by
 have HK:=Lib.hid hK
 have HVV:=Lib.hid hV
 have HR:=Lib.hid hR
 have HW:=Lib.hid hw
 have HO:=Lib.hid hO
 have HL:=Lib.hid hlen
 have hr1:Hid (Arr (w.alloc (.cells #[.slice none 0 0,.int .i64 0] 29)) w.heap.size 29 [.slice none 0 0,.int .i64 0]):=Arr.new w _ _
 have hB1:Hid (Below w.heap.size w (w.alloc (.cells #[.slice none 0 0,.int .i64 0] 29))):=(Below.refl _ _).alloc (Nat.le_refl _) _
 clear hK hV hR hw hO hlen
 go_enter Tryz.func25,Tryz.ntmps25
 go_upto_region 1 with(fail)
 generalize w.alloc (.cells #[.slice none 0 0,.int .i64 0] 29)=w1 at *
 obtain⟨n,hn'⟩:∃n,ps.length=n:=⟨_,rfl⟩
 have HN:=Lib.hid hn'
 rw [hn'] at hn
 obtain⟨rb,hrb⟩:∃b,w.heap.size=b:=⟨_,rfl⟩
 have HRB:=Lib.hid hrb
 have hrl:=hr1.out.lt
 rw [hrb] at hr1 hB1 hrl hB ⊢
 try rw [hn']
 clear hn' hrb
 go_upto_region 2 with(fail)
 -- the checks
 go_loopw [15] (fun v wr=>∃(i:Nat),i≤n∧v=.int .i64 (i:Int)∧Hid (Below w1.heap.size w1 wr)) (fun v _=>n - (intOf v).toNat)
 case atStart=>exact⟨0,Nat.zero_le _,rfl,Below.refl _ _⟩
 case round=>
  obtain⟨i,hi,rfl,hBr⟩:=hrel
  have hBw:=Lib.hid (hB1.out.trans (hBr.out.mono (by omega)))
  have hbws:=hBr.out.size
  by_cases him:i=n
  ·have hi':¬(i:Int)<n:=by omega
   obtain⟨w2,hw2⟩:∃x:World,x=wr:=⟨_,rfl⟩
   subst hw2
   have hr2:=Lib.hid (hr1.out.keep hBr.out)
   have hs2:rb<w2.heap.size:=hr2.out.lt
   have hT3:Hid (Tab (w2.alloc (.cells #[.int .i64 10,.string ⟨#[]⟩,.bool false,.slice none 0 0,.slice none 0 0] 43)) rb 10 false (.slice (some ⟨w2.heap.size,0,none⟩) 1 1) (.slice none 0 0) (.slice none 0 0) [] [] [] []):=Tab.new w2 rb (by omega) 10 false
   have hb3:Below w2.heap.size w2 (w2.alloc (.cells #[.int .i64 10,.string ⟨#[]⟩,.bool false,.slice none 0 0,.slice none 0 0] 43)):=(Below.refl _ _).alloc (Nat.le_refl _) _
   have hr3:=Lib.hid (hr2.out.keep hb3)
   have hB3:=Lib.hid (hBw.out.trans (hb3.mono (by omega)))
   clear hr1 hB1 hBr him hi hBw
   go_upto_region 9 with(fail)
   generalize w2.alloc (.cells #[.int .i64 10,.string ⟨#[]⟩,.bool false,.slice none 0 0,.slice none 0 0] 43)=w3 at *
   generalize w2.heap.size=nb at *
   clear hb3
   have hT0:Hid (∃ncs vk vi,Tab w3 rb 10 false (.slice (some ⟨nb,0,none⟩) 1 1) vk vi (mapT ((ps.take 0).map prN)).ks (mapT ((ps.take 0).map prN)).is (mapT ((ps.take 0).map prN)).rest ncs):=⟨[],_,_,hT3.out⟩
   clear hT3
   go_loopw [8,36] (fun v iv wr=>∃(i:Nat),i≤n∧iv=.int .i64 (i:Int)∧Hid (∃ncs vk vi,Tab wr rb 10 false v vk vi (mapT ((ps.take i).map prN)).ks (mapT ((ps.take i).map prN)).is (mapT ((ps.take i).map prN)).rest ncs)∧Hid (Arr wr rb 29 [.slice none 0 0,.int .i64 0])∧Hid (Below rb w wr)) (fun _ iv _=>n - (intOf iv).toNat)
   case atStart=>exact⟨0,Nat.zero_le _,rfl,hT0,hr3,hB3⟩
   case round=>
    clear hT0 hr3 hB3
    obtain⟨i,hi,rfl,hT,hr,hBr⟩:=hrel
    obtain⟨ncs,vk,vi,hT'⟩:=hT.out
    have HT:=Lib.hid hT'
    clear hT hT'
    by_cases him:i=n
    ·have hi':¬(i:Int)<n:=by omega
     obtain rfl:i=n:=him
     have hall:(ps.take i).map prN=ps.map prN:=by rw [List.take_of_length_le (by have:=HN.out;omega)]
     rw [hall] at HT
     have HLN:Hid (mapN (ps.map prN)=⟨10,[],false,(mapT (ps.map prN)).ks,(mapT (ps.map prN)).is⟩ :: (mapT (ps.map prN)).rest):=rfl
     obtain⟨NN,hNN⟩:∃a,mapN (ps.map prN)=a:=⟨_,rfl⟩
     rw [hNN] at HO HLN
     have HNN:=Lib.hid hNN
     generalize (mapT (ps.map prN)).ks=ks at *
     generalize (mapT (ps.map prN)).is=is at *
     generalize (mapT (ps.map prN)).rest=rest at *
     clear hall HL hNN
     obtain⟨gb,cb,hv,hGr⟩:=HT.out.grd
     rw [←HLN.out] at hGr
     obtain⟨d,hd⟩:∃d,1+rest.length=d:=⟨_,rfl⟩
     have hdl:NN.length=d:=by rw [HLN.out,List.length_cons];omega
     rw [hd] at hv
     subst hv
     have hwr:LibE wr:=HW.out.keep (by rw [HRB.out];exact hBr.out)
     have D:=Lib.hid (checked_ok (c:=cb) HO.out.chk HO.out.zero wr hwr hGr)
     rw [hdl] at D
     have HDL:=Lib.hid hdl
     have hrs:rb≤wr.heap.size:=by have:=hr.out.lt;omega
     clear hwr hGr hd hdl
     go_wp2_with (go_at_call 47;((with_reducible refine D.out.mono ?_));rintro e w5 ⟨rfl,hb5⟩;have hr5:=hr.out.keep hb5;have d0:=hr5.cell' (i:=0) rfl;have d1:=hr5.cell' (i:=1) rfl;have f0:=hr5.frozen 0;have f1:=hr5.frozen 1)
     have h6:=Lib.hid ((hr5.store 0 (.slice (some ⟨gb,0,none⟩) d cb)).store 1 (.int .i64 0))
     have hT5:=HT.out.keep hb5
     have hT6:=(hT5.other hr5 (by decide) (by decide) (grown_set w5 ⟨rb,0,none⟩ (.slice (some ⟨gb,0,none⟩) d cb))).other (hr5.store 0 (.slice (some ⟨gb,0,none⟩) d cb)) (by decide) (by decide) (grown_set _ ⟨rb,1,none⟩ (.int .i64 0))
     have hB6:=Lib.hid (((hBr.out.trans (hb5.mono hrs)).setCell (p:=⟨rb,0,none⟩) (Nat.le_refl _) (.slice (some ⟨gb,0,none⟩) d cb)).setCell (p:=⟨rb,1,none⟩) (Nat.le_refl _) (.int .i64 0))
     obtain⟨gb',cb',hv',hGr⟩:=hT6.grd
     injection hv' with e1 e2 e3
     injection e1 with e1
     injection e1 with e1
     subst e1
     rw [←HLN.out] at hGr
     have hgl:=(hT6.row.lt gb rfl).1
     have HT6:=Lib.hid hT6
     clear d0 d1 f0 f1 hr5 hT5 hT6 D e2 e3
     generalize (w5.setCell ⟨rb,0,none⟩ (.slice (some ⟨gb,0,none⟩) d cb)).setCell ⟨rb,1,none⟩ (.int .i64 0)=w6 at *
     have r0:=h6.out.cell' (i:=0) rfl
     have r1:=h6.out.cell' (i:=1) rfl
     refine bodyPost_ret (v:=.tuple #[.agg #[.slice (some ⟨gb,0,none⟩) d cb,.int .i64 0],.int .i64 0]) (by simp [results,Tryz.results25,go_sem,r0,r1]) rfl ?_
     unfold GrR
     rw [HNN.out,HDL.out]
     exact⟨gb,cb,rfl,by have:=HRB.out;omega,by rw [HRB.out];exact hB6.out,hGr,fun w'' b xs hA hg=>by
      obtain⟨gb2,cb2,hv2,hGr2⟩:=(HT6.out.other hA (by decide) (by decide) hg).grd
      injection hv2 with e1 e2 e3
      injection e1 with e1
      injection e1 with e1
      subst e1
      rw [HLN.out]
      exact hGr2⟩
    ·have hi':(i:Int)<n:=by omega
     have i0:(0:Int)≤i:=by omega
     obtain⟨x,hx⟩:∃x,ps[i]? = some x:=⟨_,List.getElem?_eq_getElem (by have:=HN.out;omega)⟩
     have hokkk:=HK.out x (List.mem_of_getElem? hx)
     have hokxv:=HVV.out x (List.mem_of_getElem? hx)
     have hstep:=Lib.hid (mapT_take hx)
     obtain⟨hl1,hl2,hl3⟩:=HL.out i (by have:=HN.out;omega)
     have HRr:=HR.out.below hBr.out hB
     obtain⟨ab,rfl,_,y0,y1,y2,y3,_,_⟩:=HRr i x hx
     have hGk:GRd w B x.1.g x.1.o x.1.nodes:=by obtain⟨_,_,_,_,_,_,_,h,_⟩:=HR.out i x hx;exact h
     have hGv:GRd w B x.2.g x.2.o x.2.nodes:=by obtain⟨_,_,_,_,_,_,_,_,h⟩:=HR.out i x hx;exact h
     obtain⟨xk,xv⟩:=x
     dsimp only at hokkk hokxv y0 y1 y2 y3 hGk hGv
     have hokxk:=hokkk.arg
     have hBx:Hid (Arr (wr.alloc (.cells #[.slice (some ⟨xk.g,xk.o,none⟩) xk.nodes.length xk.c,.int .i64 0,.slice (some ⟨xv.g,xv.o,none⟩) xv.nodes.length xv.c,.int .i64 0] 72)) wr.heap.size 72 [.slice (some ⟨xk.g,xk.o,none⟩) xk.nodes.length xk.c,.int .i64 0,.slice (some ⟨xv.g,xv.o,none⟩) xv.nodes.length xv.c,.int .i64 0]):=Arr.new wr _ _
     have hbx:Below wr.heap.size wr (wr.alloc (.cells #[.slice (some ⟨xk.g,xk.o,none⟩) xk.nodes.length xk.c,.int .i64 0,.slice (some ⟨xv.g,xv.o,none⟩) xv.nodes.length xv.c,.int .i64 0] 72)):=(Below.refl _ _).alloc (Nat.le_refl _) _
     have hgw:rb≤wr.heap.size:=by have:=hr.out.lt;omega
     go_upto_region 11 with(fail)
     clear y0 y1 y2 y3 HRr
     generalize wr.alloc (.cells #[.slice (some ⟨xk.g,xk.o,none⟩) xk.nodes.length xk.c,.int .i64 0,.slice (some ⟨xv.g,xv.o,none⟩) xv.nodes.length xv.c,.int .i64 0] 72)=w5 at *
     have HT5:=Lib.hid (HT.out.keep hbx)
     have hr5:=Lib.hid (hr.out.keep hbx)
     have hB5:=Lib.hid (hBr.out.trans (hbx.mono hgw))
     obtain⟨ks,hks⟩:∃a,(mapT ((ps.take i).map prN)).ks=a:=⟨_,rfl⟩
     obtain⟨is,his⟩:∃a,(mapT ((ps.take i).map prN)).is=a:=⟨_,rfl⟩
     obtain⟨rest,hrest⟩:∃a,(mapT ((ps.take i).map prN)).rest=a:=⟨_,rfl⟩
     have hst:mapT ((ps.take i).map prN)=⟨ks,is,rest⟩:=by rw [←hks,←his,←hrest]
     rw [hks,his,hrest] at HT5
     rw [his] at hl2
     rw [hrest] at hl1
     rw [hks] at hl3
     rw [hst] at hstep
     clear hks his hrest hst HT hr hBr hx hbx hgw
     have D0:=Lib.hid (shared_no (c:=xk.c) (root:=0) (chkV_zero hokxk.zero).1 hokxk.chk.nl (by have:=hokxk.chk.n1;omega) hokkk.one hokkk.len w5 (hGk.below hB5.out hB))
     have b0:=hBx.out.cell' (i:=0) rfl
     have b1:=hBx.out.cell' (i:=1) rfl
     go_upto_region 14 with(go_at_call 48;((with_reducible refine D0.out.mono ?_));rintro e w6 ⟨rfl,hb6⟩)
     have HT6:=Lib.hid (HT5.out.keep hb6)
     have hr6:=Lib.hid (hr5.out.keep hb6)
     have hB6:=Lib.hid (hB5.out.trans (hb6.mono (by have:=hr5.out.lt;omega)))
     have hBX1:=Lib.hid (hBx.out.keep hb6)
     clear b0 b1 D0 hBx hb6 HT5 hr5 hB5 hokkk
     obtain⟨gb1,cb1,hv1,_,_⟩:=own_some HT6.out.row (by omega)
     obtain⟨d,hd1⟩:∃d,1+(rest).length=d:=⟨_,rfl⟩
     rw [hd1] at hv1
     subst hv1
     have HD1:=Lib.hid hd1
     have hrow1:=HT6.out.row
     rw [hd1] at hrow1
     have hd1l:d≤20000:=by omega
     have hG1:GRd w6 rb xk.g xk.o xk.nodes:=(hGk.below hB6.out hB).up hB (by have:=hr6.out.lt;omega)
     have D1:=Lib.hid (appended_zero (c:=xk.c) hokxk (n0:=d) (by omega) w6 hG1 hrow1)
     obtain⟨more1,hmo1⟩:∃a,xk.nodes.map (shiftN d)=a:=⟨_,rfl⟩
     have hmol1:more1.length≤4096:=by rw [←hmo1,List.length_map];exact hokxk.chk.n1
     unfold App0 at D1
     rw [hmo1] at D1
     have HMO1:=Lib.hid hmo1
     have b10:=hBX1.out.cell' (i:=0) rfl
     have b11:=hBX1.out.cell' (i:=0+1) rfl
     clear hmo1 hd1 hrow1 hG1
     go_upto_region 15 with(go_at_call 46;((with_reducible refine D1.out.mono ?_));rintro e w7 ⟨v1',ncs1',rfl,hro1,hrd1,hg1⟩)
     have HT7:Hid (Tab w7 rb 10 false v1' vk vi ks is (rest ++ more1) (ncs ++ ncs1')):=HT6.out.app (by have:=hr6.out.lt;omega) (by rw [HD1.out];exact hro1) hrd1 hg1
     have hr7:=Lib.hid (hr6.out.grown hg1 (fun e=>own_arr HT6.out.row hr6.out (by decide) e.symm))
     have hB7:=Lib.hid (hB6.out.trans (below_of_grown hg1 (by have:=hr6.out.lt;omega) (fun k e=>(HT6.out.row.lt k e).1)))
     have hBX1n:=Lib.hid (hBX1.out.grown hg1 (fun e=>own_arr HT6.out.row hBX1.out (by decide) e.symm))
     clear b10 b11 D1 hro1 hrd1 hg1 HT6 hr6 hB6
     have hBX2:=hBX1n
     clear hBX1 hBX1n
     obtain⟨gb2,cb2,hv2,_,_⟩:=own_some HT7.out.row (by omega)
     obtain⟨d2,hd2⟩:∃d,1+(rest ++ more1).length=d:=⟨_,rfl⟩
     rw [hd2] at hv2
     subst hv2
     have HD2:=Lib.hid hd2
     have hrow2:=HT7.out.row
     rw [hd2] at hrow2
     have hd2l:d2≤20000:=by rw [←HD2.out,List.length_append];omega
     have hG2:GRd w7 rb xv.g xv.o xv.nodes:=(hGv.below hB7.out hB).up hB (by have:=hr7.out.lt;omega)
     have D2:=Lib.hid (appended_zero (c:=xv.c) hokxv (n0:=d2) (by omega) w7 hG2 hrow2)
     obtain⟨more2,hmo2⟩:∃a,xv.nodes.map (shiftN d2)=a:=⟨_,rfl⟩
     have hmol2:more2.length≤4096:=by rw [←hmo2,List.length_map];exact hokxv.chk.n1
     unfold App0 at D2
     rw [hmo2] at D2
     have HMO2:=Lib.hid hmo2
     have b20:=hBX2.out.cell' (i:=2) rfl
     have b21:=hBX2.out.cell' (i:=2+1) rfl
     clear hmo2 hd2 hrow2 hG2
     go_upto_region 16 with(go_at_call 46;((with_reducible refine D2.out.mono ?_));rintro e w8 ⟨v2',ncs2',rfl,hro2,hrd2,hg2⟩)
     have HT8:Hid (Tab w8 rb 10 false v2' vk vi ks is (rest ++ more1 ++ more2) (ncs ++ ncs1' ++ ncs2')):=HT7.out.app (by have:=hr7.out.lt;omega) (by rw [HD2.out];exact hro2) hrd2 hg2
     have hr8:=Lib.hid (hr7.out.grown hg2 (fun e=>own_arr HT7.out.row hr7.out (by decide) e.symm))
     have hB8:=Lib.hid (hB7.out.trans (below_of_grown hg2 (by have:=hr7.out.lt;omega) (fun k e=>(HT7.out.row.lt k e).1)))
     have hBX2n:=Lib.hid (hBX2.out.grown hg2 (fun e=>own_arr HT7.out.row hBX2.out (by decide) e.symm))
     clear b20 b21 D2 hro2 hrd2 hg2 HT7 hr7 hB7
     have hstep2:Hid (mapT ((ps.take (i+1)).map prN)=⟨ks ++ [(d:Int)],is ++ [(d2:Int)],(rest ++ more1) ++ more2⟩):=by
      show _=_
      rw [hstep.out];unfold addM prN
      simp only [HD1.out,HMO1.out,HD2.out,HMO2.out]
     obtain⟨gbz,cbz,hvz,_,_⟩:=own_some HT8.out.row (by omega)
     obtain⟨d3,hd3⟩:∃d,1+((rest ++ more1) ++ more2).length=d:=⟨_,rfl⟩
     have HD3:=Lib.hid hd3
     have hd3p:(0:Int)<d3:=by omega
     rw [hd3] at hvz
     subst hvz
     have HT9:Hid (Tab w8 rb 10 false (.slice (some ⟨gbz,0,none⟩) (1+((rest ++ more1) ++ more2).length) cbz) vk vi ks is ((rest ++ more1) ++ more2) (ncs ++ ncs1' ++ ncs2')):=by rw [HD3.out];exact HT8.out
     clear hd3 HT8 hstep hBX2 hBX2n hGk hGv
     obtain⟨Aa,ca,hvva,_,_⟩:=own_slice HT9.out.rk
     subst hvva
     have pa:=own_cell1 HT9.out.row (i:=3) rfl
     have ba:=pa.1
     have HVGa:Hid ((Value.slice Aa ks.length ca).ownBlock≠some gbz):=fun e=>by
      obtain⟨C,fz,hc⟩:=own_kind HT9.out.rk e
      obtain⟨C',fz',hc'⟩:=own_kind HT9.out.row (g:=gbz) rfl
      exact absurd (cells_kind hc hc') (by decide)
     have hba:Hid (Below w8.heap.size w8 (w8.alloc (.cells #[.int .i64 (d:Int)] 3))):=(Below.refl _ _).alloc (Nat.le_refl _) _
     have hraa:=(HT9.out.keep hba.out).rk
     have hroa:=(HT9.out.keep hba.out).row
     have hsza:rb≤w8.heap.size:=by have:=hr8.out.lt;omega
     clear pa
     go_upto_region 17 with(at_builtin;go_loud (refine wpList_apS rfl (.tmp 62) (.tmp 64) 41 rfl rb 3 _ 1 _ Tryz.underlying41 infoInt rfl (by decide) _ ks.length (I64 ks) rfl hraa ⟨w8.heap.size,0,none⟩ _ [.int .i64 (d:Int)] rfl rfl (cells_new _ _ _) rfl (by unfold maxLen;omega) (by omega) (by simp;omega) ?_;intro v8 w8a hown8 hgr8 hat8;obtain⟨A8,c8,hv8,hc8a,hc8b⟩:=own_slice hown8;subst hv8;have e4:=hgr8.cell ((hba.out.cell (block_lt_of_cell ba)).trans ba) (fun e=>HVGa.out e.symm);have r8:=own_same hroa (fun b hb=>hgr8.block b (hroa.lt b hb).2 (fun e=>by have:=Option.some.inj hb;subst this;exact HVGa.out e.symm));have q8:=(own_cell1 r8 (i:=3) rfl).2))
     have hat9:(Value.slice A8 (ks.length+1) c8).ownBlock=(Value.slice Aa ks.length ca).ownBlock∨(Value.slice A8 (ks.length+1) c8).ownBlock=some (w8.alloc (.cells #[.int .i64 (d:Int)] 3)).heap.size:=hat8
     obtain⟨hT9,hb9⟩:=HT9.out.push_k hsza hba.out hgr8 hown8 hat9
     have hr9:Hid (Arr (w8a.setCell ⟨gbz,3,none⟩ (.slice A8 (ks.length+1) c8)) rb 29 [.slice none 0 0,.int .i64 0]):=((hr8.out.keep hba.out).grown hgr8 (fun e=>own_arr (own_below HT9.out.rk hba.out) (hr8.out.keep hba.out) (by decide) e.symm)).far (p:=⟨gbz,3,none⟩) (fun e=>by
      obtain⟨C',fz',hc'⟩:=own_kind HT9.out.row (g:=gbz) rfl
      rw [←show rb=gbz from e] at hc'
      exact absurd (cells_kind hr8.out hc') (by decide)) _
     have hB9:=Lib.hid (hB8.out.trans hb9)
     have HT10:=Lib.hid hT9
     clear hT9 hb9 hgr8 hown8 hat8 hat9 e4 q8 r8 hroa hraa hba HVGa ba hc8a hc8b HT9 hr8 hB8 hsza
     generalize w8a.setCell ⟨gbz,3,none⟩ (.slice A8 (ks.length+1) c8)=w9 at *
     generalize Value.slice A8 (ks.length+1) c8=vna at *
     obtain⟨Ab,cb,hvvb,_,_⟩:=own_slice HT10.out.ri
     subst hvvb
     have pb:=own_cell1 HT10.out.row (i:=4) rfl
     have bb:=pb.1
     have HVGb:Hid ((Value.slice Ab is.length cb).ownBlock≠some gbz):=fun e=>by
      obtain⟨C,fz,hc⟩:=own_kind HT10.out.ri e
      obtain⟨C',fz',hc'⟩:=own_kind HT10.out.row (g:=gbz) rfl
      exact absurd (cells_kind hc hc') (by decide)
     have hbb:Hid (Below w9.heap.size w9 (w9.alloc (.cells #[.int .i64 (d2:Int)] 3))):=(Below.refl _ _).alloc (Nat.le_refl _) _
     have hrab:=(HT10.out.keep hbb.out).ri
     have hrob:=(HT10.out.keep hbb.out).row
     have hszb:rb≤w9.heap.size:=by have:=hr9.out.lt;omega
     clear pb
     go_upto_region 18 with(at_builtin;go_loud (refine wpList_apS rfl (.tmp 72) (.tmp 74) 41 rfl rb 3 _ 1 _ Tryz.underlying41 infoInt rfl (by decide) _ is.length (I64 is) rfl hrab ⟨w9.heap.size,0,none⟩ _ [.int .i64 (d2:Int)] rfl rfl (cells_new _ _ _) rfl (by unfold maxLen;omega) (by omega) (by simp;omega) ?_;intro v8 w8b hown8 hgr8 hat8;obtain⟨A8,c8,hv8,hc8a,hc8b⟩:=own_slice hown8;subst hv8;have e4:=hgr8.cell ((hbb.out.cell (block_lt_of_cell bb)).trans bb) (fun e=>HVGb.out e.symm);have r8:=own_same hrob (fun b hb=>hgr8.block b (hrob.lt b hb).2 (fun e=>by have:=Option.some.inj hb;subst this;exact HVGb.out e.symm));have q8:=(own_cell1 r8 (i:=4) rfl).2))
     have hat9:(Value.slice A8 (is.length+1) c8).ownBlock=(Value.slice Ab is.length cb).ownBlock∨(Value.slice A8 (is.length+1) c8).ownBlock=some (w9.alloc (.cells #[.int .i64 (d2:Int)] 3)).heap.size:=hat8
     obtain⟨hT9,hb9⟩:=HT10.out.push_i hszb hbb.out hgr8 hown8 hat9
     have hr10:Hid (Arr (w8b.setCell ⟨gbz,4,none⟩ (.slice A8 (is.length+1) c8)) rb 29 [.slice none 0 0,.int .i64 0]):=((hr9.out.keep hbb.out).grown hgr8 (fun e=>own_arr (own_below HT10.out.ri hbb.out) (hr9.out.keep hbb.out) (by decide) e.symm)).far (p:=⟨gbz,4,none⟩) (fun e=>by
      obtain⟨C',fz',hc'⟩:=own_kind HT10.out.row (g:=gbz) rfl
      rw [←show rb=gbz from e] at hc'
      exact absurd (cells_kind hr9.out hc') (by decide)) _
     have hB10:=Lib.hid (hB9.out.trans hb9)
     have HT11:=Lib.hid hT9
     clear hT9 hb9 hgr8 hown8 hat8 hat9 e4 q8 r8 hrob hrab hbb HVGb bb hc8a hc8b HT10 hr9 hB9 hszb
     generalize w8b.setCell ⟨gbz,4,none⟩ (.slice A8 (is.length+1) c8)=w10 at *
     generalize Value.slice A8 (is.length+1) c8=vnb at *
     have hT12:Hid (∃ncs vk vi,Tab w10 rb 10 false (.slice (some ⟨gbz,0,none⟩) d3 cbz) vk vi (mapT ((ps.take (i+1)).map prN)).ks (mapT ((ps.take (i+1)).map prN)).is (mapT ((ps.take (i+1)).map prN)).rest ncs):=by
      rw [hstep2.out]
      have h:=HT11.out
      rw [HD3.out] at h
      exact⟨_,_,_,h⟩
     clear HT11 hstep2
     go_wp2_with (fail)
     go_roundw
     case rel=>exact⟨i+1,by omega,i64e (by omega),hT12,hr10,hB10⟩
     case measure=>simp [intOf];omega
  ·have hi':(i:Int)<n:=by omega
   have i0:(0:Int)≤i:=by omega
   obtain⟨x,hx⟩:∃x,ps[i]? = some x:=⟨_,List.getElem?_eq_getElem (by have:=HN.out;omega)⟩
   have hokk:=HK.out x (List.mem_of_getElem? hx)
   have hokv:=HVV.out x (List.mem_of_getElem? hx)
   have HRr:=HR.out.below hBw.out hB
   obtain⟨ab,rfl,_,y0,y1,y2,y3,hGk,hGv⟩:=HRr i x hx
   obtain⟨xk,xv⟩:=x
   dsimp only at hokk hokv y0 y1 y2 y3 hGk hGv
   have hBx:Hid (Arr (wr.alloc (.cells #[.slice (some ⟨xk.g,xk.o,none⟩) xk.nodes.length xk.c,.int .i64 0,.slice (some ⟨xv.g,xv.o,none⟩) xv.nodes.length xv.c,.int .i64 0] 72)) wr.heap.size 72 [.slice (some ⟨xk.g,xk.o,none⟩) xk.nodes.length xk.c,.int .i64 0,.slice (some ⟨xv.g,xv.o,none⟩) xv.nodes.length xv.c,.int .i64 0]):=Arr.new wr _ _
   have hbx:Below wr.heap.size wr (wr.alloc (.cells #[.slice (some ⟨xk.g,xk.o,none⟩) xk.nodes.length xk.c,.int .i64 0,.slice (some ⟨xv.g,xv.o,none⟩) xv.nodes.length xv.c,.int .i64 0] 72)):=(Below.refl _ _).alloc (Nat.le_refl _) _
   go_upto_region 4 with(fail)
   clear y0 y1 y2 y3
   generalize wr.alloc (.cells #[.slice (some ⟨xk.g,xk.o,none⟩) xk.nodes.length xk.c,.int .i64 0,.slice (some ⟨xv.g,xv.o,none⟩) xv.nodes.length xv.c,.int .i64 0] 72)=w5 at *
   have hB5:=Lib.hid (hBw.out.trans (hbx.mono (by omega)))
   have hw5:LibE w5:=HW.out.keep (by rw [HRB.out];exact hB5.out)
   have DC:=Lib.hid (gcheck_any (c:=xk.c) hokk.arg.chk w5 hw5 (hGk.below hbx hGk.2.1))
   rw [hokk.arg.zero] at DC
   have DV:=Lib.hid (fun w6 (h:Below w5.heap.size w5 w6)=>gcheck_any (c:=xv.c) hokv.chk w6 (hw5.keep h) ((hGv.below hbx hGv.2.1).below h (by have:=hGv.2.1;have:=hbx.size;omega)))
   rw [hokv.zero] at DV
   have hb5:=Lib.hid (hBr.out.trans (hbx.mono hBr.out.size))
   have b0:=hBx.out.cell' (i:=0) rfl
   have b1:=hBx.out.cell' (i:=1) rfl
   clear hw5 hGk hGv HRr hBw hBr hx hokk hokv
   go_wp2_with (first | (go_at_call 40;((with_reducible refine DC.out.mono ?_));rintro e w6 ⟨rfl,hb6⟩;have hBx6:=hBx.out.keep hb6;have b2:=hBx6.cell' (i:=2) rfl;have b3:=hBx6.cell' (i:=3) rfl) | (go_at_call 40;((with_reducible refine(DV.out _ hb6).mono ?_));rintro e w7 ⟨rfl,hb7⟩))
   go_roundw
   case rel=>exact⟨i+1,by omega,i64e (by omega),(hb5.out.trans (hb6.mono hb5.out.size)).trans (hb7.mono (Nat.le_trans hb5.out.size hb6.size))⟩
   case measure=>simp [intOf];omega
end Go.Proofs.YtgbkbgiogdhnaaaGreatDoor
namespace Go.Proofs.YtgbkbgiogdhnaaaGreatDoor
open Go.RowKit
set_option maxRecDepth 20000 in
set_option maxHeartbeats 4000000 in
theorem scalar23_any (kind:Int) (text:List Nat) (h0:0≤kind) (h8:kind≤8) (hS:ScalC kind text true) (w:World) (hw:LibE w) :
  Calls Tryz.prog 8 #[.int .i64 kind,.string (mks text)] w (LeafR w kind text (fun g=>g)):=by
 have h1:Hid (Arr (w.alloc (.cells #[.slice none 0 0,.int .i64 0] 29)) w.heap.size 29 [.slice none 0 0,.int .i64 0]):=Arr.new w _ _
 have hB1:Hid (Below w.heap.size w (w.alloc (.cells #[.slice none 0 0,.int .i64 0] 29))):=(Below.refl _ _).alloc (Nat.le_refl _) _
 have DS:=Lib.hid (gscalar_any kind text h0 h8 hS (w.alloc (.cells #[.slice none 0 0,.int .i64 0] 29)) (hw.keep hB1.out))
 clear hw hS
 go_enter Tryz.func8,Tryz.ntmps8
 go_upto_region 1 with(fail)
 generalize w.alloc (.cells #[.slice none 0 0,.int .i64 0] 29)=W at *
 go_upto_region 2 with(go_at_call 23;((with_reducible refine DS.out.mono ?_));rintro e w1 ⟨nb,rfl,hnb,hb1,hN1⟩)
 obtain⟨rb,hrb⟩:∃b,w.heap.size=b:=⟨_,rfl⟩
 have HRB:=Lib.hid hrb
 have h2:=h1.out.keep hb1
 have hB2:=hB1.out.trans (hb1.mono hB1.out.size)
 have hS2:Hid (Arr (w1.alloc (.cells #[.slice (some ⟨nb,0,none⟩) 1 1,.int .i64 0] 29)) w1.heap.size 29 [.slice (some ⟨nb,0,none⟩) 1 1,.int .i64 0]):=Arr.new w1 _ _
 have hbn:Below w1.heap.size w1 (w1.alloc (.cells #[.slice (some ⟨nb,0,none⟩) 1 1,.int .i64 0] 29)):=(Below.refl _ _).alloc (Nat.le_refl _) _
 have hrl:=h2.lt
 have hnl:=hN1.out.lt
 have hWl:=h1.out.lt
 have h3:=Lib.hid (h2.keep hbn)
 have hN3:=Lib.hid (hN1.out.keep hbn)
 have hB3:=Lib.hid (hB2.trans (hbn.mono (Nat.le_of_lt hrl)))
 clear h1 hB1 h2 hB2 hbn hN1 hb1 DS
 rw [hrb] at h3 hB3 hrl hWl ⊢
 clear hrb
 generalize w1.alloc (.cells #[.slice (some ⟨nb,0,none⟩) 1 1,.int .i64 0] 29)=w2 at *
 generalize w1.heap.size=sb at *
 have c0:=hS2.out.cell' (i:=0) rfl
 have c1:=hS2.out.cell' (i:=1) rfl
 have d0:=h3.out.cell' (i:=0) rfl
 have d1:=h3.out.cell' (i:=1) rfl
 have f0:=h3.out.frozen 0
 have f1:=h3.out.frozen 1
 have h5:=Lib.hid ((h3.out.store 0 (.slice (some ⟨nb,0,none⟩) 1 1)).store 1 (.int .i64 0))
 have hN5:=Lib.hid ((hN3.out.far (p:=⟨rb,0,none⟩) (show nb≠rb by omega) (.slice (some ⟨nb,0,none⟩) 1 1)).far (p:=⟨rb,1,none⟩) (show nb≠rb by omega) (.int .i64 0))
 have hB5:=Lib.hid ((hB3.out.setCell (p:=⟨rb,0,none⟩) (Nat.le_refl _) (.slice (some ⟨nb,0,none⟩) 1 1)).setCell (p:=⟨rb,1,none⟩) (Nat.le_refl _) (.int .i64 0))
 clear hS2 h3 hN3 hB3
 go_wp2_with (fail)
 clear c0 c1 d0 d1 f0 f1
 have h6:Arr ((w2.setCell ⟨rb,0,none⟩ (.slice (some ⟨nb,0,none⟩) 1 1)).setCell ⟨rb,1,none⟩ (.int .i64 0)) rb 29 [.slice (some ⟨nb,0,none⟩) 1 1,.int .i64 0]:=h5.out
 have hsz:(Tryz.prog.info? 29).map (·.size)=some 2:=by kernel_rfl
 generalize (w2.setCell ⟨rb,0,none⟩ (.slice (some ⟨nb,0,none⟩) 1 1)).setCell ⟨rb,1,none⟩ (.int .i64 0)=w6 at *
 exact bodyPost_ret (v:=.agg #[.slice (some ⟨nb,0,none⟩) 1 1,.int .i64 0]) (results_cell_row Tryz.results8 _ _ _ _ #[.slice (some ⟨nb,0,none⟩) 1 1,.int .i64 0] (0,0) _ rfl h6 Tryz.underlying29 rfl hsz) rfl ⟨nb,rfl,by have:=HRB.out;omega,by rw [HRB.out];exact hB5.out,hN5⟩
end Go.Proofs.YtgbkbgiogdhnaaaGreatDoor
