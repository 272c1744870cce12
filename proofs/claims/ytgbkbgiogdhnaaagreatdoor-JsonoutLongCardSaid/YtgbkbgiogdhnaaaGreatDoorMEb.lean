/- The walk of graph's List. -/
import Derived.Test.YtgbkbgiogdhnaaaGreatDoorMEa
set_option linter.unusedVariables false
set_option linter.unusedSimpArgs false
set_option linter.defProp false
set_option linter.constructorNameAsVariable false
namespace Go.Proofs.YtgbkbgiogdhnaaaGreatDoor
open Go.RowKit
def GrR (w:World) (nodes:List GNode) (e:Ending) (w':World):Prop:=∃nb c,e=.returned (.tuple #[.agg #[.slice (some ⟨nb,0,none⟩) nodes.length c,.int .i64 0],.int .i64 0])∧w.heap.size≤nb∧Below w.heap.size w w'∧GRd w' w'.heap.size nb 0 nodes∧∀w'' b xs,Arr w' b 29 xs→w'.grownBy w'' (some b)→GRd w'' w''.heap.size nb 0 nodes
theorem listT_take {gs:List GArg} {i:Nat} {x:GArg} (h:gs[i]? = some x):listT ((gs.take (i+1)).map GArg.nodes)=addT (listT ((gs.take i).map GArg.nodes)) x.nodes:=by
 unfold listT
 rw [List.take_add_one,h]
 simp [List.foldl_append]
set_option maxRecDepth 20000 in
set_option maxHeartbeats 16000000 in
theorem list_any {B ab c:Nat} {gs:List GArg} (hA:∀x∈gs,ArgOK x.nodes) (hn:gs.length≤8) (hO:ArgOK (listN (gs.map GArg.nodes))) (hlen:∀i,i≤gs.length→(listT ((gs.take i).map GArg.nodes)).2.length≤4000∧(listT ((gs.take i).map GArg.nodes)).1.length≤4000) (w:World) (hw:LibE w) (hB:B≤w.heap.size) (hR:GsRd w B ab gs) :
  Calls Tryz.prog 24 #[.slice (some ⟨ab,0,none⟩) gs.length c] w (GrR w (listN (gs.map GArg.nodes))):=by
 have HA:=Lib.hid hA
 have HR:=Lib.hid hR
 have HW:=Lib.hid hw
 have HO:=Lib.hid hO
 have HL:=Lib.hid hlen
 have hr1:Hid (Arr (w.alloc (.cells #[.slice none 0 0,.int .i64 0] 29)) w.heap.size 29 [.slice none 0 0,.int .i64 0]):=Arr.new w _ _
 have hB1:Hid (Below w.heap.size w (w.alloc (.cells #[.slice none 0 0,.int .i64 0] 29))):=(Below.refl _ _).alloc (Nat.le_refl _) _
 clear hA hR hw hO hlen
 go_enter Tryz.func24,Tryz.ntmps24
 go_upto_region 1 with(fail)
 generalize w.alloc (.cells #[.slice none 0 0,.int .i64 0] 29)=w1 at *
 obtain⟨n,hn'⟩:∃n,gs.length=n:=⟨_,rfl⟩
 have HN:=Lib.hid hn'
 rw [hn'] at hn
 obtain⟨rb,hrb⟩:∃b,w.heap.size=b:=⟨_,rfl⟩
 have HRB:=Lib.hid hrb
 have hrl:=hr1.out.lt
 rw [hrb] at hr1 hB1 hrl hB ⊢
 try rw [hn']
 clear hn' hrb
 have hT2:Hid (Tab (w1.alloc (.cells #[.int .i64 9,.string ⟨#[]⟩,.bool false,.slice none 0 0,.slice none 0 0] 43)) rb 9 false (.slice (some ⟨w1.heap.size,0,none⟩) 1 1) (.slice none 0 0) (.slice none 0 0) [] [] [] []):=Tab.new w1 rb (by omega) 9 false
 have hb2:Below w1.heap.size w1 (w1.alloc (.cells #[.int .i64 9,.string ⟨#[]⟩,.bool false,.slice none 0 0,.slice none 0 0] 43)):=(Below.refl _ _).alloc (Nat.le_refl _) _
 have hr2:=Lib.hid (hr1.out.keep hb2)
 have hB2:=Lib.hid (hB1.out.trans (hb2.mono (by omega)))
 have hnb:rb≤w1.heap.size:=by omega
 have hs2:=hr2.out.lt
 go_upto_region 3 with(fail)
 generalize w1.alloc (.cells #[.int .i64 9,.string ⟨#[]⟩,.bool false,.slice none 0 0,.slice none 0 0] 43)=w2 at *
 generalize w1.heap.size=nb at *
 clear hr1 hB1 hb2
 -- the checks
 go_loopw [14] (fun v wr=>∃(i:Nat),i≤n∧v=.int .i64 (i:Int)∧Hid (Below w2.heap.size w2 wr)) (fun v _=>n - (intOf v).toNat)
 case atStart=>exact⟨0,Nat.zero_le _,rfl,Below.refl _ _⟩
 case round=>
  obtain⟨i,hi,rfl,hBr⟩:=hrel
  by_cases him:i=n
  ·have hi':¬(i:Int)<n:=by omega
   obtain⟨w3,hw3⟩:∃x:World,x=wr:=⟨_,rfl⟩
   subst hw3
   have hT3:=Lib.hid (hT2.out.keep hBr.out)
   have hr3:=Lib.hid (hr2.out.keep hBr.out)
   have hB3:=Lib.hid (hB2.out.trans (hBr.out.mono (by omega)))
   clear hT2 hr2 hB2 hBr him hi
   go_upto_region 9 with(fail)
   have h0:Hid (∃v ncs,Value.slice (some ⟨nb,0,none⟩) 1 1=v∧Hid (∃vi,Tab w3 rb 9 false v (.slice none 0 0) vi [] (listT ((gs.take 0).map GArg.nodes)).1 (listT ((gs.take 0).map GArg.nodes)).2 ncs)):=⟨_,[],rfl,_,hT3.out⟩
   go_loopw [4,25] (fun v iv wr=>∃(i:Nat),i≤n∧iv=.int .i64 (i:Int)∧Hid (∃ncs vi,Tab wr rb 9 false v (.slice none 0 0) vi [] (listT ((gs.take i).map GArg.nodes)).1 (listT ((gs.take i).map GArg.nodes)).2 ncs)∧Hid (Arr wr rb 29 [.slice none 0 0,.int .i64 0])∧Hid (Below rb w wr)) (fun _ iv _=>n - (intOf iv).toNat)
   case atStart=>exact⟨0,Nat.zero_le _,rfl,⟨[],_,hT3.out⟩,hr3,hB3⟩
   case round=>
    clear h0 hT3 hr3 hB3
    obtain⟨i,hi,rfl,hT,hr,hBr⟩:=hrel
    obtain⟨ncs,vi,hT'⟩:=hT.out
    have HT:=Lib.hid hT'
    clear hT hT'
    by_cases him:i=n
    ·have hi':¬(i:Int)<n:=by omega
     obtain rfl:i=n:=him
     have hall:(gs.take i).map GArg.nodes=gs.map GArg.nodes:=by rw [List.take_of_length_le (by have:=HN.out;omega)]
     rw [hall] at HT
     have HLN:Hid (listN (gs.map GArg.nodes)=⟨9,[],false,[],(listT (gs.map GArg.nodes)).1⟩ :: (listT (gs.map GArg.nodes)).2):=rfl
     obtain⟨NN,hNN⟩:∃a,listN (gs.map GArg.nodes)=a:=⟨_,rfl⟩
     rw [hNN] at HO HLN
     have HNN:=Lib.hid hNN
     generalize (listT (gs.map GArg.nodes)).1=is at *
     generalize (listT (gs.map GArg.nodes)).2=rest at *
     clear hall HL hNN
     obtain⟨gb,cb,hv,hGr⟩:=HT.out.grd
     rw [←HLN.out] at hGr
     obtain⟨d,hd⟩:∃d,1+rest.length=d:=⟨_,rfl⟩
     have hdl:NN.length=d:=by rw [HLN.out,List.length_cons];omega
     rw [hd] at hv
     subst hv
     have hwr:LibE wr:=HW.out.keep (by rw [HRB.out];exact hBr.out)
     have D:=Lib.hid (checked_ok (c:=cb) HO.out.chk HO.out.zero wr hwr hGr)
     rw [hdl] at D
     have HDL:=Lib.hid hdl
     have hrs:rb≤wr.heap.size:=by have:=hr.out.lt;omega
     clear hwr hGr hd hdl
     go_wp2_with (go_at_call 47;((with_reducible refine D.out.mono ?_));rintro e w5 ⟨rfl,hb5⟩;have hr5:=hr.out.keep hb5;have d0:=hr5.cell' (i:=0) rfl;have d1:=hr5.cell' (i:=1) rfl;have f0:=hr5.frozen 0;have f1:=hr5.frozen 1)
     have h6:=Lib.hid ((hr5.store 0 (.slice (some ⟨gb,0,none⟩) d cb)).store 1 (.int .i64 0))
     have hT5:=HT.out.keep hb5
     have hT6:=(hT5.other hr5 (by decide) (by decide) (grown_set w5 ⟨rb,0,none⟩ (.slice (some ⟨gb,0,none⟩) d cb))).other (hr5.store 0 (.slice (some ⟨gb,0,none⟩) d cb)) (by decide) (by decide) (grown_set _ ⟨rb,1,none⟩ (.int .i64 0))
     have hB6:=Lib.hid (((hBr.out.trans (hb5.mono hrs)).setCell (p:=⟨rb,0,none⟩) (Nat.le_refl _) (.slice (some ⟨gb,0,none⟩) d cb)).setCell (p:=⟨rb,1,none⟩) (Nat.le_refl _) (.int .i64 0))
     obtain⟨gb',cb',hv',hGr⟩:=hT6.grd
     injection hv' with e1 e2 e3
     injection e1 with e1
     injection e1 with e1
     subst e1
     rw [←HLN.out] at hGr
     have hgl:=(hT6.row.lt gb rfl).1
     have HT6:=Lib.hid hT6
     clear d0 d1 f0 f1 hr5 hT5 hT6 D e2 e3
     generalize (w5.setCell ⟨rb,0,none⟩ (.slice (some ⟨gb,0,none⟩) d cb)).setCell ⟨rb,1,none⟩ (.int .i64 0)=w6 at *
     have r0:=h6.out.cell' (i:=0) rfl
     have r1:=h6.out.cell' (i:=1) rfl
     refine bodyPost_ret (v:=.tuple #[.agg #[.slice (some ⟨gb,0,none⟩) d cb,.int .i64 0],.int .i64 0]) (by simp [results,Tryz.results24,go_sem,r0,r1]) rfl ?_
     unfold GrR
     rw [HNN.out,HDL.out]
     exact⟨gb,cb,rfl,by have:=HRB.out;omega,by rw [HRB.out];exact hB6.out,hGr,fun w'' b xs hA hg=>by
      obtain⟨gb2,cb2,hv2,hGr2⟩:=(HT6.out.other hA (by decide) (by decide) hg).grd
      injection hv2 with e1 e2 e3
      injection e1 with e1
      injection e1 with e1
      subst e1
      rw [HLN.out]
      exact hGr2⟩
    ·have hi':(i:Int)<n:=by omega
     have i0:(0:Int)≤i:=by omega
     obtain⟨x,hx⟩:∃x,gs[i]? = some x:=⟨_,List.getElem?_eq_getElem (by have:=HN.out;omega)⟩
     have hok:=HA.out x (List.mem_of_getElem? hx)
     have hstep:=Lib.hid (listT_take hx)
     obtain⟨hl1,hl2⟩:=HL.out i (by have:=HN.out;omega)
     have hrs:=hBr.out.size
     have HRr:=HR.out.below hBr.out hB
     obtain⟨y0,y1,hGx⟩:=HRr.2 i x hx
     have HGx:=Lib.hid hGx
     have hgw:rb≤wr.heap.size:=by have:=hr.out.lt;omega
     have hBx:Hid (Arr (wr.alloc (.cells #[.slice (some ⟨x.g,x.o,none⟩) x.nodes.length x.c,.int .i64 0] 29)) wr.heap.size 29 [.slice (some ⟨x.g,x.o,none⟩) x.nodes.length x.c,.int .i64 0]):=Arr.new wr _ _
     have hbx:Below wr.heap.size wr (wr.alloc (.cells #[.slice (some ⟨x.g,x.o,none⟩) x.nodes.length x.c,.int .i64 0] 29)):=(Below.refl _ _).alloc (Nat.le_refl _) _
     go_upto_region 12 with(fail)
     clear y0 y1
     generalize wr.alloc (.cells #[.slice (some ⟨x.g,x.o,none⟩) x.nodes.length x.c,.int .i64 0] 29)=w5 at *
     have HT5:=Lib.hid (HT.out.keep hbx)
     have hr5:=Lib.hid (hr.out.keep hbx)
     have hB5:=Lib.hid (hBr.out.trans (hbx.mono hgw))
     have HG5:=Lib.hid ((HGx.out.below hbx HGx.out.2.1).up hB (by have:=hbx.size;omega))
     obtain⟨is,his⟩:∃a,(listT ((gs.take i).map GArg.nodes)).1=a:=⟨_,rfl⟩
     obtain⟨rest,hrest⟩:∃a,(listT ((gs.take i).map GArg.nodes)).2=a:=⟨_,rfl⟩
     rw [his,hrest] at HT5
     rw [his] at hl2
     rw [hrest] at hl1
     have hpair:listT ((gs.take i).map GArg.nodes)=(is,rest):=Prod.ext his hrest
     rw [hpair] at hstep
     clear his hrest hpair HT hr hBr hGx HGx HRr
     have b0:=hBx.out.cell' (i:=0) rfl
     have b1:=hBx.out.cell' (i:=1) rfl
     obtain⟨gb,cb,hv,_,_⟩:=own_some HT5.out.row (by omega)
     subst hv
     obtain⟨d,hd⟩:∃d,1+rest.length=d:=⟨_,rfl⟩
     have hrow5:=HT5.out.row
     rw [hd] at hrow5 ⊢
     have D:=Lib.hid (appended_zero (c:=x.c) hok (n0:=d) (by omega) w5 HG5.out hrow5)
     obtain⟨more,hmore⟩:∃a,x.nodes.map (shiftN d)=a:=⟨_,rfl⟩
     have hmol:more.length≤4096:=by rw [←hmore,List.length_map];exact hok.chk.n1
     unfold App0 at D
     rw [hmore] at D
     have hstep2:Hid (listT ((gs.take (i+1)).map GArg.nodes)=(is ++ [(d:Int)],rest ++ more)):=by
      show _=_
      rw [hstep.out];unfold addT
      simp only [hd,hmore]
     have HD:=Lib.hid hd
     clear hmore hstep hd hrow5
     go_upto_region 13 with(go_at_call 46;((with_reducible refine D.out.mono ?_));rintro e w6 ⟨v',ncs',rfl,hrow6,hrd6,hg6⟩)
     have HT6:Hid (Tab w6 rb 9 false v' (.slice none 0 0) vi [] is (rest ++ more) (ncs ++ ncs')):=HT5.out.app (by have:=hbx.size;omega) (by rw [HD.out];exact hrow6) hrd6 hg6
     have hr6:=Lib.hid (hr5.out.grown hg6 (fun e=>own_arr HT5.out.row hr5.out (by decide) e.symm))
     have hB6:=Lib.hid (hB5.out.trans (below_of_grown hg6 (by have:=hbx.size;omega) (fun k e=>(HT5.out.row.lt k e).1)))
     have hs6:rb≤w6.heap.size:=by have:=hbx.size;have:=hg6.size;omega
     clear b0 b1 D hrow6 hrd6 hg6 HT5 hr5 hB5 HG5 hBx hbx
     obtain⟨gb6,cb6,hv6,_,_⟩:=own_some HT6.out.row (by omega)
     obtain⟨d6,hd6⟩:∃d,1+(rest ++ more).length=d:=⟨_,rfl⟩
     have HD6:=Lib.hid hd6
     have hd6p:(0:Int)<d6:=by omega
     rw [hd6] at hv6
     subst hv6
     obtain⟨Ai,ci,hvi,_,_⟩:=own_slice HT6.out.ri
     subst hvi
     have HT7:Hid (Tab w6 rb 9 false (.slice (some ⟨gb6,0,none⟩) (1+(rest ++ more).length) cb6) (.slice none 0 0) (.slice Ai is.length ci) [] is (rest ++ more) (ncs ++ ncs')):=by rw [HD6.out];exact HT6.out
     have p4:=own_cell1 HT7.out.row (i:=4) rfl
     have b4:=p4.1
     have HVG:Hid ((Value.slice Ai is.length ci).ownBlock≠some gb6):=fun e=>by
      obtain⟨C,fz,hc⟩:=own_kind HT7.out.ri e
      obtain⟨C',fz',hc'⟩:=own_kind HT7.out.row (g:=gb6) rfl
      exact absurd (cells_kind hc hc') (by decide)
     have hb6:Hid (Below w6.heap.size w6 (w6.alloc (.cells #[.int .i64 (d:Int)] 3))):=(Below.refl _ _).alloc (Nat.le_refl _) _
     have hr6a:=(HT7.out.keep hb6.out).ri
     have hrow7a:=(HT7.out.keep hb6.out).row
     clear hd6 p4
     go_upto_region 14 with(at_builtin;go_loud (refine wpList_apS rfl (.tmp 39) (.tmp 41) 41 rfl rb 3 _ 1 _ Tryz.underlying41 infoInt rfl (by decide) _ is.length (I64 is) rfl hr6a ⟨w6.heap.size,0,none⟩ _ [.int .i64 (d:Int)] rfl rfl (cells_new _ _ _) rfl (by unfold maxLen;omega) (by omega) (by simp;omega) ?_;intro v8 w8 hown8 hgr8 hat8;obtain⟨A8,c8,hv8,hc8a,hc8b⟩:=own_slice hown8;subst hv8;have e4:=hgr8.cell ((hb6.out.cell (block_lt_of_cell b4)).trans b4) (fun e=>HVG.out e.symm);have r8:=own_same hrow7a (fun b hb=>hgr8.block b (hrow7a.lt b hb).2 (fun e=>by have:=Option.some.inj hb;subst this;exact HVG.out e.symm));have q8:=(own_cell1 r8 (i:=4) rfl).2))
     have hat9:(Value.slice A8 (is.length+1) c8).ownBlock=(Value.slice Ai is.length ci).ownBlock∨(Value.slice A8 (is.length+1) c8).ownBlock=some (w6.alloc (.cells #[.int .i64 (d:Int)] 3)).heap.size:=hat8
     obtain⟨hT9,hb9⟩:=HT7.out.push_i hs6 hb6.out hgr8 hown8 hat9
     have hr9:Hid (Arr (w8.setCell ⟨gb6,4,none⟩ (.slice A8 (is.length+1) c8)) rb 29 [.slice none 0 0,.int .i64 0]):=((hr6.out.keep hb6.out).grown hgr8 (fun e=>own_arr (own_below HT7.out.ri hb6.out) (hr6.out.keep hb6.out) (by decide) e.symm)).far (p:=⟨gb6,4,none⟩) (fun e=>by
      obtain⟨C',fz',hc'⟩:=own_kind HT7.out.row (g:=gb6) rfl
      rw [←show rb=gb6 from e] at hc'
      exact absurd (cells_kind hr6.out hc') (by decide)) _
     have hB9:=Lib.hid (hB6.out.trans hb9)
     have hT10:Hid (∃ncs vi,Tab (w8.setCell ⟨gb6,4,none⟩ (.slice A8 (is.length+1) c8)) rb 9 false (.slice (some ⟨gb6,0,none⟩) d6 cb6) (.slice none 0 0) vi [] (listT ((gs.take (i+1)).map GArg.nodes)).1 (listT ((gs.take (i+1)).map GArg.nodes)).2 ncs):=by
      rw [hstep2.out]
      have h:=hT9
      rw [HD6.out] at h
      exact⟨_,_,h⟩
     clear hT9 hb9 hgr8 hown8 hat8 hat9 e4 q8 r8 hrow7a hr6a hb6 HVG HT7 HT6 hr6 hB6 b4 hc8a hc8b
     go_wp2_with (fail)
     go_roundw
     case rel=>exact⟨i+1,by omega,i64e (by omega),hT10,hr9,hB9⟩
     case measure=>simp [intOf];omega
  ·have hi':(i:Int)<n:=by omega
   have i0:(0:Int)≤i:=by omega
   obtain⟨x,hx⟩:∃x,gs[i]? = some x:=⟨_,List.getElem?_eq_getElem (by have:=HN.out;omega)⟩
   have hok:=HA.out x (List.mem_of_getElem? hx)
   have hBw:=Lib.hid (hB2.out.trans (hBr.out.mono (by omega)))
   have hbws:=hBr.out.size
   have HRr:=HR.out.below hBw.out hB
   obtain⟨y0,y1,hGx⟩:=HRr.2 i x hx
   have hBx:Hid (Arr (wr.alloc (.cells #[.slice (some ⟨x.g,x.o,none⟩) x.nodes.length x.c,.int .i64 0] 29)) wr.heap.size 29 [.slice (some ⟨x.g,x.o,none⟩) x.nodes.length x.c,.int .i64 0]):=Arr.new wr _ _
   have hbx:Below wr.heap.size wr (wr.alloc (.cells #[.slice (some ⟨x.g,x.o,none⟩) x.nodes.length x.c,.int .i64 0] 29)):=(Below.refl _ _).alloc (Nat.le_refl _) _
   go_upto_region 5 with(fail)
   clear y0 y1
   generalize wr.alloc (.cells #[.slice (some ⟨x.g,x.o,none⟩) x.nodes.length x.c,.int .i64 0] 29)=w5 at *
   have hB5:=Lib.hid (hBw.out.trans (hbx.mono (by omega)))
   have hw5:LibE w5:=HW.out.keep (by rw [HRB.out];exact hB5.out)
   have DC:=Lib.hid (gcheck_any (c:=x.c) hok.chk w5 hw5 (hGx.below hbx hGx.2.1))
   rw [hok.zero] at DC
   have hb5:=Lib.hid (hBr.out.trans (hbx.mono hBr.out.size))
   have b0:=hBx.out.cell' (i:=0) rfl
   have b1:=hBx.out.cell' (i:=1) rfl
   clear hw5 hGx HRr hBw hBr hbx hx hok
   go_wp2_with (go_at_call 40;((with_reducible refine DC.out.mono ?_));rintro e w6 ⟨rfl,hb6⟩)
   go_roundw
   case rel=>exact⟨i+1,by omega,i64e (by omega),hb5.out.trans (hb6.mono hb5.out.size)⟩
   case measure=>simp [intOf];omega
end Go.Proofs.YtgbkbgiogdhnaaaGreatDoor
