/- The walk of the table's write, at leaves, lists and maps. -/
import Derived.Test.YtnnnagnjikdnnaaGreatDoorMBe
import Derived.Test.YtnnnagnjikdnnaaGreatDoorMBd
set_option linter.unusedVariables false
set_option linter.unusedSimpArgs false
set_option linter.defProp false
set_option linter.constructorNameAsVariable false
namespace Go.Proofs.YtnnnagnjikdnnaaGreatDoor
open Go.RowKit
theorem WFr.below {b sb:Nat} {w w':World} (hb:Below w.heap.size w w'):WFr b sb w w':=⟨hb.size,fun q C t fz hq _ _ _=>(hb.block q (Array.getElem?_eq_some_iff.1 hq).1).trans hq⟩
theorem step_wt {wv:Int→List Bool×List Nat→Option (List Bool×List Nat)} {nd:GNode} {q:Int} {st st2:Nat×List Bool×List Nat} (h:stepWT wv nd q st=some st2) :
  st.2.2.length≤60000∧∃r,aheadT wv nd q st=some r∧∃r2,wv (nd.items.getD q.toNat 0) r=some r2∧st2=(st.1+1,r2.1,r2.2):=by
 unfold stepWT at h
 split at h
 ·rename_i hl
  refine⟨hl,?_⟩
  split at h
  ·cases h
  ·rename_i r hr
   split at h
   ·cases h
   ·rename_i r2 hr2
    exact⟨r,hr,r2,hr2,(Option.some.inj h).symm⟩
 ·cases h
def commaT (i:Nat) (out:List Nat):List Nat:=if i=0 then out else out ++ [44]
theorem ahead_list {wv:Int→List Bool×List Nat→Option (List Bool×List Nat)} {nd:GNode} {q:Int} {st:Nat×List Bool×List Nat} {r:List Bool×List Nat} (h10:nd.kind=9) (h:aheadT wv nd q st=some r):r=(st.2.1,commaT st.1 st.2.2):=by
 unfold aheadT at h
 rw [if_neg (by omega)] at h
 exact(Option.some.inj h).symm
theorem ahead_map {wv:Int→List Bool×List Nat→Option (List Bool×List Nat)} {nd:GNode} {q:Int} {st:Nat×List Bool×List Nat} {r:List Bool×List Nat} (h10:nd.kind=10) (h:aheadT wv nd q st=some r) :
  ∃r1,wv (nd.keys.getD q.toNat 0) (st.2.1,commaT st.1 st.2.2)=some r1∧r1.2.length≤60000∧r=(r1.1,r1.2 ++ [61]):=by
 unfold aheadT at h
 rw [if_pos h10] at h
 split at h
 ·cases h
 ·rename_i r1 h1
  split at h
  ·rename_i hl
   exact⟨r1,h1,hl,(Option.some.inj h).symm⟩
  ·cases h
structure WAt (z b sb tb g o c n B:Nat) (root:Int) (nodes:List GNode) (w0 w2 wr:World) (mk:List Bool) (out:List Nat) (es:List Value):Prop where
 bl:BldF z b (B8 out) wr
 sr:Arr wr sb 28 es
 mm:MemW n mk es
 bw:Below z w0 wr
 wf:WFr b sb w0 wr
 vf:WFr b sb w2 wr
section
variable {z b sb tb g o c n B:Nat} {root:Int} {nodes:List GNode} {w0 w2 wr w':World} {mk:List Bool} {out out':List Nat} {es:List Value}
theorem WAt.byte {x:Int} (h:WAt z b sb tb g o c n B root nodes w0 w2 wr mk out es) (hbl:BldU z b (B8 out ++ [.int .u8 x]) w') (hb:Below z wr w') (ho:Others b wr w') (hsb:sb≠b) (he:B8 out'=B8 out ++ [.int .u8 x]):WAt z b sb tb g o c n B root nodes w0 w2 w' mk out' es:=
 ⟨by rw [he];exact .inr hbl,ho sb _ h.sr (fun e=>hsb (Option.some.inj e)) (fun c fz e=>by injection e with _ e2 _;exact absurd e2 (by decide)),h.mm,h.bw.trans hb,h.wf.trans (WFr.bld ho hb),h.vf.trans (WFr.bld ho hb)⟩
theorem WAt.wrote {s':List Bool×List Nat} {e:Ending} (h:WAt z b sb tb g o c n B root nodes w0 w2 wr mk out es) (hw:WrR wr z b sb n s' e w'):∃es',WAt z b sb tb g o c n B root nodes w0 w2 w' s'.1 s'.2 es':=by
 obtain⟨_,h1,h2,h3,es',h4,h5⟩:=hw
 exact⟨es',h3.out,h4.out,h5.out,h.bw.trans h1,h.wf.trans h2,h.vf.trans h2⟩
end
set_option maxRecDepth 20000 in
set_option maxHeartbeats 32000000 in
theorem cwriteT_any {B g o c tb sb b n z:Nat} {nodes:List GNode} {root:Int} (hI:Idx nodes) (hL:NL 65536 nodes) (hBy:∀k,By (ndAt nodes k).text) (hE:∀k,k<nodes.length→(ndAt nodes k).kind=10→(ndAt nodes k).ord=false→EntOK nodes (ndAt nodes k)) (hn4:n≤4096) (hn:nodes.length=n) (hBz:B≤z) (hzs:z≤sb) (hts:tb≠b) (hsb:sb≠b) (f:Nat):∀(k:Nat) (s s':List Bool×List Nat) (es:List Value) (w:World),writeT nodes f (k:Int) s=some s'→GRd w B g o nodes→TabN w tb sb g o c n root es→MemW n s.1 es→BldF z b (B8 s.2) w→z≤w.heap.size →
  Calls Tryz.prog 64 #[.pointer (some ⟨tb,0,none⟩),.pointer (some ⟨b,0,none⟩),.int .i64 (k:Int)] w (WrR w z b sb n s'):=by
 induction f with
 | zero=>intro k s s' es w h;cases h
 | succ f ih=>
  intro k s s' es w h hG hT hM hB hzw
  rw [writeT] at h
  split at h
  ·rename_i hin
   obtain⟨hsl,_,hkx,hlen⟩:=hin
   have hkn:k<n:=by omega
   have hkn':(k:Int)<n:=by omega
   have hk0:(0:Int)≤k:=by omega
   rw [Int.toNat_natCast] at h
   have ht:=hT.tab.cell' (i:=0) rfl
   obtain⟨K,ckk,I,ci,d0,d1,d2,d3,d4,_,hI1,hI2⟩:=hG.of_at (show k<nodes.length by omega)
   have hby:=hBy k
   have hBw:=hG.2.1
   generalize hnd:ndAt nodes k=nd at *
   split at h
   ·rename_i hk2
    obtain⟨⟨hk00,hk5⟩,htl⟩:=hk2
    obtain rfl:=Option.some.inj h
    have D:=Lib.hid (cleaf_all hk00 hk5 hby (by omega) w d0 d1)
    have hq:(leafT nd).length≤10000:=by
     unfold leafT
     have:=cquo_len nd.text
     split
     ·decide
     ·split <;> omega
    have HQ:Hid (∀w2,Below w.heap.size w w2→BldF z b (B8 s.2) w2∧z≤w2.heap.size):=fun w2 hb=>⟨bld_below hB hb,Nat.le_trans hzw hb.size⟩
    have hq2:(B8 s.2).length+(mks (leafT nd)).size≤140737488355328:=by rw [length_B8,size_mks];omega
    have HQ2:=Lib.hid hq2
    have HS:=Lib.hid (strB8 (leafT_by hby))
    have HT:=Lib.hid hT.srt
    have HM:=Lib.hid hM
    obtain⟨kd,hkd⟩:∃kd,nd.kind=kd:=⟨_,rfl⟩
    rw [hkd] at d0 hk00 hk5
    have l9:kd<9:=by omega
    have m11:(kd == 11)=false:=by simp;omega
    clear hT hM hB hG hq hq2 hkd hby hnd hk00 hk5 d2 d3 d4 hI1 hI2
    go_enter Tryz.func64,Tryz.ntmps64
    go_wp2_with (first | (go_at_call 97;((with_reducible refine D.out.mono ?_));rintro e w2 ⟨rfl,hb2⟩;have HB2:=Lib.hid hb2;have D2:=Lib.hid (kb_string z b (B8 s.2) (mks (leafT nd)) w2 (HQ.out _ hb2).1 HQ2.out (HQ.out _ hb2).2);clear hb2) | (go_at_call 17;((with_reducible refine D2.out.mono ?_));rintro e w3 ⟨rfl,hbl3,hb3,ho3⟩))
    go_end0
    refine⟨rfl,(HB2.out.mono hzw).trans hb3,(WFr.below HB2.out).trans (WFr.bld ho3 hb3),?_,es,ho3 sb _ (HT.out.keep HB2.out) (fun e=>hsb (Option.some.inj e)) (fun c fz e=>by injection e with _ e2 _;exact absurd e2 (by decide)),HM.out⟩
    have h:=hbl3
    rw [HS.out,←B8_app] at h
    exact .inr h
   ·rename_i hk2
    split at h
    ·rename_i hk9
     obtain⟨hk9,hmk⟩:=hk9
     split at h
     ·cases h
     ·rename_i st hrun
      split at h
      ·rename_i hst
       obtain rfl:=Option.some.inj h
       have hes:=hM.2 k hkn hmk
       have HG:=Lib.hid hG
       have HT:=Lib.hid hT
       have HM:=Lib.hid hM
       have HB:=Lib.hid hB
       have HND:=Lib.hid hnd
       have HRUN:=Lib.hid hrun
       have HES:=Lib.hid hes
       have HST:=Lib.hid hst
       have HK9:=Lib.hid hk9
       have HSL:=Lib.hid hsl
       obtain⟨ni,hni⟩:∃ni,nd.items.length=ni:=⟨_,rfl⟩
       have HNI:=Lib.hid hni
       have hkd:(nd.kind=9∧endsT nd=(91,93))∨(nd.kind=10∧nd.ord=false∧endsT nd=(123,125)):=by
        unfold endsT
        rcases hk9 with h9 | ⟨h10,ho,_⟩
        ·exact .inl ⟨h9,by rw [h9];rfl⟩
        ·exact .inr ⟨h10,ho,by rw [h10];rfl⟩
       have e91:(mks [91,93]).toList = [91,93]:=by simp [toList_mks]
       have e123:(mks [123,125]).toList = [123,125]:=by simp [toList_mks]
       have hlx:(B8 s.2).length+1≤140737488355328:=by rw [length_B8];omega
       have HLX:=Lib.hid hlx
       clear h hrun hG hT hM hB hI1 hI2 hnd hes hni hst hk9 hby hk2 hmk hlx hsl d1 d3 d4
       rcases hkd with⟨h9,hee⟩ | ⟨h9,ho,hee⟩
       ·rw [h9] at d0
        have HK:=Lib.hid h9
        rw [hee] at HRUN ⊢
        have D1:=Lib.hid (kb_byte z b (B8 s.2) 91 w HB.out HLX.out hzw)
        clear h9 hee
        go_enter Tryz.func64,Tryz.ntmps64
        go_upto_region 13 with(go_at_call 16;(refine D1.out.mono ?_);rintro e w1 ⟨rfl,hbl1,hb1,ho1⟩)
        have hw1:=WFr.bld ho1 hb1 (sb:=sb)
        have hG1:=Lib.hid (HG.out.below hb1 hBz)
        have hT1:Hid (TabN w1 tb sb g o c n root es):=⟨ho1 tb _ HT.out.tab (fun e=>hts (Option.some.inj e)) (fun c fz e=>by injection e with _ e2 _;exact absurd e2 (by decide)),ho1 sb _ HT.out.srt (fun e=>hsb (Option.some.inj e)) (fun c fz e=>by injection e with _ e2 _;exact absurd e2 (by decide))⟩
        have D2:=Lib.hid (centriesA_any (c:=c) (B:=B) hL (show k<nodes.length by omega) (hE k (by omega)) w1 hG1.out (by rw [hn];exact hT1.out) HES.out (by omega))
        have hs1:=hb1.size
        have hblt:b<w1.heap.size:=(Array.getElem?_eq_some_iff.1 hbl1.2.choose_spec.1).1
        go_upto_region 14 with(go_at_call 59;((with_reducible refine D2.out.mono ?_));rintro e w2 ⟨ob,rfl,hob,hobl,hg2,hsr2,hA2⟩;rw [HND.out,HNI.out])
        have hU2:=bldU_row hbl1 hg2.out hT1.out.srt hsb
        rw [HND.out,HNI.out] at hsr2
        have hbA:BldF z b (B8 (s.2 ++ [91])) w2:=by rw [B8_app];exact .inr hU2
        have hM2:MemW n (s.1.set k true) (es.set k (.slice (some ⟨ob,0,none⟩) ni ni)):=by
         refine⟨by rw [List.length_set];exact HM.out.1,fun j hj hm=>?_⟩
         have hjk:k≠j:=by
          rintro rfl
          rw [List.getD_eq_getElem?_getD,List.getElem?_set_self (by have:=HSL.out;omega)] at hm
          cases hm
         rw [List.getElem?_set_ne hjk]
         rw [List.getD_eq_getElem?_getD,List.getElem?_set_ne hjk,←List.getD_eq_getElem?_getD] at hm
         exact HM.out.2 j hj hm
        have hW0:Hid (WAt z b sb tb g o c n B root nodes w w2 w2 (s.1.set k true) (s.2 ++ [91]) (es.set k (.slice (some ⟨ob,0,none⟩) ni ni))):=⟨hbA,hsr2.out,hM2,below_row hb1 hg2.out (by omega) hzs,hw1.trans (WFr.row hg2.out),WFr.refl _ _ _⟩
        have htb2:Hid (Arr w2 tb 145 [.slice (some ⟨g,o,none⟩) n c,.int .i64 root,.slice (some ⟨sb,0,none⟩) n n]):=(WFr.row hg2.out).arr (b:=b) hT1.out.tab hts (Arr.ne hT1.out.tab hT1.out.srt (by decide)) (by decide)
        have hne:=Lib.hid (Arr.ne hT1.out.tab hT1.out.srt (by decide))
        have hni6:ni≤65536:=by
         have:=(hL k (by omega)).2
         rw [HND.out,HNI.out] at this
         exact this
        have lob:ob≠b∧ob≠sb:=by have:=hT1.out.srt.lt;omega
        have hr0:Hid (runG (stepWT (writeT nodes f) nd) ((entV nodes k).drop 0) (0,s.1.set k true,s.2 ++ [91])=some st):=by show _=_;rw [List.drop_zero];exact HRUN.out
        have hEV:=Lib.hid (entV_in nodes k)
        have hEL:Hid ((entV nodes k).length=ni):=by show _=_;rw [entV_len,HND.out,HNI.out]
        rw [HND.out,HNI.out] at hEV
        clear hU2 hbA hg2 hbl1 hb1 ho1 hw1 hG1 hT1 D1 D2 hM2 hsr2 d0 d2 ht
        go_loopw [69] (fun v wr=>∃(i:Nat) (mk:List Bool) (out:List Nat) (es':List Value),i≤ni∧v=.int .i64 (i:Int)∧Hid (runG (stepWT (writeT nodes f) nd) ((entV nodes k).drop i) (i,mk,out)=some st)∧Hid (WAt z b sb tb g o c n B root nodes w w2 wr mk out es')) (fun v _=>ni - (intOf v).toNat)
        case atStart=>exact⟨0,_,_,_,Nat.zero_le _,rfl,hr0,hW0⟩
        case round=>
         obtain⟨i,mk,out,es',hi,rfl,hr,hWr⟩:=hrel
         clear hr0 hW0
         have hr':=hr.out
         have hoB:=hWr.out.vf.arr hA2.out lob.1 lob.2 (by decide)
         have htr:=hWr.out.vf.arr htb2.out hts hne.out (by decide)
         have hGr:=HG.out.below hWr.out.bw hBz
         have hzr:z≤wr.heap.size:=Nat.le_trans hzw hWr.out.bw.size
         obtain⟨Kr,ckr,Ir,cir,g0,_,_,g3,g4,⟨rK,_⟩,⟨rI,_⟩⟩:=hGr.of_at (show k<nodes.length by omega)
         rw [HND.out] at g0 g3 g4 rK rI
         rw [HK.out] at g0
         rw [HNI.out] at g4
         by_cases hin:i<ni
         ·have hin':(i:Int)<ni:=by omega
          have hi0:(0:Int)≤i:=by omega
          obtain⟨q,hq,hqn⟩:=InR_get hEV.out (k:=i) (by have:=hEL.out;omega)
          have cq:=hoB.cell' (I64_get hq)
          have q0:(0:Int)≤q:=by omega
          have q1:(q:Int)<ni:=by omega
          obtain⟨y,hy⟩:∃y,nd.items[q]? = some y:=⟨_,List.getElem?_eq_getElem (by have:=HNI.out;omega)⟩
          obtain⟨adI,rfl,cy⟩:=rI.at_ (I64_get hy)
          have hidx:=hI k (by omega)
          rw [HND.out] at hidx
          obtain⟨hy0,hy1⟩:=hidx y (by unfold refs;exact List.mem_append.2 (.inr (List.mem_of_getElem? hy)))
          obtain⟨ky,rfl⟩:∃ky:Nat,y=(ky:Int):=⟨y.toNat,by omega⟩
          have HHY:=Lib.hid hy
          rw [drop_cons_at hq,runG] at hr'
          split at hr'
          ·cases hr'
          ·rename_i st2 hst2
           obtain⟨hol,r,hr1,r2,hwv,rfl⟩:=step_wt hst2
           rw [getD_at hy] at hwv
           have hol:out.length≤60000:=hol
           obtain rfl:=ahead_list HK.out hr1
           dsimp only at hwv
           have hr2:=Lib.hid hr'
           by_cases hi00:i=0
           ·subst hi00
            have D:=Lib.hid (ih ky (mk,out) r2 es' wr (by first | exact hwv | simpa [commaT] using hwv) hGr ⟨htr,hWr.out.sr⟩ hWr.out.mm hWr.out.bl hzr)
            have HWW:=hWr
            clear hGr htr hwv rK rI hr hr' hoB hst2 hr1 hy hidx
            go_wp2_with (go_at_call 64;((with_reducible refine D.out.mono ?_));rintro e w7 hw7;have he:=hw7.1;subst he;obtain⟨es7,hW7⟩:=HWW.out.wrote hw7;have HW7:=Lib.hid hW7;clear hw7 hW7)
            go_roundw
            case rel=>exact⟨1,r2.1,r2.2,es7,by omega,rfl,hr2,HW7⟩
            case measure=>simp [intOf];omega
           ·have hip:(0:Int)<i:=by omega
            have D0:=Lib.hid (kb_byte z b (B8 out) 44 wr hWr.out.bl (by rw [length_B8];omega) hzr)
            have hce:B8 (commaT i out)=B8 out ++ [.int .u8 44]:=by unfold commaT;rw [if_neg hi00,B8_app];rfl
            have HCE:=Lib.hid hce
            have HTR:=Lib.hid htr
            clear hr hr' hoB htr hGr hy hidx hce hst2 hr1 rK rI
            go_upto_region 18 with(go_at_call 16;(refine D0.out.mono ?_);rintro e w5 ⟨rfl,hbl5,hb5,ho5⟩)
            have hW5:=Lib.hid (hWr.out.byte hbl5 hb5 ho5 hsb HCE.out)
            have hz5:=Nat.le_trans hzr hb5.size
            clear hbl5 hb5 ho5 hWr g0 g3 g4 cy cq HTR D0
            have hG5:=HG.out.below hW5.out.bw hBz
            have htr5:=hW5.out.vf.arr htb2.out hts hne.out (by decide)
            obtain⟨K5,ck5,I5,ci5,g0,_,_,g3,g4,⟨rK,_⟩,⟨rI,_⟩⟩:=hG5.of_at (show k<nodes.length by omega)
            rw [HND.out] at g0 g3 g4 rK rI
            rw [HK.out] at g0
            rw [HNI.out] at g4
            obtain⟨adI5,rfl,cy⟩:=rI.at_ (I64_get HHY.out)
            have D:=Lib.hid (ih ky (mk,(commaT i out)) r2 es' w5 (by first | exact hwv | simpa [commaT] using hwv) hG5 ⟨htr5,hW5.out.sr⟩ hW5.out.mm hW5.out.bl hz5)
            have HWW:=hW5
            clear hG5 htr5 hwv rK rI
            go_wp2_with (go_at_call 64;((with_reducible refine D.out.mono ?_));rintro e w7 hw7;have he:=hw7.1;subst he;obtain⟨es7,hW7⟩:=HWW.out.wrote hw7;have HW7:=Lib.hid hW7;clear hw7 hW7)
            go_roundw
            case rel=>exact⟨i+1,r2.1,r2.2,es7,by omega,i64e (by omega),hr2,HW7⟩
            case measure=>simp [intOf];omega
         ·obtain rfl:ni=i:=by omega
          have hin':¬(ni:Int)<ni:=by omega
          rw [List.drop_of_length_le (by have:=hEL.out;omega),runG] at hr'
          obtain rfl:=Option.some.inj hr'
          have D3:=Lib.hid (kb_byte z b (B8 out) 93 wr hWr.out.bl (by rw [length_B8];have:out.length≤60000:=HST.out;omega) hzr)
          clear hr hr' hoB htr hGr rK rI g0 g3 g4
          go_wp2_with (go_at_call 16;(refine D3.out.mono ?_);rintro e w5 ⟨rfl,hbl5,hb5,ho5⟩)
          go_end0
          have hW5:WAt z b sb tb g o c n B root nodes w w2 w5 mk (out ++ [93]) es':=hWr.out.byte hbl5 hb5 ho5 hsb (by rw [B8_app];rfl)
          exact⟨rfl,hW5.bw,hW5.wf,hW5.bl,es',hW5.sr,hW5.mm⟩
       ·rw [h9] at d0
        have HK:=Lib.hid h9
        rw [ho] at d2
        rw [hee] at HRUN ⊢
        have D1:=Lib.hid (kb_byte z b (B8 s.2) 123 w HB.out HLX.out hzw)
        clear h9 hee
        go_enter Tryz.func64,Tryz.ntmps64
        go_upto_region 13 with(go_at_call 16;(refine D1.out.mono ?_);rintro e w1 ⟨rfl,hbl1,hb1,ho1⟩)
        have hw1:=WFr.bld ho1 hb1 (sb:=sb)
        have hG1:=Lib.hid (HG.out.below hb1 hBz)
        have hT1:Hid (TabN w1 tb sb g o c n root es):=⟨ho1 tb _ HT.out.tab (fun e=>hts (Option.some.inj e)) (fun c fz e=>by injection e with _ e2 _;exact absurd e2 (by decide)),ho1 sb _ HT.out.srt (fun e=>hsb (Option.some.inj e)) (fun c fz e=>by injection e with _ e2 _;exact absurd e2 (by decide))⟩
        have D2:=Lib.hid (centriesA_any (c:=c) (B:=B) hL (show k<nodes.length by omega) (hE k (by omega)) w1 hG1.out (by rw [hn];exact hT1.out) HES.out (by omega))
        have hs1:=hb1.size
        have hblt:b<w1.heap.size:=(Array.getElem?_eq_some_iff.1 hbl1.2.choose_spec.1).1
        go_upto_region 14 with(go_at_call 59;((with_reducible refine D2.out.mono ?_));rintro e w2 ⟨ob,rfl,hob,hobl,hg2,hsr2,hA2⟩;rw [HND.out,HNI.out])
        have hU2:=bldU_row hbl1 hg2.out hT1.out.srt hsb
        rw [HND.out,HNI.out] at hsr2
        have hbA:BldF z b (B8 (s.2 ++ [123])) w2:=by rw [B8_app];exact .inr hU2
        have hM2:MemW n (s.1.set k true) (es.set k (.slice (some ⟨ob,0,none⟩) ni ni)):=by
         refine⟨by rw [List.length_set];exact HM.out.1,fun j hj hm=>?_⟩
         have hjk:k≠j:=by
          rintro rfl
          rw [List.getD_eq_getElem?_getD,List.getElem?_set_self (by have:=HSL.out;omega)] at hm
          cases hm
         rw [List.getElem?_set_ne hjk]
         rw [List.getD_eq_getElem?_getD,List.getElem?_set_ne hjk,←List.getD_eq_getElem?_getD] at hm
         exact HM.out.2 j hj hm
        have hW0:Hid (WAt z b sb tb g o c n B root nodes w w2 w2 (s.1.set k true) (s.2 ++ [123]) (es.set k (.slice (some ⟨ob,0,none⟩) ni ni))):=⟨hbA,hsr2.out,hM2,below_row hb1 hg2.out (by omega) hzs,hw1.trans (WFr.row hg2.out),WFr.refl _ _ _⟩
        have htb2:Hid (Arr w2 tb 145 [.slice (some ⟨g,o,none⟩) n c,.int .i64 root,.slice (some ⟨sb,0,none⟩) n n]):=(WFr.row hg2.out).arr (b:=b) hT1.out.tab hts (Arr.ne hT1.out.tab hT1.out.srt (by decide)) (by decide)
        have hne:=Lib.hid (Arr.ne hT1.out.tab hT1.out.srt (by decide))
        have hni6:ni≤65536:=by
         have:=(hL k (by omega)).2
         rw [HND.out,HNI.out] at this
         exact this
        have lob:ob≠b∧ob≠sb:=by have:=hT1.out.srt.lt;omega
        have hr0:Hid (runG (stepWT (writeT nodes f) nd) ((entV nodes k).drop 0) (0,s.1.set k true,s.2 ++ [123])=some st):=by show _=_;rw [List.drop_zero];exact HRUN.out
        have hEV:=Lib.hid (entV_in nodes k)
        have hEL:Hid ((entV nodes k).length=ni):=by show _=_;rw [entV_len,HND.out,HNI.out]
        rw [HND.out,HNI.out] at hEV
        clear hU2 hbA hg2 hbl1 hb1 ho1 hw1 hG1 hT1 D1 D2 hM2 hsr2 d0 d2 ht
        go_loopw [69] (fun v wr=>∃(i:Nat) (mk:List Bool) (out:List Nat) (es':List Value),i≤ni∧v=.int .i64 (i:Int)∧Hid (runG (stepWT (writeT nodes f) nd) ((entV nodes k).drop i) (i,mk,out)=some st)∧Hid (WAt z b sb tb g o c n B root nodes w w2 wr mk out es')) (fun v _=>ni - (intOf v).toNat)
        case atStart=>exact⟨0,_,_,_,Nat.zero_le _,rfl,hr0,hW0⟩
        case round=>
         obtain⟨i,mk,out,es',hi,rfl,hr,hWr⟩:=hrel
         clear hr0 hW0
         have hr':=hr.out
         have hoB:=hWr.out.vf.arr hA2.out lob.1 lob.2 (by decide)
         have htr:=hWr.out.vf.arr htb2.out hts hne.out (by decide)
         have hGr:=HG.out.below hWr.out.bw hBz
         have hzr:z≤wr.heap.size:=Nat.le_trans hzw hWr.out.bw.size
         obtain⟨Kr,ckr,Ir,cir,g0,_,_,g3,g4,⟨rK,_⟩,⟨rI,_⟩⟩:=hGr.of_at (show k<nodes.length by omega)
         rw [HND.out] at g0 g3 g4 rK rI
         rw [HK.out] at g0
         rw [HNI.out] at g4
         by_cases hin:i<ni
         ·have hin':(i:Int)<ni:=by omega
          have hi0:(0:Int)≤i:=by omega
          obtain⟨q,hq,hqn⟩:=InR_get hEV.out (k:=i) (by have:=hEL.out;omega)
          have cq:=hoB.cell' (I64_get hq)
          have q0:(0:Int)≤q:=by omega
          have q1:(q:Int)<ni:=by omega
          obtain⟨y,hy⟩:∃y,nd.items[q]? = some y:=⟨_,List.getElem?_eq_getElem (by have:=HNI.out;omega)⟩
          obtain⟨adI,rfl,cy⟩:=rI.at_ (I64_get hy)
          have hidx:=hI k (by omega)
          rw [HND.out] at hidx
          obtain⟨hy0,hy1⟩:=hidx y (by unfold refs;exact List.mem_append.2 (.inr (List.mem_of_getElem? hy)))
          obtain⟨ky,rfl⟩:∃ky:Nat,y=(ky:Int):=⟨y.toNat,by omega⟩
          have HHY:=Lib.hid hy
          rw [drop_cons_at hq,runG] at hr'
          split at hr'
          ·cases hr'
          ·rename_i st2 hst2
           obtain⟨hol,r,hr1,r2,hwv,rfl⟩:=step_wt hst2
           rw [getD_at hy] at hwv
           have hol:out.length≤60000:=hol
           obtain⟨r1,hw1,hl1,rfl⟩:=ahead_map HK.out hr1
           have hkl2:nd.keys.length=ni:=by have:=HK9.out;have:=HNI.out;have:=HK.out;omega
           obtain⟨x,hx⟩:∃x,nd.keys[q]? = some x:=⟨_,List.getElem?_eq_getElem (by omega)⟩
           obtain⟨adK,rfl,cx⟩:=rK.at_ (I64_get hx)
           obtain⟨hx0,hx1⟩:=hidx x (by unfold refs;exact List.mem_append.2 (.inl (List.mem_of_getElem? hx)))
           obtain⟨kx,rfl⟩:∃kx:Nat,x=(kx:Int):=⟨x.toNat,by omega⟩
           rw [getD_at hx] at hw1
           have HHX:=Lib.hid hx
           have HKL2:=Lib.hid hkl2
           have HL1:=Lib.hid hl1
           have HWV:=Lib.hid hwv
           rw [hkl2] at g3
           dsimp only at hw1
           clear hx hkl2 hl1 hwv
           have hr2:=Lib.hid hr'
           by_cases hi00:i=0
           ·subst hi00
            have D:=Lib.hid (ih kx (mk,out) r1 es' wr (by first | exact hw1 | simpa [commaT] using hw1) hGr ⟨htr,hWr.out.sr⟩ hWr.out.mm hWr.out.bl hzr)
            have HWW:=hWr
            clear hGr htr hw1 rK rI hr hr' hoB hst2 hr1 hy hidx
            go_upto_region 20 with(go_at_call 64;((with_reducible refine D.out.mono ?_));rintro e w6 hw6;have he:=hw6.1;subst he;obtain⟨es6,hW6⟩:=HWW.out.wrote hw6;have HW6:=Lib.hid hW6;have hz6:=Nat.le_trans hzr hw6.2.1.size;clear hw6 hW6)
            have D4:=Lib.hid (kb_byte z b (B8 r1.2) 61 w6 HW6.out.bl (by rw [length_B8];have:=HL1.out;omega) hz6)
            clear g0 g3 g4 cy cx D HWW cq hWr
            go_upto_region 21 with(go_at_call 16;(refine D4.out.mono ?_);rintro e w7 ⟨rfl,hbl7,hb7,ho7⟩)
            have HW7:Hid (WAt z b sb tb g o c n B root nodes w w2 w7 r1.1 (r1.2 ++ [61]) es6):=HW6.out.byte hbl7 hb7 ho7 hsb (by rw [B8_app];rfl)
            have hz7:=Nat.le_trans hz6 hb7.size
            clear hbl7 hb7 ho7 HW6 D4
            have hG7:=HG.out.below HW7.out.bw hBz
            have htr7:=HW7.out.vf.arr htb2.out hts hne.out (by decide)
            obtain⟨K7,ck7,I7,ci7,_,_,_,_,z4,_,⟨rI7,_⟩⟩:=hG7.of_at (show k<nodes.length by omega)
            rw [HND.out] at z4 rI7
            rw [HNI.out] at z4
            obtain⟨adI7,rfl,cy7⟩:=rI7.at_ (I64_get HHY.out)
            have D5:=Lib.hid (ih ky (r1.1,r1.2 ++ [61]) r2 es6 w7 HWV.out hG7 ⟨htr7,HW7.out.sr⟩ HW7.out.mm HW7.out.bl hz7)
            clear hG7 htr7 rI7
            go_wp2_with (go_at_call 64;((with_reducible refine D5.out.mono ?_));rintro e w8 hw8;have he:=hw8.1;subst he;obtain⟨es8,hW8⟩:=HW7.out.wrote hw8;have HW8:=Lib.hid hW8;clear hw8 hW8)
            go_roundw
            case rel=>exact⟨1,r2.1,r2.2,es8,by omega,rfl,hr2,HW8⟩
            case measure=>simp [intOf];omega
           ·have hip:(0:Int)<i:=by omega
            have D0:=Lib.hid (kb_byte z b (B8 out) 44 wr hWr.out.bl (by rw [length_B8];omega) hzr)
            have hce:B8 (commaT i out)=B8 out ++ [.int .u8 44]:=by unfold commaT;rw [if_neg hi00,B8_app];rfl
            have HCE:=Lib.hid hce
            have HTR:=Lib.hid htr
            clear hr hr' hoB htr hGr hy hidx hce hst2 hr1 rK rI
            go_upto_region 18 with(go_at_call 16;(refine D0.out.mono ?_);rintro e w5 ⟨rfl,hbl5,hb5,ho5⟩)
            have hW5:=Lib.hid (hWr.out.byte hbl5 hb5 ho5 hsb HCE.out)
            have hz5:=Nat.le_trans hzr hb5.size
            clear hbl5 hb5 ho5 hWr g0 g3 g4 cy cx cq HTR D0
            have hG5:=HG.out.below hW5.out.bw hBz
            have htr5:=hW5.out.vf.arr htb2.out hts hne.out (by decide)
            obtain⟨K5,ck5,I5,ci5,g0,_,_,g3,g4,⟨rK,_⟩,⟨rI,_⟩⟩:=hG5.of_at (show k<nodes.length by omega)
            rw [HND.out] at g0 g3 g4 rK rI
            rw [HK.out] at g0
            rw [HNI.out] at g4
            obtain⟨adI5,rfl,cy⟩:=rI.at_ (I64_get HHY.out)
            have D:=Lib.hid (ih kx (mk,(commaT i out)) r1 es' w5 (by first | exact hw1 | simpa [commaT] using hw1) hG5 ⟨htr5,hW5.out.sr⟩ hW5.out.mm hW5.out.bl hz5)
            have HWW:=hW5
            obtain⟨adK5,rfl,cx⟩:=rK.at_ (I64_get HHX.out)
            rw [HKL2.out] at g3
            clear hG5 htr5 hw1 rK rI
            go_upto_region 20 with(go_at_call 64;((with_reducible refine D.out.mono ?_));rintro e w6 hw6;have he:=hw6.1;subst he;obtain⟨es6,hW6⟩:=HWW.out.wrote hw6;have HW6:=Lib.hid hW6;have hz6:=Nat.le_trans hz5 hw6.2.1.size;clear hw6 hW6)
            have D4:=Lib.hid (kb_byte z b (B8 r1.2) 61 w6 HW6.out.bl (by rw [length_B8];have:=HL1.out;omega) hz6)
            clear g0 g3 g4 cy cx D HWW hW5
            go_upto_region 21 with(go_at_call 16;(refine D4.out.mono ?_);rintro e w7 ⟨rfl,hbl7,hb7,ho7⟩)
            have HW7:Hid (WAt z b sb tb g o c n B root nodes w w2 w7 r1.1 (r1.2 ++ [61]) es6):=HW6.out.byte hbl7 hb7 ho7 hsb (by rw [B8_app];rfl)
            have hz7:=Nat.le_trans hz6 hb7.size
            clear hbl7 hb7 ho7 HW6 D4
            have hG7:=HG.out.below HW7.out.bw hBz
            have htr7:=HW7.out.vf.arr htb2.out hts hne.out (by decide)
            obtain⟨K7,ck7,I7,ci7,_,_,_,_,z4,_,⟨rI7,_⟩⟩:=hG7.of_at (show k<nodes.length by omega)
            rw [HND.out] at z4 rI7
            rw [HNI.out] at z4
            obtain⟨adI7,rfl,cy7⟩:=rI7.at_ (I64_get HHY.out)
            have D5:=Lib.hid (ih ky (r1.1,r1.2 ++ [61]) r2 es6 w7 HWV.out hG7 ⟨htr7,HW7.out.sr⟩ HW7.out.mm HW7.out.bl hz7)
            clear hG7 htr7 rI7
            go_wp2_with (go_at_call 64;((with_reducible refine D5.out.mono ?_));rintro e w8 hw8;have he:=hw8.1;subst he;obtain⟨es8,hW8⟩:=HW7.out.wrote hw8;have HW8:=Lib.hid hW8;clear hw8 hW8)
            go_roundw
            case rel=>exact⟨i+1,r2.1,r2.2,es8,by omega,i64e (by omega),hr2,HW8⟩
            case measure=>simp [intOf];omega
         ·obtain rfl:ni=i:=by omega
          have hin':¬(ni:Int)<ni:=by omega
          rw [List.drop_of_length_le (by have:=hEL.out;omega),runG] at hr'
          obtain rfl:=Option.some.inj hr'
          have D3:=Lib.hid (kb_byte z b (B8 out) 125 wr hWr.out.bl (by rw [length_B8];have:out.length≤60000:=HST.out;omega) hzr)
          clear hr hr' hoB htr hGr rK rI g0 g3 g4
          go_wp2_with (go_at_call 16;(refine D3.out.mono ?_);rintro e w5 ⟨rfl,hbl5,hb5,ho5⟩)
          go_end0
          have hW5:WAt z b sb tb g o c n B root nodes w w2 w5 mk (out ++ [125]) es':=hWr.out.byte hbl5 hb5 ho5 hsb (by rw [B8_app];rfl)
          exact⟨rfl,hW5.bw,hW5.wf,hW5.bl,es',hW5.sr,hW5.mm⟩
      ·cases h
    ·cases h
  ·cases h
end Go.Proofs.YtnnnagnjikdnnaaGreatDoor
namespace Go.Proofs.YtnnnagnjikdnnaaGreatDoor
open Go.RowKit
structure CKeyT (nodes:List GNode) (r:Nat) (kn:List Int) (m:List Bool) (out:List Nat):Prop where
 idx:Idx nodes
 nl:NL 65536 nodes
 by_:∀k,By (ndAt nodes k).text
 ent:∀k,k<nodes.length→(ndAt nodes k).kind=10→(ndAt nodes k).ord=false→EntOK nodes (ndAt nodes k)
 len:nodes.length≤4096
 rt:r<nodes.length
 ck:ChkOK nodes (r:Int)
 zk:chkV nodes (r:Int)=0
 dk:(depthR nodes (r:Int)).2=true
 ln:lenT nodes (nodes.length+1) (r:Int) (List.replicate nodes.length (-1))=some kn
 lk:atG kn (r:Int)≤65536
 wr:writeT nodes (nodes.length+1) (r:Int) (List.replicate nodes.length false,[])=some (m,out)
 bo:By out
set_option maxRecDepth 20000 in
set_option maxHeartbeats 16000000 in
theorem ckeyT_any {B g o c r:Nat} {nodes:List GNode} {kn:List Int} {m:List Bool} {out:List Nat} (hC:CKeyT nodes r kn m out) (w:World) (hw:LibE w) (hG:GRd w B g o nodes) :
  Calls Tryz.prog 32 #[.agg #[.slice (some ⟨g,o,none⟩) nodes.length c,.int .i64 (r:Int)]] w fun e w'=>e=.returned (.tuple #[.string (mks out),.int .i64 0])∧Below w.heap.size w w':=by
 obtain⟨n,hn⟩:∃n,nodes.length=n:=⟨_,rfl⟩
 have HC:=Lib.hid hC
 have HN:=Lib.hid hn
 have HG:=Lib.hid hG
 have HW:=Lib.hid hw
 have hBw:=hG.2.1
 have hn4:=hC.len
 have D1:=Lib.hid (fun(w':World) (h:LibE w') (h':GRd w' B g o nodes)=>cacyclic_any (c:=c) hC.ck hC.zk hC.dk w' h h')
 rw [hn] at D1 hn4 ⊢
 clear hC hG hw hn
 have h1:Hid (Arr (w.alloc (.cells #[.slice (some ⟨g,o,none⟩) n c,.int .i64 (r:Int)] 26)) w.heap.size 26 [.slice (some ⟨g,o,none⟩) n c,.int .i64 (r:Int)]):=Arr.new w _ _
 have hb1:Below w.heap.size w (w.alloc (.cells #[.slice (some ⟨g,o,none⟩) n c,.int .i64 (r:Int)] 26)):=(Below.refl _ _).alloc (Nat.le_refl _) _
 go_enter Tryz.func32,Tryz.ntmps32
 go_upto_region 1 with(fail)
 obtain⟨gb,hgb⟩:∃x,w.heap.size=x:=⟨_,rfl⟩
 have HGB:=Lib.hid hgb
 have HB1:=Lib.hid hb1
 generalize (w.alloc (.cells #[.slice (some ⟨g,o,none⟩) n c,.int .i64 (r:Int)] 26))=W at *
 rw [hgb] at h1 HB1 hBw ⊢
 clear hgb hb1
 have hG1:=Lib.hid (HG.out.below HB1.out hBw)
 have hW1:=Lib.hid (HW.out.keep (by rw [HGB.out];exact HB1.out))
 have hgl:=h1.out.lt
 have x0:=h1.out.cell' (i:=0) rfl
 have x1:=h1.out.cell' (i:=1) rfl
 go_upto_region 4 with(go_at_call 62;((with_reducible refine(D1.out _ hW1.out hG1.out).mono ?_));rintro e w2 ⟨rfl,hb2⟩)
 have h1b:=Lib.hid (h1.out.keep hb2)
 have HB2:=Lib.hid (HB1.out.trans (hb2.mono (by omega)))
 have hG2:=Lib.hid (hG1.out.below hb2 (by omega))
 have hs2:=hb2.size
 clear x0 x1 h1 HB1 hb2 hG1 hW1 D1
 have x0:=h1b.out.cell' (i:=0) rfl
 have x1:=h1b.out.cell' (i:=1) rfl
 have D2:=Lib.hid (of_any (g:=g) (o:=o) (c:=c) (root:=(r:Int)) hn4 w2)
 go_upto_region 5 with(go_at_call 57;((with_reducible refine D2.out.mono ?_));rintro e w3 ⟨tb,sb,rfl,htb,hsb,hb3,hT3⟩)
 have h1c:=Lib.hid (h1b.out.keep hb3)
 have HB3:=Lib.hid (HB2.out.trans (hb3.mono (by omega)))
 have hs3:=hb3.size
 clear x0 x1 h1b HB2 hb3 hG2 D2
 have x0:=h1c.out.cell' (i:=0) rfl
 go_upto_region 6 with(at_make;go_loud (refine wpList_mk rfl _ _ 28 rfl 3 _ _ Tryz.underlying28 infoInt rfl _ _ _ _ rfl rfl n n (by omega) (by omega) (by omega) (by omega) (by unfold maxLen;omega) ?_;intro kb w4 hkb hA hb4 hz4))
 clear x0
 have h1d:=Lib.hid (h1c.out.keep hb4)
 have hT4:=Lib.hid (hT3.keep hb4)
 have HB4:=Lib.hid (HB3.out.trans (hb4.mono (by omega)))
 have lsb:=hT3.srt.lt
 have ltb:=hT3.tab.lt
 have lkb:w3.heap.size≤kb:=by have:=hkb.out;omega
 have hA0:Hid (Arr w4 kb 3 (I64 (List.replicate 0 (-1) ++ List.replicate (n - 0) 0))):=by have h:=hA.out;show Arr _ _ _ _;simpa [I64] using h
 have hs4:gb≤w4.heap.size:=by have:=hb4.size;omega
 clear h1c hT3 HB3 hb4 hz4 hA hkb
 go_upto_region 7 with(fail)
 go_loopw [22] (fun v wr=>∃(i:Nat),i≤n∧v=.int .i64 (i:Int)∧Hid (Arr wr kb 3 (I64 (List.replicate i (-1) ++ List.replicate (n - i) 0)))∧Hid (w4.grownBy wr (some kb))) (fun v _=>n - (intOf v).toNat)
 case atStart=>exact⟨0,Nat.zero_le _,rfl,hA0,World.grownBy.refl _ _⟩
 case round=>
  clear hA0
  obtain⟨i,hi,rfl,hLr,hgr⟩:=hrel
  by_cases him:i=n
  ·have hi':¬(i:Int)<n:=by omega
   have hA5:Hid (Arr wr kb 3 (I64 (List.replicate n (-1)))):=by
    have:=hLr.out
    rw [him,Nat.sub_self,List.replicate_zero,List.append_nil] at this
    exact this
   have h1e:=Lib.hid (h1d.out.grown hgr.out (some_ne (by omega)))
   have hT5:Hid (TabN wr tb sb g o c n (r:Int) (List.replicate n (.slice none 0 0))):=⟨hT4.out.tab.grown hgr.out (some_ne (by omega)),hT4.out.srt.grown hgr.out (some_ne (by omega))⟩
   have HB5:=Lib.hid (HB4.out.grown hgr.out hs4 (fun k e=>by have:=Option.some.inj e;omega))
   have hG5:=Lib.hid (HG.out.below HB5.out hBw)
   have D3:=Lib.hid (clenT_any (c:=c) (root:=(r:Int)) HC.out.idx HC.out.nl HC.out.by_ hn4 HN.out (show B≤kb by omega) (n+1) r _ kn wr (by have h:=HC.out.ln;rw [HN.out] at h;exact h) hG5.out hT5.out.tab hA5.out)
   have hlk:=HC.out.lk
   have htk:tb≠kb:=by omega
   have hsk:sb≠kb:=by omega
   have hlk2:¬atG kn (r:Int) > 65536:=by omega
   have hgs:gb+1≤wr.heap.size:=h1e.out.lt
   clear hLr hgr him hi h1d hT4 HB4
   have x1:=h1e.out.cell' (i:=1) rfl
   go_upto_region 13 with(go_at_call 63;((with_reducible refine D3.out.mono ?_));rintro e w6 ⟨rfl,hg6,hA6⟩)
   have h1f:=Lib.hid (h1e.out.grown hg6 (some_ne (by omega)))
   have hT6:TabN w6 tb sb g o c n (r:Int) (List.replicate n (.slice none 0 0)):=⟨hT5.out.tab.grown hg6 (some_ne htk),hT5.out.srt.grown hg6 (some_ne hsk)⟩
   have HB6:=HB5.out.grown hg6 (by omega) (fun k e=>by have:=Option.some.inj e;omega)
   have hbn:Below w6.heap.size w6 (w6.alloc (.cells #[.pointer none,.slice none 0 0] 49)):=(Below.refl _ _).alloc (Nat.le_refl _) _
   have hg6s:=h1f.out.lt
   have hT7:=Lib.hid (hT6.keep hbn)
   have h1g:=Lib.hid (h1f.out.keep hbn)
   have HB7:=Lib.hid (HB6.trans (hbn.mono (by omega)))
   have hG7:=Lib.hid (HG.out.below HB7.out hBw)
   have hbl:Hid (BldF gb w6.heap.size (B8 []) (w6.alloc (.cells #[.pointer none,.slice none 0 0] 49))):=.inl ⟨by omega,.slice none 0 0,Arr.new w6 49 [.pointer none,.slice none 0 0],⟨by simp [B8],.inl ⟨rfl,rfl⟩⟩,by simp [Value.ownBlock]⟩
   have htb6:=hT6.tab.lt
   have hsb6:=hT6.srt.lt
   have hM7:MemW n (List.replicate n false) (List.replicate n (.slice none 0 0)):=⟨List.length_replicate,fun j hj _=>by rw [List.getElem?_replicate,if_pos hj]⟩
   have hs7:=hbn.size
   have D4:=Lib.hid (cwriteT_any (c:=c) (root:=(r:Int)) HC.out.idx HC.out.nl HC.out.by_ HC.out.ent hn4 HN.out hBw (show gb≤sb by omega) (show tb≠w6.heap.size by omega) (show sb≠w6.heap.size by omega) (n+1) r (List.replicate n false,[]) (m,out) (List.replicate n (.slice none 0 0)) _ (by have h:=HC.out.wr;rw [HN.out] at h;exact h) hG7.out hT7.out hM7 hbl.out (by omega))
   have hgw:gb≤(w6.alloc (.cells #[.pointer none,.slice none 0 0] 49)).heap.size:=by omega
   clear hT6 HB6 hbn hM7 hg6 hA6 h1f x1 D3
   go_upto_region 14 with(fail)
   generalize (w6.alloc (.cells #[.pointer none,.slice none 0 0] 49))=w7 at *
   have x1:=h1g.out.cell' (i:=1) rfl
   go_upto_region 15 with(go_at_call 64;((with_reducible refine D4.out.mono ?_));rintro e w8 ⟨rfl,hb8,_,hbl8,_⟩)
   have hbF:BldF gb w6.heap.size (Lib.byteCells (out.map UInt8.ofNat)) w8:=by have h:=hbl8.out;rw [show B8 out=Lib.byteCells (out.map UInt8.ofNat) from(strB8 HC.out.bo).symm] at h;exact h
   have D5:=Lib.hid (Tryz.Builder_String_any_f gb w6.heap.size (out.map UInt8.ofNat) w8 hbF (Nat.le_trans hgw hb8.size))
   have hout:(⟨(out.map UInt8.ofNat).toArray⟩:ByteArray)=mks out:=rfl
   rw [hout] at D5
   go_wp2_with (go_at_call 20;((with_reducible refine D5.out.mono ?_));rintro e w9 ⟨rfl,_,hb9⟩)
   go_ret2
   exact⟨rfl,by rw [HGB.out];exact(HB7.out.trans hb8).trans hb9⟩
  ·have hi':(i:Int)<n:=by omega
   have i0:(0:Int)≤i:=by omega
   have p0:wr.cell? ⟨kb,i,none⟩=some (.int .i64 0):=hLr.out.cell' (i:=i) (by
    unfold I64
    rw [List.getElem?_map,List.getElem?_append_right (by rw [List.length_replicate];exact Nat.le_refl _),List.length_replicate,Nat.sub_self,List.getElem?_replicate,if_pos (by omega)];rfl)
   have pf:=hLr.out.frozen i
   have hL2:Hid (Arr (wr.setCell ⟨kb,i,none⟩ (.int .i64 (-1))) kb 3 (I64 (List.replicate (i+1) (-1) ++ List.replicate (n - (i+1)) 0))):=by rw [←rep_set n i (by omega)];exact hLr.out.store i _
   have hg2:=Lib.hid (grown_trans hgr.out (grown_set wr ⟨kb,i,none⟩ (.int .i64 (-1))))
   clear hLr hgr
   go_wp2_with (fail)
   go_roundw
   case rel=>exact⟨i+1,by omega,i64e (by omega),hL2,hg2⟩
   case measure=>simp [intOf];omega
end Go.Proofs.YtnnnagnjikdnnaaGreatDoor
