/- The walk of graph's depth. -/
import Derived.Test.YtnnnagnjikdnnaaGreatDoorMAr
import Derived.Test.YtnnnagnjikdnnaaGreatDoorMAl
import Derived.Test.YtnnnagnjikdnnaaGreatDoorMAc
import Derived.Test.YtnnnagnjikdnnaaGreatDoorMAd
import Derived.Test.YtnnnagnjikdnnaaGreatDoorMAh
set_option linter.unusedVariables false
set_option linter.unusedSimpArgs false
set_option linter.defProp false
set_option linter.constructorNameAsVariable false
namespace Go.Proofs.YtnnnagnjikdnnaaGreatDoor
open Go.RowKit
theorem infoSl:(Tryz.prog.info? 28).map (fun i=>(i.zero,i.size,i.bytes))=some (some (.slice none 0 0),1,24):=by kernel_rfl
set_option maxRecDepth 100000 in
set_option maxHeartbeats 8000000 in
theorem depth_any {B g o c:Nat} {nodes:List GNode} {root:Int} (hI:Idx nodes) (hL:NL 65536 nodes) (hN:nodes.length≤65536) (hr:InN nodes.length root) (s:TS) (hs:compV nodes root=some s) (hE:EndT nodes s) (w:World) (hG:GRd w B g o nodes) :
  Calls Tryz.prog 56 #[.agg #[.slice (some ⟨g,o,none⟩) nodes.length c,.int .i64 root]] w fun en w'=>en=.returned (.tuple #[.int .i64 (gI (belowV nodes s.inn s.sizes).1 (gI s.inn root) - 1),.bool (belowV nodes s.inn s.sizes).2])∧Below w.heap.size w w':=by
 have h1:Hid (Arr (w.alloc (.cells #[.slice (some ⟨g,o,none⟩) nodes.length c,.int .i64 root] 26)) w.heap.size 26 [.slice (some ⟨g,o,none⟩) nodes.length c,.int .i64 root]):=Arr.new w 26 [.slice (some ⟨g,o,none⟩) nodes.length c,.int .i64 root]
 have hB1:Hid (Below w.heap.size w (w.alloc (.cells #[.slice (some ⟨g,o,none⟩) nodes.length c,.int .i64 root] 26))):=(Below.refl _ _).alloc (Nat.le_refl _) _
 have HG:=Lib.hid hG
 have HS:=Lib.hid hs
 clear hG hs
 go_enter Tryz.func56,Tryz.ntmps56
 go_upto_region 1 with(fail)
 generalize w.alloc (.cells #[.slice (some ⟨g,o,none⟩) nodes.length c,.int .i64 root] 26)=W at *
 have hGW:=Lib.hid (HG.out.below hB1.out HG.out.2.1)
 have D:=Lib.hid (components_any (c:=c) hI hL hN hr s HS.out W hGW.out)
 obtain⟨n,hn⟩:∃n,nodes.length=n:=⟨_,rfl⟩
 obtain⟨gb,hgb⟩:∃b,w.heap.size=b:=⟨_,rfl⟩
 have hgbl:=h1.out.lt
 rw [hgb] at h1 hgbl hB1 ⊢
 rw [hn] at h1 hN D ⊢
 have x0:=h1.out.cell' (i:=0) rfl
 have x1:=h1.out.cell' (i:=1) rfl
 have HN:=Lib.hid hn
 have HGB:=Lib.hid hgb
 clear hn hgb
 obtain⟨m,hm⟩:∃m,s.sizes.length=m:=⟨_,rfl⟩
 have hm2:=hE.szl
 rw [hm] at hm2 D
 have HM:=Lib.hid hm
 clear hm
 go_upto_region 3 with(go_at_call 86;((with_reducible refine D.out.mono ?_));rintro en w2 ⟨nm,vz,rfl,hb2,hN2,hZ2,hnm,hvn⟩;obtain⟨Az,cz,hvz,hcz,hcmz⟩:=own_slice hZ2.out;subst hvz)
 have hB2:=Lib.hid (hB1.out.trans (hb2.mono (by omega)))
 have hX2:=Lib.hid (h1.out.keep hb2)
 have hWs:=hb2.size
 clear x0 x1 h1 hb2 D
 go_upto_region 4 with(at_make;go_loud (refine wpList_mk rfl _ _ 28 rfl 3 _ _ Tryz.underlying28 infoInt rfl _ _ _ _ rfl rfl m m (by omega) (by omega) (by omega) (by omega) (by unfold maxLen;omega) ?_;intro bb w3 hbb hC3 hb3 hz3))
 go_upto_region 5 with(at_make;go_loud (refine wpList_mk rfl _ _ 134 rfl 28 _ _ Tryz.underlying134 infoSl rfl _ _ _ _ rfl rfl m m (by omega) (by omega) (by omega) (by omega) (by unfold maxLen;omega) ?_;intro mb w4 hmb hM4 hb4 hz4))
 have hnl:=hN2.out.lt
 have hzb:=Lib.hid (fun b (hb:(Value.slice Az m cz).ownBlock=some b)=>show b<bb by have:=(hZ2.out.lt b hb).2;have:=hbb.out;omega)
 have hb24:=Lib.hid (hb3.trans (hb4.mono hb3.size))
 have hB4:=Lib.hid (hB2.out.trans (hb24.out.mono (by have:=hB2.out.size;have:=HGB.out;omega)))
 have hC4:Hid (Arr w4 bb 3 (I64 (List.replicate m 0))):=by rw [←I64_rep];exact hC3.out.keep hb4
 have hN4:=Lib.hid (hN2.out.keep hb24.out)
 have hZ4:=Lib.hid (own_below hZ2.out hb24.out)
 have hX4:=Lib.hid (hX2.out.keep hb24.out)
 have l1:W.heap.size≤bb∧nm<bb∧bb<mb:=by have:=hbb.out;have:=hmb.out;have:=hz3.out;omega
 obtain⟨l0,l1,l2⟩:=l1
 have l3:=hM4.out.lt
 have hM4':MemI w4 w4.heap.size mb m (membT s.inn 0) (List.replicate m (.slice none 0 0)):=MemI.start hM4.out
 have HM4:=Lib.hid hM4'
 have HE:=Lib.hid hE
 clear hE hM4' hC3 hb3 hz3 hM4 hb4 hz4 hb24 hN2 hZ2 hX2 hbb hmb
 go_upto_region 6 with(fail)
 obtain⟨b4,hb4⟩:∃b,w4.heap.size=b:=⟨_,rfl⟩
 rw [hb4] at HM4 l3
 have HB4:=Lib.hid hb4
 clear hb4
 go_loopw [31] (fun v' wr=>∃(j:Nat) (vals:List Value),j≤n∧v'=.int .i64 (j:Int)∧Hid (MemI wr b4 mb m (membT s.inn j) vals)∧w4.grownBy wr (some mb)) (fun v' _=>n - (intOf v').toNat)
 case atStart=>exact⟨0,_,Nat.zero_le _,rfl,HM4,World.grownBy.refl _ _⟩
 case round=>
  obtain⟨j,vals,hj,rfl,hMr,hgr⟩:=hrel
  by_cases hjn:j=n
  ·have hjn':¬(j:Int)<n:=by omega
   go_upto_region 11 with(fail)
   obtain⟨w5,hw5⟩:∃x:World,x=wr:=⟨_,rfl⟩
   subst hw5
   subst hjn
   have hB5:=Lib.hid (below_row hB4.out hgr (by have:=hB4.out.size;have:=HGB.out;omega) (by omega))
   have hC5:=Lib.hid (hC4.out.grown hgr (some_ne (show bb≠mb by omega)))
   have hN5:=Lib.hid (hN4.out.grown hgr (some_ne (show nm≠mb by omega)))
   have hZ5:=Lib.hid (row_grown hZ4.out hgr (by intro q;have:=hzb.out _ q;omega))
   have hX5:=Lib.hid (hX4.out.grown hgr (some_ne (show gb≠mb by omega)))
   have hsz5:b4≤w5.heap.size:=by have:=hgr.size;have:=HB4.out;omega
   have hFI:Hid (((List.range m).drop 0).foldl (compD nodes s.inn s.sizes) (List.replicate m 0,true)=belowV nodes s.inn s.sizes):=by
    unfold belowV;rw [HM.out];exact rfl
   have hbd0:Hid (BD (List.replicate m 0) (0*65536)):=by rw [Nat.zero_mul];exact BD.zero m
   have hln0:Hid ((List.replicate m (0:Int)).length=m):=List.length_replicate
   clear hB4 hC4 hN4 hZ4 hX4 HM4 hgr
   go_loopw [6,49] (fun u v' wr=>∃(q:Nat) (st:List Int×Bool),q≤m∧v'=.int .i64 (q:Int)∧u=.bool st.2∧Hid (((List.range m).drop q).foldl (compD nodes s.inn s.sizes) st=belowV nodes s.inn s.sizes)∧Hid (BD st.1 (q*65536))∧Hid (st.1.length=m)∧Hid (Arr wr bb 3 (I64 st.1))∧w5.grownBy wr (some bb)) (fun _ v' _=>m - (intOf v').toNat)
   case atStart=>exact⟨0,(List.replicate m 0,true),Nat.zero_le _,rfl,rfl,hFI,hbd0,hln0,hC5,World.grownBy.refl _ _⟩
   case round=>
    obtain⟨q,st,hq,rfl,rfl,hfo,hbd,hln,hCr,hgs⟩:=hrel
    by_cases hqm:q=m
    ·have hqm':¬(q:Int)<m:=by omega
     have he:st=belowV nodes s.inn s.sizes:=by
      have:=hfo.out
      rw [List.drop_of_length_le (by simp;omega)] at this
      exact this
     obtain⟨r,hr0⟩:∃r:Nat,root=(r:Int):=⟨root.toNat,by have:=hr.1;omega⟩
     have hrl:r<nodes.length:=by have:=hr.2;omega
     obtain⟨hi1,hi2⟩:=HE.out.inr r hrl
     rw [HM.out] at hi2
     obtain⟨kr,hkr⟩:∃kr:Nat,s.inn.getD r 0=(kr:Int):=⟨(s.inn.getD r 0).toNat,by omega⟩
     have y0:=(hN5.out.grown hgs (some_ne (show nm≠bb by omega))).cell' (I64_getD (l:=s.inn) (k:=r) (by rw [HE.out.li];exact hrl))
     have y1:=(hX5.out.grown hgs (some_ne (show gb≠bb by omega))).cell' (i:=1) rfl
     rw [hkr] at y0 hi1 hi2
     rw [hr0] at y1
     have hrn:(r:Int)<(j:Int):=by have:=HN.out;omega
     have hr00:(0:Int)≤r:=by omega
     have y2:=hCr.out.cell' (I64_getD (l:=st.1) (k:=kr) (by rw [hln.out];omega))
     have hb2:=hbd.out kr
     have hfin:Hid (gI (belowV nodes s.inn s.sizes).1 (gI s.inn root)=st.1.getD kr 0):=by
      show _=_
      rw [←he,hr0,gI_nat s.inn,hkr,gI_nat]
     have hst2:Hid ((belowV nodes s.inn s.sizes).2=st.2):=by show _=_;rw [he]
     have hBf:=Lib.hid (below_row hB5.out hgs (by have:=hB5.out.size;have:=HGB.out;omega) (by omega))
     clear he hkr hr0 hCr hbd hfo
     generalize st.1.getD kr 0=bv at *
     have hbv:bv≤4294967296:=by have:q*65536≤65536*65536:=Nat.mul_le_mul_right _ (by omega);omega
     go_wp2_with (fail)
     go_ret2
     exact⟨by rw [hfin.out,hst2.out];rfl,by rw [HGB.out];exact hBf.out⟩
    ·have hqm':(q:Int)<m:=by omega
     have hq0:(0:Int)≤q:=by omega
     obtain⟨v,hv⟩:∃v,vals[q]? = some v:=⟨_,List.getElem?_eq_getElem (by rw [hMr.out.len];omega)⟩
     have hrow:=hMr.out.row q v hv
     obtain⟨Av,cv,hvs,hcv,hcvm⟩:=own_slice hrow
     have hMr2:Hid (membT s.inn j q=(membersV s.inn q).map fun(i:Nat)=>(i:Int)):=by
      show _=_
      rw [show j=s.inn.length by rw [HE.out.li];exact HN.out.symm]
      exact membT_all s.inn q
     have hlen:(membT s.inn j q).length=(membersV s.inn q).length:=by rw [hMr2.out,List.length_map]
     have hmle:(membersV s.inn q).length≤65536:=by have:=membT_len s.inn j q;omega
     have hrd:Hid (Rd w5 Av (I64 (membT s.inn j q))∧∀ad,Av=some ad→b4≤ad.block):=by
      subst hvs
      obtain⟨A',c',e',_,_,_,h2,h3⟩:=own_rd hrow
      injection e' with e1 _ _
      subst e1
      exact⟨h2,h3⟩
     rw [hlen] at hvs
     subst hvs
     have y0:=(hMr.out.arr.grown hgs (some_ne (show mb≠bb by omega))).cell' hv
     clear hrow hv hcv hcvm
     have hfo2:Hid (((List.range m).drop (q+1)).foldl (compD nodes s.inn s.sizes) (compD nodes s.inn s.sizes st q)=belowV nodes s.inn s.sizes):=by
      have:=hfo.out
      rw [range_drop (by omega),List.foldl_cons] at this
      exact this
     have hmn:Hid (∀i∈membersV s.inn q,i<nodes.length):=fun i hi=>by
      unfold membersV at hi
      rw [List.mem_filter,List.mem_range,HE.out.li] at hi
      exact hi.1
     rw [hMr2.out] at hrd
     clear hMr2 hlen hfo
     generalize hMM:membersV s.inn q=MM at *
     have HMM:=Lib.hid hMM
     clear hMM
     go_upto_region 14 with(fail)
     clear y0
     obtain⟨w6,hw6⟩:∃x:World,x=wr:=⟨_,rfl⟩
     subst hw6
     go_loopw [6,57] (fun u v' wr=>∃(p:Nat) (st1:List Int×Bool),p≤MM.length∧v'=.int .i64 (p:Int)∧u=.bool st1.2∧Hid ((MM.drop p).foldl (nodeD nodes s.inn q) st1=MM.foldl (nodeD nodes s.inn q) st)∧Hid (BD st1.1 (q*65536))∧Hid (st1.1.length=m)∧Hid (Arr wr bb 3 (I64 st1.1))∧w5.grownBy wr (some bb)) (fun _ v' _=>MM.length - (intOf v').toNat)
     case atStart=>exact⟨0,st,Nat.zero_le _,rfl,rfl,rfl,hbd,hln,hCr,hgs⟩
     case round=>
      obtain⟨p,st1,hp,rfl,rfl,hfm,hbd1,hln1,hC6,hg6⟩:=hrel
      by_cases hpm:p=MM.length
      ·have hpm':¬(p:Int)<MM.length:=by omega
       have he:MM.foldl (nodeD nodes s.inn q) st=st1:=by
        have:=hfm.out
        rw [List.drop_of_length_le (by omega)] at this
        exact this.symm
       have hZr:=row_grown hZ5.out hg6 (by intro q;have:=hzb.out _ q;omega)
       have hcomp:Hid (compD nodes s.inn s.sizes st q=(st1.1.set q (st1.1.getD q 0+s.sizes.getD q 0),st1.2)):=by
        show _=_
        unfold compD
        rw [HMM.out,he]
       obtain⟨gz,cz',hvz,_,_⟩:=own_slice0 hZr (by omega)
       injection hvz with e1 _ e3
       subst e1 e3
       have y0:=(own_cell hZr (i:=q) (u:=.int .i64 (s.sizes.getD q 0)) (I64_getD (by rw [HM.out];omega))).1
       have y1:=hC6.out.cell' (I64_getD (l:=st1.1) (k:=q) (by rw [hln1.out];omega))
       have y2:=hC6.out.frozen q
       have b1:=hbd1.out q
       have b2:=HE.out.szs q
       have hset:Hid (Arr (wr.setCell ⟨bb,q,none⟩ (.int .i64 (st1.1.getD q 0+s.sizes.getD q 0))).drew bb 3 (I64 (st1.1.set q (st1.1.getD q 0+s.sizes.getD q 0)))):=by
        have h:=hC6.out.store q (.int .i64 (st1.1.getD q 0+s.sizes.getD q 0))
        rw [I64_set] at h
        exact h
       have hg7:=Lib.hid (grown_drew (grown_trans hg6 (grown_set wr ⟨bb,q,none⟩ (.int .i64 (st1.1.getD q 0+s.sizes.getD q 0)))))
       have hqq:q*65536≤65536*65536:=Nat.mul_le_mul_right _ (by omega)
       have hbd2:Hid (BD (st1.1.set q (st1.1.getD q 0+s.sizes.getD q 0)) ((q+1)*65536)):=bd_next hbd1.out b2.1 b2.2
       have hln2:Hid ((st1.1.set q (st1.1.getD q 0+s.sizes.getD q 0)).length=m):=by show _=m;rw [List.length_set];exact hln1.out
       rw [hcomp.out] at hfo2
       clear hZr he hfm hC6 hbd1 hcomp
       generalize st1.1.getD q 0=bv at *
       generalize s.sizes.getD q 0=sv at *
       go_upto_region 28 with(fail)
       go_still_tail 10,(by kernel_rfl)
       go_wp2_with (fail)
       go_roundw
       case rel=>exact⟨q+1,(st1.1.set q (bv+sv),st1.2),by omega,i64e (by omega),rfl,hfo2,hbd2,hln2,hset,hg7.out⟩
       case measure=>simp [intOf];omega
      ·have hpm':(p:Int)<MM.length:=by omega
       obtain⟨i,hi⟩:∃i,MM[p]? = some i:=⟨_,List.getElem?_eq_getElem (by omega)⟩
       have hil:i<nodes.length:=hmn.out i (List.mem_of_getElem? hi)
       obtain⟨ad,hAv,hc⟩:=(hrd.out.1.grown hg6 (fun ad e h=>by have:=hrd.out.2 ad e;have:=Option.some.inj h;omega)).at_ (I64_get (k:=p) (d:=(i:Int)) (by rw [List.getElem?_map,hi];rfl))
       subst hAv
       have hBr:=Lib.hid (below_row hB5.out hg6 (by have:=hB5.out.size;have:=HGB.out;omega) (by omega))
       have hGr:=(HG.out.below hBr.out (by have:=HG.out.2.1;have:=HGB.out;omega)).of_at hil
       obtain⟨K,ck,I,ci,c0,c1,c2,c3,c4,⟨hK,hKb⟩,hIt,hIb⟩:=hGr
       have hgX:=Lib.hid (hX5.out.grown hg6 (some_ne (show gb≠bb by omega)))
       have y0:=hgX.out.cell' (i:=0) rfl
       have hi0:(0:Int)≤i:=by omega
       have hi1:(i:Int)<j:=by have:=HN.out;omega
       obtain⟨hLk,hLi⟩:=hL i hil
       have hrf:=Lib.hid (hI i hil)
       have hfm2:Hid ((MM.drop (p+1)).foldl (nodeD nodes s.inn q) (nodeD nodes s.inn q st1 i)=MM.foldl (nodeD nodes s.inn q) st):=by
        have:=hfm.out
        rw [List.drop_eq_getElem_cons (by omega),List.foldl_cons] at this
        have e:MM[p]=i:=by rw [List.getElem?_eq_getElem (by omega)] at hi;exact Option.some.inj hi
        rw [e] at this
        exact this
       have hnode:Hid (nodeD nodes s.inn q st1 i=(restL (ndAt nodes i) 0).foldl (edgeD s.inn q) st1):=rfl
       have HK:=Lib.hid hK
       have HI:=Lib.hid hIt
       have hKB:=Lib.hid (fun ad' (q:K=some ad')=>show ad'.block≠bb by have:=hKb ad' q;have:=HG.out.2.1;have:=HGB.out;omega)
       have hIB:=Lib.hid (fun ad' (q:I=some ad')=>show ad'.block≠bb by have:=hIb ad' q;have:=HG.out.2.1;have:=HGB.out;omega)
       clear hi hfm c0 c1 c2 hK hIt hKb hIb
       generalize nodeD nodes s.inn q st1 i=stN at *
       generalize ndAt nodes i=nd at *
       have hS:Hid (Arr (wr.alloc (.cells #[.slice K nd.keys.length ck,.slice I nd.items.length ci] 28)) wr.heap.size 28 [.slice K nd.keys.length ck,.slice I nd.items.length ci]):=Arr.new wr _ _
       have hbs:Below wr.heap.size wr (wr.alloc (.cells #[.slice K nd.keys.length ck,.slice I nd.items.length ci] 28)):=(Below.refl _ _).alloc (Nat.le_refl _) _
       have hbl:=hC6.out.lt
       go_upto_region 16 with(fail)
       go_region_held3 (fun w'=>w'.cell? ⟨gb,0,none⟩=some (.slice (some ⟨g,o,none⟩) j c)∧w'.cell? ⟨g,o+i*5+3,none⟩=some (.slice K nd.keys.length ck)∧w'.cell? ⟨g,o+i*5+4,none⟩=some (.slice I nd.items.length ci)) (first | exact⟨y0,c3,c4⟩ | exact⟨(hbs.cell (block_lt_of_cell y0)).trans y0,(hbs.cell (block_lt_of_cell c3)).trans c3,(hbs.cell (block_lt_of_cell c4)).trans c4⟩) (fail)
       have hbd':Below wr.heap.size wr (wr.alloc (.cells #[.slice K nd.keys.length ck,.slice I nd.items.length ci] 28)).drew:=hbs.drew
       have hS7:Hid (Arr (wr.alloc (.cells #[.slice K nd.keys.length ck,.slice I nd.items.length ci] 28)).drew wr.heap.size 28 [.slice K nd.keys.length ck,.slice I nd.items.length ci]):=hS
       have hg7:Hid (w5.grownBy (wr.alloc (.cells #[.slice K nd.keys.length ck,.slice I nd.items.length ci] 28)).drew (some bb)):=grown_trans hg6 ⟨hbd'.os,hbd'.tape,hbd'.output,hbd'.size,fun k hk _=>hbd'.block k hk⟩
       have hC7:=Lib.hid (hC6.out.keep hbd')
       have hK7:=Lib.hid (HK.out.keep hbd' )
       have hI7:=Lib.hid (HI.out.keep hbd')
       clear hS hbs hbd' HK HI hC6 y0 c3 c4 hc hgX
       generalize (wr.alloc (.cells #[.slice K nd.keys.length ck,.slice I nd.items.length ci] 28)).drew=w7 at *
       obtain⟨sb,hsb⟩:∃b,wr.heap.size=b:=⟨_,rfl⟩
       rw [hsb] at hS7 hbl ⊢
       clear hsb hBr
       have hst0:Hid ((restL nd 0).foldl (edgeD s.inn q) st1=stN):=hnode.out.symm
       go_upto_region 17 with(fail)
       go_loopw [6,75] (fun u v' ws=>∃(a:Nat) (st2:List Int×Bool),a≤2∧v'=.int .i64 (a:Int)∧u=.bool st2.2∧Hid ((restL nd a).foldl (edgeD s.inn q) st2=stN)∧Hid (BD st2.1 (q*65536))∧Hid (st2.1.length=m)∧Hid (Arr ws bb 3 (I64 st2.1))∧Hid (w7.grownBy ws (some bb))∧w5.grownBy ws (some bb)) (fun _ v' _=>2 - (intOf v').toNat)
       case atStart=>exact⟨0,st1,by omega,rfl,rfl,hst0,hbd1,hln1,hC7,World.grownBy.refl _ _,hg7.out⟩
       case round=>
        obtain⟨a,st2,ha,rfl,rfl,hf2,hbd2,hln2,hC8,hg8,hg9⟩:=hrel
        by_cases ha2:a=2
        ·subst ha2
         have he2:st2=stN:=hf2.out
         subst he2
         go_wp2_with (fail)
         go_roundw
         case rel=>exact⟨p+1,st2,by omega,i64e (by omega),rfl,hfm2,hbd2,hln2,hC8,hg9⟩
         case measure=>simp [intOf];omega
        ·have ha':(a:Int)<2:=by omega
         have ha0:(0:Int)≤a:=by omega
         obtain⟨AA,cA,hcA,hRA,hAB⟩:∃AA cA,wr.cell? ⟨sb,a,none⟩=some (.slice AA (twoL nd a).length cA)∧Hid (Rd w7 AA (I64 (twoL nd a)))∧Hid (∀ad',AA=some ad'→ad'.block≠bb):=by
          have hSr:=hS7.out.grown hg8.out (some_ne (show sb≠bb by omega))
          rcases(show a=0∨a=1 by omega) with rfl | rfl
          ·exact⟨K,ck,hSr.cell' (i:=0) rfl,hK7.out,hKB⟩
          ·exact⟨I,ci,hSr.cell' (i:=1) rfl,hI7.out,hIB⟩
         have hlT:(twoL nd a).length≤65536:=by unfold twoL;split <;> assumption
         have hxT:Hid (∀x∈twoL nd a,0≤x∧x<(nodes.length:Int)):=fun x hx=>hrf.out x (by unfold refs;unfold twoL at hx;split at hx;exact List.mem_append.2 (.inl hx);exact List.mem_append.2 (.inr hx))
         have hf3:Hid ((restL nd (a+1)).foldl (edgeD s.inn q) ((twoL nd a).foldl (edgeD s.inn q) st2)=stN):=by
          have:=hf2.out
          rw [restL_step (show a<2 by omega),List.foldl_append] at this
          exact this
         clear hf2
         generalize twoL nd a=L at *
         go_upto_region 20 with(fail)
         clear hcA
         go_loopw [6,81] (fun u v' ws=>∃(k:Nat) (st3:List Int×Bool),k≤L.length∧v'=.int .i64 (k:Int)∧u=.bool st3.2∧Hid ((L.drop k).foldl (edgeD s.inn q) st3=L.foldl (edgeD s.inn q) st2)∧Hid (BD st3.1 (q*65536))∧Hid (st3.1.length=m)∧Hid (Arr ws bb 3 (I64 st3.1))∧Hid (w7.grownBy ws (some bb))∧w5.grownBy ws (some bb)) (fun _ v' _=>L.length - (intOf v').toNat)
         case atStart=>exact⟨0,st2,Nat.zero_le _,rfl,rfl,rfl,hbd2,hln2,hC8,hg8,hg9⟩
         case round=>
          obtain⟨k,st3,hk,rfl,rfl,hf4,hbd3,hln3,hC9,hg10,hg11⟩:=hrel
          by_cases hkl:k=L.length
          ·have hkl':¬(k:Int)<L.length:=by omega
           have he3:L.foldl (edgeD s.inn q) st2=st3:=by
            have:=hf4.out
            rw [List.drop_of_length_le (by omega)] at this
            exact this.symm
           rw [he3] at hf3
           clear he3 hf4
           go_wp2_with (fail)
           go_roundw
           case rel=>exact⟨a+1,st3,by omega,i64e (by omega),rfl,hf3,hbd3,hln3,hC9,hg10,hg11⟩
           case measure=>simp [intOf];omega
          ·have hkl':(k:Int)<L.length:=by omega
           obtain⟨x,hx⟩:∃x,L[k]? = some x:=⟨_,List.getElem?_eq_getElem (by omega)⟩
           obtain⟨ad2,rfl,hc2⟩:=(hRA.out.grown hg10.out (fun ad' e h=>by exact hAB.out ad' e (Option.some.inj h))).at_ (I64_get hx)
           have hxr:=hxT.out x (List.mem_of_getElem? hx)
           obtain⟨kx,rfl⟩:∃kx:Nat,x=(kx:Int):=⟨x.toNat,by omega⟩
           have hkx:kx<nodes.length:=by omega
           have hkx0:(0:Int)≤kx:=by omega
           have hkx1:(kx:Int)<j:=by have:=HN.out;omega
           obtain⟨hi3,hi4⟩:=HE.out.inr kx hkx
           rw [HM.out] at hi4
           obtain⟨kc,hkc⟩:∃kc:Nat,s.inn.getD kx 0=(kc:Int):=⟨(s.inn.getD kx 0).toNat,by omega⟩
           have y0:=(hN5.out.grown hg11 (some_ne (show nm≠bb by omega))).cell' (I64_getD (l:=s.inn) (k:=kx) (by rw [HE.out.li];exact hkx))
           rw [hkc] at y0 hi3 hi4
           have hf5:Hid ((L.drop (k+1)).foldl (edgeD s.inn q) (edgeD s.inn q st3 (kx:Int))=L.foldl (edgeD s.inn q) st2):=by
            have:=hf4.out
            rw [drop_cons_at hx,List.foldl_cons] at this
            exact this
           have hed:Hid (edgeD s.inn q st3 (kx:Int)=if (kc:Int)=(q:Int) then (st3.1,false) else (st3.1.set q (max (st3.1.getD q 0) (st3.1.getD kc 0)),st3.2)):=by
            show _=_
            unfold edgeD
            rw [gI_nat,hkc,gI_nat]
           have hbd4:=Lib.hid (edgeD_BD (inn:=s.inn) (c:=q) (x:=(kx:Int)) hbd3.out)
           have hln4:Hid ((edgeD s.inn q st3 (kx:Int)).1.length=m):=by show _=m;rw [edgeD_len];exact hln3.out
           rw [hed.out] at hf5 hbd4 hln4
           clear hf4 hx hxr hed hkc
           by_cases hkq:kc=q
           ·subst hkq
            rw [if_pos rfl] at hf5 hbd4 hln4
            go_wp2_with (fail)
            go_roundw
            case rel=>exact⟨k+1,(st3.1,false),by omega,i64e (by omega),rfl,hf5,hbd4,hln4,hC9,hg10,hg11⟩
            case measure=>simp [intOf];omega
           ·have hkq':¬(kc:Int)=(q:Int):=by omega
            rw [if_neg hkq'] at hf5 hbd4 hln4
            have y1:=hC9.out.cell' (I64_getD (l:=st3.1) (k:=q) (by rw [hln3.out];omega))
            have y2:=hC9.out.cell' (I64_getD (l:=st3.1) (k:=kc) (by rw [hln3.out];omega))
            have y3:=hC9.out.frozen q
            have hset:Hid (Arr (wr.setCell ⟨bb,q,none⟩ (.int .i64 (max (st3.1.getD q 0) (st3.1.getD kc 0)))).drew bb 3 (I64 (st3.1.set q (max (st3.1.getD q 0) (st3.1.getD kc 0))))):=by
             have h:=hC9.out.store q (.int .i64 (max (st3.1.getD q 0) (st3.1.getD kc 0)))
             rw [I64_set] at h
             exact h
            have hg12:=Lib.hid (grown_drew (grown_trans hg10.out (grown_set wr ⟨bb,q,none⟩ (.int .i64 (max (st3.1.getD q 0) (st3.1.getD kc 0))))))
            have hg13:=Lib.hid (grown_drew (grown_trans hg11 (grown_set wr ⟨bb,q,none⟩ (.int .i64 (max (st3.1.getD q 0) (st3.1.getD kc 0))))))
            clear hC9 hbd3
            generalize st3.1.getD q 0=va at *
            generalize st3.1.getD kc 0=vb at *
            go_upto_region 24 with(fail)
            go_still_tail 15,(by kernel_rfl)
            go_wp2_with (fail)
            go_roundw
            case rel=>exact⟨k+1,(st3.1.set q (max va vb),st3.2),by omega,i64e (by omega),rfl,hf5,hbd4,hln4,hset,hg12,hg13.out⟩
            case measure=>simp [intOf];omega
  ·have hjn':(j:Int)<n:=by omega
   have hj0:(0:Int)≤j:=by omega
   have hjl:j<nodes.length:=by have:=HN.out;omega
   obtain⟨hi1,hi2⟩:=HE.out.inr j hjl
   rw [HM.out] at hi2
   have c0:=(hN4.out.grown hgr (some_ne (show nm≠mb by omega))).cell' (I64_getD (l:=s.inn) (k:=j) (by rw [HE.out.li];exact hjl))
   obtain⟨kc,hkc⟩:∃kc:Nat,s.inn.getD j 0=(kc:Int):=⟨(s.inn.getD j 0).toNat,by omega⟩
   rw [hkc] at c0 hi1 hi2
   have HKC:=Lib.hid hkc
   have hkm:kc<m:=by omega
   obtain⟨v,hv⟩:∃v,vals[kc]? = some v:=⟨_,List.getElem?_eq_getElem (by rw [hMr.out.len];exact hkm)⟩
   have hrow:=hMr.out.row kc v hv
   obtain⟨Av,cv,hvs,hcv,hcvm⟩:=own_slice hrow
   have HV:=Lib.hid hv
   have hll:=membT_len s.inn j kc
   subst hvs
   have c1:=hMr.out.arr.cell' hv
   have c2:=hMr.out.arr.frozen kc
   have hrow2:Hid ((wr.alloc (.cells #[.int .i64 (j:Int)] 3)).ownsRow b4 3 1 (.slice Av (membT s.inn j kc).length cv) (membT s.inn j kc).length (I64 (membT s.inn j kc))):=hrow.alloc _
   have hbj:Hid (Below wr.heap.size wr (wr.alloc (.cells #[.int .i64 (j:Int)] 3))):=(Below.refl _ _).alloc (Nat.le_refl _) _
   have hq:=Lib.hid (fun b hb=>(hrow.lt b hb).1)
   have hb4r:b4≤wr.heap.size:=by have:=hgr.size;have:=HB4.out;omega
   clear hrow hkc hv
   generalize hLj:membT s.inn j kc=Lj at *
   have HLJ:=Lib.hid hLj
   clear hLj
   go_wp2_with (at_builtin;go_loud (refine wpList_apS rfl (.tmp 41) (.tmp 43) 28 rfl b4 3 _ 1 _ Tryz.underlying28 infoInt rfl (by decide) _ Lj.length (I64 Lj) rfl hrow2.out ⟨wr.heap.size,0,none⟩ _ [.int .i64 (j:Int)] rfl rfl (cells_new _ _ _) rfl (by unfold maxLen;omega) (by omega) (by simp;omega) ?_;intro v3 w5 hown3 hgr3 hat3;obtain⟨A3,c3,hv3,hc3,hm3⟩:=own_slice hown3;subst hv3;have P3:=arr_row hMr.out.arr hbj.out hgr3 (own_arr (hMr.out.row kc _ HV.out) hMr.out.arr (by decide));have p3:=P3.cell' HV.out;have q3:=P3.frozen kc))
   go_roundw
   case rel=>exact⟨j+1,_,by omega,i64e (by omega),MemI.push hMr.out HV.out (j:Int) hbj.out hgr3 (by rw [HLJ.out];exact hown3) hat3 (membT s.inn (j+1)) (by rw [membT_succ,if_pos HKC.out]) (fun c' hne=>by rw [membT_succ,if_neg (by rw [HKC.out];omega)]),grown_row hgr hbj.out hgr3 (fun b hb=>by rw [HB4.out];exact hq.out b hb) _ _⟩
   case measure=>simp [intOf];omega
end Go.Proofs.YtnnnagnjikdnnaaGreatDoor
namespace Go.Proofs.YtnnnagnjikdnnaaGreatDoor
open Go.RowKit
def ScalC (kind:Int) (text:List Nat) (b:Bool):Prop:=∀w,LibE w→Calls Tryz.prog 84 #[.int .i64 kind,.string (mks text)] w fun e w'=>e=.returned (.bool b)∧Below w.heap.size w w'
theorem by_true:By litTrue:=by intro c hc;simp [litTrue] at hc;omega
theorem by_false:By litFalse:=by intro c hc;simp [litFalse] at hc;omega
set_option maxRecDepth 20000 in
theorem scal_null (text:List Nat):ScalC 0 text text.isEmpty:=fun w _=>by
 go_enter Tryz.func84,Tryz.ntmps84
 go_wp2_with (fail)
 go_ret
 exact⟨rfl,Below.refl _ _⟩
theorem toList_is {a b:List Nat} (ha:By a) (hb:By b):(mks a).toList=u8s b↔a=b:=by
 have h:=eq_mks ha hb
 rw [toList_mks b] at h
 constructor
 ·intro e
  rw [show(mks a).toList=b.map UInt8.ofNat from e] at h
  simpa using h
 ·intro e
  subst e
  exact toList_mks a
set_option maxRecDepth 20000 in
theorem scal_bool (text:List Nat) (ht:By text):ScalC 1 text (decide (text=litTrue∨text=litFalse)):=fun w _=>by
 have h1:(mks text).toList = [116,114,117,101]↔text=litTrue:=toList_is ht by_true
 have h2:(mks text).toList = [102,97,108,115,101]↔text=litFalse:=toList_is ht by_false
 by_cases e1:text=litTrue
 ·have k1:((mks text).toList = [116,114,117,101]):=h1.2 e1
  rw [show decide (text=litTrue∨text=litFalse)=true from decide_eq_true (.inl e1)]
  clear e1 h2 h1
  go_enter Tryz.func84,Tryz.ntmps84
  go_wp2_with (fail)
  go_ret
  exact⟨rfl,Below.refl _ _⟩
 ·have k1:((mks text).toList == [116,114,117,101])=false:=by rw [beq_eq_false_iff_ne];exact fun h=>e1 (h1.1 h)
  have k3:¬((mks text).toList = [116,114,117,101]):=fun h=>e1 (h1.1 h)
  have e2:decide (text=litTrue∨text=litFalse)=decide (text=litFalse):=by simp [e1]
  have k2:((mks text).toList == [102,97,108,115,101])=decide (text=litFalse):=by
   rw [Bool.eq_iff_iff,beq_iff_eq,decide_eq_true_iff];exact h2
  rw [e2]
  clear e1 e2 h1 h2
  generalize decide (text=litFalse)=b at *
  go_enter Tryz.func84,Tryz.ntmps84
  go_wp2_with (fail)
  go_ret
  exact⟨rfl,Below.refl _ _⟩
set_option maxRecDepth 20000 in
theorem scal_text (text:List Nat) (hl:text.length<4294967296):ScalC 5 text (decide (ckErr (checkV text)=0)):=fun w hw=>by
 have D:=Lib.hid (check_any text hl w hw.lib)
 unfold CheckR at D
 generalize ckErr (checkV text)=er at *
 generalize ckAt (checkV text)=ea at *
 go_enter Tryz.func84,Tryz.ntmps84
 go_wp2_with (go_at_call 22;((with_reducible refine D.out.mono ?_));rintro e w1 ⟨rfl,hb⟩)
 go_ret
 exact⟨rfl,hb⟩
set_option maxRecDepth 20000 in
theorem scal_int (text:List Nat) (ht:By text):ScalC 2 text (parseC text).isSome:=fun w _=>by
 have D:=Lib.hid (valid_any text w ht)
 generalize (parseC text).isSome=b at *
 go_enter Tryz.func84,Tryz.ntmps84
 go_wp2_with (go_at_call 111;((with_reducible refine D.out.mono ?_));rintro e w1 ⟨rfl,hb⟩)
 go_ret
 exact⟨rfl,hb⟩
set_option maxRecDepth 20000 in
theorem scal_dec (text:List Nat) (ht:By text) (hl:text.length<4294967295):ScalC 3 text (validD text):=fun w hw=>by
 have D:=Lib.hid (dvalid_any text ht hl w hw)
 generalize validD text=b at *
 go_enter Tryz.func84,Tryz.ntmps84
 go_wp2_with (go_at_call 112;((with_reducible refine D.out.mono ?_));rintro e w1 ⟨rfl,hb⟩)
 go_ret
 exact⟨rfl,hb⟩
def formV (nd:GNode) (b:Bool):Bool:=
 if nd.kind=9 then nd.text.isEmpty && !nd.ord && decide (nd.keys.length=0)
 else if nd.kind=10 then nd.text.isEmpty && decide (nd.keys.length=nd.items.length)
 else !nd.ord && decide (nd.keys.length=0) && decide (nd.items.length=0) && b
set_option maxRecDepth 20000 in
set_option maxHeartbeats 2000000 in
theorem form_any (nd:GNode) (hl:nd.keys.length≤65536) (hl2:nd.items.length≤65536) (h11:nd.kind≠11) (b:Bool) (hb:nd.kind≠9→nd.kind≠10→ScalC nd.kind nd.text b) (K I:Option Addr) (ck ci:Nat) (w:World) (hw:LibE w) :
  Calls Tryz.prog 52 #[.agg #[.int .i64 nd.kind,.string (mks nd.text),.bool nd.ord,.slice K nd.keys.length ck,.slice I nd.items.length ci]] w fun e w'=>e=.returned (.bool (formV nd b))∧Below w.heap.size w w':=by
 have h1:Hid (Arr (w.alloc (.cells #[.int .i64 nd.kind,.string (mks nd.text),.bool nd.ord,.slice K nd.keys.length ck,.slice I nd.items.length ci] 30)) w.heap.size 30 [.int .i64 nd.kind,.string (mks nd.text),.bool nd.ord,.slice K nd.keys.length ck,.slice I nd.items.length ci]):=Arr.new w _ _
 have hB1:Hid (Below w.heap.size w (w.alloc (.cells #[.int .i64 nd.kind,.string (mks nd.text),.bool nd.ord,.slice K nd.keys.length ck,.slice I nd.items.length ci] 30))):=(Below.refl _ _).alloc (Nat.le_refl _) _
 unfold formV
 generalize nd.keys.length=nk at *
 generalize nd.items.length=ni at *
 generalize nd.kind=kd at *
 generalize nd.text=tx at *
 generalize nd.ord=od at *
 generalize hFV:(if kd=9 then tx.isEmpty && !od && decide (nk=0) else if kd=10 then tx.isEmpty && decide (nk=ni) else !od && decide (nk=0) && decide (ni=0) && b)=FV
 have HFV:=Lib.hid hFV
 clear hFV
 go_enter Tryz.func52,Tryz.ntmps52
 go_upto_region 1 with(fail)
 generalize (w.alloc (.cells #[.int .i64 kd,.string (mks tx),.bool od,.slice K nk ck,.slice I ni ci] 30))=W at *
 have x0:=h1.out.cell' (i:=0) rfl
 have x1:=h1.out.cell' (i:=1) rfl
 have x2:=h1.out.cell' (i:=2) rfl
 have x3:=h1.out.cell' (i:=3) rfl
 have x4:=h1.out.cell' (i:=4) rfl
 have hFV:=HFV.out
 clear HFV
 have hte:tx.isEmpty=true∨tx.isEmpty=false:=by cases tx.isEmpty <;> simp
 have kz:((nk:Int) == 0)=decide (nk=0):=by rw [Bool.eq_iff_iff,beq_iff_eq,decide_eq_true_iff];omega
 have iz:((ni:Int) == 0)=decide (ni=0):=by rw [Bool.eq_iff_iff,beq_iff_eq,decide_eq_true_iff];omega
 have kiz:((nk:Int) == (ni:Int))=decide (nk=ni):=by rw [Bool.eq_iff_iff,beq_iff_eq,decide_eq_true_iff];omega
 generalize decide (nk=0)=bk at *
 generalize decide (ni=0)=bi at *
 generalize decide (nk=ni)=bki at *
 by_cases e9:kd=9
 ·subst e9
  rw [if_pos rfl] at hFV
  rcases hte with ht | ht
  ·have hv:FV=(!od && bk):=by rw [←hFV,ht];rfl
   subst hv
   clear hFV
   cases od
   all_goals
    go_wp2_with (fail)
    go_ret
    exact⟨rfl,hB1.out⟩
  ·have hv:FV=false:=by rw [←hFV,ht];rfl
   subst hv
   clear hFV
   go_wp2_with (fail)
   go_ret
   exact⟨rfl,hB1.out⟩
 ·by_cases e10:kd=10
  ·subst e10
   rw [if_neg (by omega),if_pos rfl] at hFV
   rcases hte with ht | ht
   ·have hv:FV=bki:=by rw [←hFV,ht];rfl
    subst hv
    clear hFV
    go_wp2_with (fail)
    go_ret
    exact⟨rfl,hB1.out⟩
   ·have hv:FV=false:=by rw [←hFV,ht];rfl
    subst hv
    clear hFV
    go_wp2_with (fail)
    go_ret
    exact⟨rfl,hB1.out⟩
  ·rw [if_neg e9,if_neg e10] at hFV
   have D:=Lib.hid (hb e9 e10 W (hw.keep hB1.out))
   subst hFV
   cases od
   ·cases bk
    ·go_wp2_with (fail)
     go_ret
     exact⟨rfl,hB1.out⟩
    ·cases bi
     ·go_wp2_with (fail)
      go_ret
      exact⟨rfl,hB1.out⟩
     ·go_wp2_with (go_at_call 84;((with_reducible refine D.out.mono ?_));rintro e w1 ⟨rfl,hb1⟩)
      go_ret
      exact⟨rfl,hB1.out.trans (hb1.mono hB1.out.size)⟩
   ·go_wp2_with (fail)
    go_ret
    exact⟨rfl,hB1.out⟩
end Go.Proofs.YtnnnagnjikdnnaaGreatDoor
