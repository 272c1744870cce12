/- The walk of the closure 'visit' in canon's normal. -/
import Derived.Test.YtnnnagnjikdnnaaGreatDoorMBa
set_option linter.unusedVariables false
set_option linter.unusedSimpArgs false
set_option linter.defProp false
set_option linter.constructorNameAsVariable false
namespace Go.Proofs.YtnnnagnjikdnnaaGreatDoor
open Go.RowKit
set_option maxRecDepth 20000 in
set_option maxHeartbeats 32000000 in
theorem visitN_any {w0:World} {B g o c:Nat} {nodes:List GNode} {root:Int} {e:NmB} (hI:Idx nodes) (hL:NL 65536 nodes) (hN:nodes.length≤4096) (hE:∀k,k<nodes.length→(ndAt nodes k).kind=10→(ndAt nodes k).ord=false→EntOK nodes (ndAt nodes k)) (hM:∀k,k<nodes.length→(ndAt nodes k).kind=10→(ndAt nodes k).keys.length=(ndAt nodes k).items.length) (f:Nat):VisN w0 B g o c nodes root e f:=by
 have HIX:=Lib.hid hI
 have HNL:=Lib.hid hL
 have HEN:=Lib.hid hE
 have HMK:=Lib.hid hM
 clear hI hL hE hM
 induction f with
 | zero=>intro k w R s s' v ncs es hk hS hE hv;cases hv
 | succ f ih=>
  intro k w R s s' v ncs es hk hS hE hv
  have hk0:(0:Int)≤k:=by omega
  have hk1:(k:Int)<nodes.length:=by omega
  have x0:=hE.bat.cell' (i:=0) rfl
  have m0:=hE.am.cell' (I64_getD (l:=s.at_) (k:=k) (by have:=hS.al;omega))
  unfold visitN at hv
  rw [Int.toNat_natCast] at hv
  have HS:=Lib.hid hS
  have HV:=Lib.hid hv
  have hblt:=Lib.hid hE.blt
  have HIH:=Lib.hid ih
  clear hS hv ih
  obtain⟨z,hz⟩:∃z,w.heap.size=z:=⟨_,rfl⟩
  have HZ:=Lib.hid hz
  have hadd:Hid (∀b,addR R z b→B≤b∧b≠e.am∧b≠e.cn):=fun b hb=>by
   rcases hb with hb | hb
   ·exact hE.rl b hb
   ·have h1:=hE.gd.2.1
    obtain⟨_,z2,_,_,_,_,z7,_⟩:=hE.blt
    exact⟨by omega,by omega,by omega⟩
  rw [hz] at hblt
  have HBZ:Hid (B≤z):=by have h1:=hE.gd.2.1;show B≤z;omega
  clear hz
  by_cases h0:0≤s.at_.getD k 0
  ·have hv:=HV.out
   rw [if_pos h0] at hv
   injection hv with hv
   injection hv with hv1 hv2
   have hF:Hid (VNC w0 w B g o c nodes root e R v s' (.returned (.int .i64 (s.at_.getD k 0))) w):=⟨by rw [hv1],ncs,es,by rw [←hv2];exact hE.rows (fun b _ h=>.inl h) (by rw [HZ.out];exact hadd.out),by rw [←hv2];exact HS.out,PStep.refl _ _⟩
   generalize s.at_.getD k 0=av at *
   have h0':(av:Int) ≥ 0:=h0
   clear hv1 hv2 hE HIH HV HS hadd
   go_enter Tryz.func58,Tryz.ntmps58
   go_wp2_with (fail)
   go_ret
   exact hF.out
  ·have hv:=HV.out
   rw [if_neg h0] at hv
   have h0s:s.at_.getD k 0<0:=by omega
   have hes:=HS.out.nil k hk h0s
   have hcn0:0<negs s.at_:=by
    have:=negs_set (l:=s.at_) (k:=k) (v:=0) (by have:=HS.out.al;omega) h0s (by omega)
    omega
   have hcn:s.cnt<nodes.length:=by have:=HS.out.cc;omega
   have hS1:∀u,NmS nodes.length { s with at_:=s.at_.set k (s.cnt:Int),cnt:=s.cnt+1 } (es.set k u):=fun u=>{
    al:=by rw [List.length_set];exact HS.out.al
    ol:=HS.out.ol
    el:=by rw [List.length_set];exact HS.out.el
    nil:=fun j hj hlt=>by
     by_cases ejk:k=j
     ·subst ejk
      have h1:(s.at_.set k (s.cnt:Int)).getD k 0<0:=hlt
      rw [getD_set (by have:=HS.out.al;omega),if_pos rfl] at h1
      omega
     ·have h1:(s.at_.set k (s.cnt:Int)).getD j 0<0:=hlt
      rw [getD_set (by have:=HS.out.al;omega),if_neg ejk] at h1
      rw [List.getElem?_set_ne ejk]
      exact HS.out.nil j hj h1
    cc:=by
     have h1:=negs_set (l:=s.at_) (k:=k) (v:=(s.cnt:Int)) (by have:=HS.out.al;omega) h0s (by omega)
     have h2:=HS.out.cc
     show s.cnt+1+negs (s.at_.set k (s.cnt:Int))≤_
     omega }
   have HS1:=Lib.hid hS1
   clear hS1
   have hE1:Hid (NmE w0 (w.setCell ⟨e.am,k,none⟩ (.int .i64 (s.cnt:Int))) B g o c nodes root e R { s with at_:=s.at_.set k (s.cnt:Int) } ncs es):=hE.set_am k (s.cnt:Int)
   have hP1:Hid (PStep w (w.setCell ⟨e.am,k,none⟩ (.int .i64 (s.cnt:Int))) (NmF e) (NmF e)):=pstep_grown (grown_set _ ⟨e.am,k,none⟩ _) (.inl rfl)
   have q0:=hE.cn.cell' (i:=0) rfl
   have mf:=hE.am.frozen k
   have HAV:Hid (s.at_.getD k 0<0):=h0s
   have hav:¬(s.at_.getD k 0:Int) ≥ 0:=h0
   have HVV:=Lib.hid hv
   generalize s.at_.getD k 0=av at *
   clear hE HV HS hv h0 h0s HAV
   go_enter Tryz.func58,Tryz.ntmps58
   go_upto_region 5 with(fail)
   clear x0 m0 mf q0
   generalize w.setCell ⟨e.am,k,none⟩ (.int .i64 (s.cnt:Int))=w1 at *
   have q0:=hE1.out.cn.cell' (i:=0) rfl
   have qf:=hE1.out.cn.frozen 0
   have hE2:Hid (NmE w0 (w1.setCell ⟨e.cn,0,none⟩ (.int .i64 ((s.cnt+1:Nat):Int))) B g o c nodes root e R { s with at_:=s.at_.set k (s.cnt:Int),cnt:=s.cnt+1 } ncs es):=hE1.out.set_cn (s.cnt+1)
   have hP2:Hid (PStep w (w1.setCell ⟨e.cn,0,none⟩ (.int .i64 ((s.cnt+1:Nat):Int))) (NmF e) (NmF e)):=hP1.out.trans (pstep_grown (grown_set _ ⟨e.cn,0,none⟩ _) (.inr (.inl rfl)))
   have hcn1:(s.cnt:Int)<4096:=by omega
   have hcn2:(0:Int)≤s.cnt:=by omega
   rw [Int.natCast_add,Int.natCast_one] at hE2 hP2
   clear hE1 hP1
   go_upto_region 6 with(fail)
   clear q0 qf
   generalize w1.setCell ⟨e.cn,0,none⟩ (.int .i64 ((s.cnt:Int)+1))=w2 at *
   have g0:=hE2.out.gr.cell' (i:=0) rfl
   go_upto_region 7 with(fail)
   clear g0
   obtain⟨K,ck,I,ci,c0,c1,c2,c3,c4,hK,hI⟩:=hE2.out.gd.of_at hk
   have htx:Hid (mks (ndAt nodes k).text=mks (ndAt nodes k).text):=rfl
   have hidx:=HIX.out k hk
   have hEk:=HEN.out k hk
   have hMk:=HMK.out k hk
   obtain⟨hlk,hli⟩:=HNL.out k hk
   have HEK:=Lib.hid hEk
   have HMk:=Lib.hid hMk
   have HID:=Lib.hid hidx
   clear hidx hEk hMk
   have n2:¬w2.heap.size=g:=by have h1:=hE2.out.gd.1;have h2:=hE2.out.gd.2.1;omega
   have hbz:Below w2.heap.size w2 (w2.alloc (.cells #[.int .i64 0,.string ⟨#[]⟩,.bool false,.slice none 0 0,.slice none 0 0] 30)):=(Below.refl _ _).alloc (Nat.le_refl _) _
   have z0:=(hbz.cell (block_lt_of_cell c0)).trans c0
   have z1:=(hbz.cell (block_lt_of_cell c1)).trans c1
   have z2:=(hbz.cell (block_lt_of_cell c2)).trans c2
   go_region
   clear z0 z1 z2 c0 c1 c2 c3 c4 hK hI hbz htx
   have hMB:Hid (Arr (w2.alloc (.cells #[.int .i64 (ndAt nodes k).kind,.string (mks (ndAt nodes k).text),.bool (ndAt nodes k).ord,.slice none 0 0,.slice none 0 0] 30)).drew w2.heap.size 30 [.int .i64 (ndAt nodes k).kind,.string (mks (ndAt nodes k).text),.bool (ndAt nodes k).ord,.slice none 0 0,.slice none 0 0]):=Arr.new w2 _ _
   have hb3:Below w2.heap.size w2 (w2.alloc (.cells #[.int .i64 (ndAt nodes k).kind,.string (mks (ndAt nodes k).text),.bool (ndAt nodes k).ord,.slice none 0 0,.slice none 0 0] 30)).drew:=((Below.refl _ _).alloc (Nat.le_refl _) _).drew
   have hE3:=Lib.hid (hE2.out.kept hb3)
   have hP3:=Lib.hid (hP2.out.below' hb3)
   have hzmb:z≤w2.heap.size:=by have:=hP2.out.size;have:=HZ.out;omega
   clear hE2 hP2 hb3 n2
   generalize (w2.alloc (.cells #[.int .i64 (ndAt nodes k).kind,.string (mks (ndAt nodes k).text),.bool (ndAt nodes k).ord,.slice none 0 0,.slice none 0 0] 30)).drew=w3 at *
   obtain⟨mb,hmb⟩:∃b,w2.heap.size=b:=⟨_,rfl⟩
   rw [hmb] at hMB hzmb ⊢
   clear hmb
   have hsb:e.sb<z:=hblt.out.2.2.2.2.2.2.2.2.2
   have t0:=hE3.out.tp.cell' (i:=0) rfl
   have D:=Lib.hid (centries_any HNL.out hk HEK.out w3 hE3.out.gd hE3.out.tab hes (hE3.out.lo _ (.inr (.inr (.inr rfl)))))
   go_upto_region 9 with(go_at_call 59;((with_reducible refine D.out.mono ?_));rintro en w4 ⟨ob,rfl,hob1,hob2,hg4,hA4,hR4⟩)
   have hE4:=Lib.hid (hE3.out.set_sb hg4.out hA4.out)
   have hP4:=Lib.hid (hP3.out.trans (pstep_grown hg4.out (.inr (.inr (.inr rfl)))))
   have hMB4:=Lib.hid (hMB.out.grown hg4.out (some_ne (by omega)))
   have hmbo:mb<ob:=by have:=hMB.out.lt;omega
   obtain⟨zz,hzz⟩:∃x,w4.heap.size=x:=⟨_,rfl⟩
   have hC:Hid (NmC w B e R z zz mb ob):={ lt:=hblt.out,add:=hadd.out,hzz:=by omega,hmb:=⟨hzmb,hmbo⟩,hob:=by omega,bz:=HBZ.out,wz:=HZ.out }
   have hL0:Hid (NmL w0 w w4 B g o c nodes root e R z zz mb ob (ndAt nodes k) (entV nodes k) { s with at_:=s.at_.set k (s.cnt:Int),cnt:=s.cnt+1 } ncs (es.set k (.slice (some ⟨ob,0,none⟩) (ndAt nodes k).items.length (ndAt nodes k).items.length)) (.slice none 0 0) (.slice none 0 0) [] []):={
    st:=hE4.out.rows (fun b _ h=>⟨.inl h,(by simp [Value.ownBlock]),(by simp [Value.ownBlock])⟩) (fun b hb=>hadd.out b hb.1)
    sc:=HS1.out _
    mb:=hMB4.out
    rk:=World.ownsRow_nil _ _ _ _
    ri:=World.ownsRow_nil _ _ _ _
    ne:=fun b hb=>by cases hb
    rd:=hR4.out
    ps:=hP4.out
    hz:=Nat.le_of_eq hzz.symm }
   have hxl:Hid ((entV nodes k).length=(ndAt nodes k).items.length):=entV_len nodes k
   have hxi:Hid (InR (ndAt nodes k).items.length (entV nodes k)):=entV_in nodes k
   clear t0 D hE3 hP3 hMB hg4 hA4 hR4 hE4 hP4 hMB4 hob1 hob2 hzz HEK hes HS1 hav hcn0
   generalize (es.set k (.slice (some ⟨ob,0,none⟩) (ndAt nodes k).items.length (ndAt nodes k).items.length))=es4 at *
   generalize hxs:entV nodes k=xs at *
   clear hxs
   obtain⟨m,hm⟩:∃m,(ndAt nodes k).items.length=m:=⟨_,rfl⟩
   have HM:=Lib.hid hm
   rw [hm] at hxl hxi hli ⊢
   clear hm
   obtain⟨LR,hLR⟩:∃r,loopN (visitN nodes (entV nodes) f) (ndAt nodes k) xs ([],[],{ s with at_:=s.at_.set k (s.cnt:Int),cnt:=s.cnt+1 })=r:=⟨_,rfl⟩
   rw [hLR] at HVV
   cases LR with
   | none=>exact absurd HVV.out (by simp)
   | some LR=>
    have hl0:Hid (loopN (visitN nodes (entV nodes) f) (ndAt nodes k) (xs.drop 0) ([],[],{ s with at_:=s.at_.set k (s.cnt:Int),cnt:=s.cnt+1 })=some LR):=by rw [List.drop_zero];exact hLR
    clear hLR
    generalize hs0:({ s with at_:=s.at_.set k (s.cnt:Int),cnt:=s.cnt+1 }:NSt)=s0 at *
    clear hs0
    go_loopw [51] (fun v' wr=>∃(i:Nat) (ks is:List Int) (st1:NSt) (ncs1 es1:List Value) (vk vi:Value),i≤m∧v'=.int .i64 (i:Int)∧Hid (NmL w0 w wr B g o c nodes root e R z zz mb ob (ndAt nodes k) xs st1 ncs1 es1 vk vi ks is)∧Hid (loopN (visitN nodes (entV nodes) f) (ndAt nodes k) (xs.drop i) (ks,is,st1)=some LR)∧ks.length≤i∧is.length≤i) (fun v' _=>m - (intOf v').toNat)
    case atStart=>exact⟨0,[],[],s0,ncs,es4,.slice none 0 0,.slice none 0 0,Nat.zero_le _,rfl,hL0,hl0,Nat.le_refl _,Nat.le_refl _⟩
    case round=>
     clear hL0 hl0
     obtain⟨i,ks,is,st1,ncs1,es1,vk,vi,hi,rfl,HL,HLN,hkl,hil⟩:=hrel
     by_cases him:i=m
     ·obtain rfl:i=m:=him
      have hi':¬(i:Int)<i:=by omega
      have hln:=HLN.out
      rw [List.drop_of_length_le (by have:=hxl.out;omega)] at hln
      injection hln with hln
      have hvv:=HVV.out
      rw [←hln] at hvv
      injection hvv with hvv
      injection hvv with hvv1 hvv2
      obtain⟨vkA,vkc,hvk,hKr⟩:=own_ints (F:=addR R z) HL.out.rk (fun b hb=>.inr (Nat.le_trans hC.out.hzz (HL.out.rk.lt b hb).1))
      obtain⟨viA,vic,hvi,hIr⟩:=own_ints (F:=addR R z) HL.out.ri (fun b hb=>.inr (Nat.le_trans hC.out.hzz (HL.out.ri.lt b hb).1))
      subst hvk hvi
      have hncl:ncs1.length=nodes.length*5:=by rw [HL.out.st.rd.1,HL.out.sc.ol]
      have hE9:NmE w0 wr B g o c nodes root e (addR R z) st1 ncs1 es1:=HL.out.st.rows (fun b _ hb=>hb.1) hC.out.add
      have hF:Hid (VNC w0 w B g o c nodes root e R v s' (.returned (.int .i64 (s.cnt:Int))) (wr.setCells e.om (s.cnt*5) [.int .i64 (ndAt nodes k).kind,.string (mks (ndAt nodes k).text),.bool (ndAt nodes k).ord,.slice vkA ks.length vkc,.slice viA is.length vic])):=by
       refine⟨by rw [hvv1],setL ncs1 (s.cnt*5) [.int .i64 (ndAt nodes k).kind,.string (mks (ndAt nodes k).text),.bool (ndAt nodes k).ord,.slice vkA ks.length vkc,.slice viA is.length vic],es1,?_,?_,HL.out.ps.trans (pstep_grown (r:=e.om) ⟨(same_setCells _ _ _ _).1,(same_setCells _ _ _ _).2.1,(same_setCells _ _ _ _).2.2,by rw [size_setCells];exact Nat.le_refl _,fun j _ hj=>heap_setCells _ _ _ _ (fun h=>hj (by rw [h]))⟩ (.inr (.inr (.inl rfl))))⟩
       ·rw [←hvv2,HZ.out]
        exact hE9.set_om (by rw [HL.out.sc.ol];exact hcn) ⟨vkA,_,vkc,viA,_,vic,rfl,hKr,hIr⟩
       ·rw [←hvv2]
        exact⟨HL.out.sc.al,by show(st1.out.set _ _).length=_;rw [List.length_set];exact HL.out.sc.ol,HL.out.sc.el,HL.out.sc.nil,HL.out.sc.cc⟩
      have o0:=HL.out.st.ou.cell' (i:=0) rfl
      have n0:=HL.out.mb.cell' (i:=0) rfl
      have n1:=HL.out.mb.cell' (i:=1) rfl
      have n2:=HL.out.mb.cell' (i:=2) rfl
      have n3:=HL.out.mb.cell' (i:=3) rfl
      have n4:=HL.out.mb.cell' (i:=4) rfl
      obtain⟨u0,hu0⟩:∃u,ncs1[s.cnt*5]? = some u:=⟨_,List.getElem?_eq_getElem (by omega)⟩
      obtain⟨u1,hu1⟩:∃u,ncs1[s.cnt*5+1]? = some u:=⟨_,List.getElem?_eq_getElem (by omega)⟩
      obtain⟨u2,hu2⟩:∃u,ncs1[s.cnt*5+2]? = some u:=⟨_,List.getElem?_eq_getElem (by omega)⟩
      obtain⟨u3,hu3⟩:∃u,ncs1[s.cnt*5+3]? = some u:=⟨_,List.getElem?_eq_getElem (by omega)⟩
      obtain⟨u4,hu4⟩:∃u,ncs1[s.cnt*5+4]? = some u:=⟨_,List.getElem?_eq_getElem (by omega)⟩
      have e0:=HL.out.st.om.cell' hu0
      have e1:=HL.out.st.om.cell' hu1
      have e2:=HL.out.st.om.cell' hu2
      have e3:=HL.out.st.om.cell' hu3
      have e4:=HL.out.st.om.cell' hu4
      have f0:=HL.out.st.om.frozen (s.cnt*5)
      have f1:=HL.out.st.om.frozen (s.cnt*5+1)
      have f2:=HL.out.st.om.frozen (s.cnt*5+2)
      have f3:=HL.out.st.om.frozen (s.cnt*5+3)
      have f4:=HL.out.st.om.frozen (s.cnt*5+4)
      have hcl:(s.cnt:Int)<nodes.length:=by omega
      clear hu0 hu1 hu2 hu3 hu4 hln hvv1 hvv2 HLN HL hE9 hKr hIr HVV hncl
      go_wp2_with (fail)
      go_ret
      exact hF.out
     ·have hi':(i:Int)<m:=by omega
      have i0:(0:Int)≤i:=by omega
      obtain⟨a,hxa,ham⟩:=InR_get hxi.out (k:=i) (by have:=hxl.out;omega)
      have a0:(0:Int)≤a:=by omega
      obtain⟨ad0,had0,hca⟩:=HL.out.rd.at_ (I64_get hxa)
      obtain rfl:=Option.some.inj had0
      rw [Addr.add_mid,Nat.zero_add] at hca
      obtain⟨K,ckk,I,cik,c0,_,_,hck,_,⟨hKr,hKb⟩,_⟩:=HL.out.st.gd.of_at hk
      have hln:=HLN.out
      rw [drop_cons_at hxa] at hln
      unfold loopN at hln
      rw [Int.toNat_natCast] at hln
      obtain⟨y,hy⟩:∃y,(ndAt nodes k).items[a]? = some y:=⟨_,List.getElem?_eq_getElem (by have:=HM.out;omega)⟩
      have hyr:=HID.out y (by unfold refs;exact List.mem_append.2 (.inr (List.mem_of_getElem? hy)))
      have hyd:(ndAt nodes k).items.getD a 0=y:=by rw [List.getD_eq_getElem?_getD,hy];rfl
      obtain⟨iy,rfl⟩:∃iy:Nat,y=(iy:Int):=⟨y.toNat,by omega⟩
      have hkyi:iy<nodes.length:=by omega
      rw [hyd] at hln
      have HY:=Lib.hid hy
      have a1:(a:Int)<m:=by omega
      have y0:(0:Int)≤iy:=by omega
      have y1:(iy:Int)<nodes.length:=by omega
      clear hy hyr hyd hxa
      by_cases hkd:(ndAt nodes k).kind=10
      ·rw [if_pos hkd] at hln
       have hkle:=HMk.out hkd
       obtain⟨yk,hyk⟩:∃y,(ndAt nodes k).keys[a]? = some y:=⟨_,List.getElem?_eq_getElem (by have:=HM.out;omega)⟩
       have hykr:=HID.out yk (by unfold refs;exact List.mem_append.2 (.inl (List.mem_of_getElem? hyk)))
       have hykd:(ndAt nodes k).keys.getD a 0=yk:=by rw [List.getD_eq_getElem?_getD,hyk];rfl
       obtain⟨ky,rfl⟩:∃ky:Nat,yk=(ky:Int):=⟨yk.toNat,by omega⟩
       have hkyk:ky<nodes.length:=by omega
       rw [hykd] at hln
       obtain⟨adk,rfl,hek⟩:=hKr.at_ (I64_get hyk)
       have hlkb:=hKb _ rfl
       have hkm':(ndAt nodes k).keys.length=m:=hkle.trans HM.out
       rw [hkm'] at hck
       cases hvk':visitN nodes (entV nodes) f (ky:Int) st1 with
       | none=>rw [hvk'] at hln;cases hln
       | some p=>
        obtain⟨kv,st2⟩:=p
        rw [hvk'] at hln
        have hvk:=Lib.hid hvk'
        have hln5:Hid ((match visitN nodes (entV nodes) f (iy:Int) st2 with | none=>none | some (i',s'')=>loopN (visitN nodes (entV nodes) f) (ndAt nodes k) (xs.drop (i+1)) (ks ++ [kv],is ++ [i'],s''))=some LR):=hln
        rw [hkd] at c0
        clear hln hvk' hKr hKb hyk hykr hykd hkle hkm' hkd
        obtain⟨lk,hlk⟩:∃x,m=x:=⟨_,rfl⟩
        rw [hlk] at hck
        have a1k:(a:Int)<lk:=by omega
        have k0':(0:Int)≤ky:=by omega
        have k1':(ky:Int)<nodes.length:=by omega
        clear hlk
        obtain⟨Avk,cvk,hvvk,hvck,hvmk⟩:=own_slice HL.out.rk
        subst hvvk
        have v0:wr.drew.cell? ⟨e.vi,0,none⟩=some (.func (.func 58) #[] #[.pointer (some ⟨e.bat,0,none⟩),.pointer (some ⟨e.cn,0,none⟩),.pointer (some ⟨e.gr,0,none⟩),.pointer (some ⟨e.tp,0,none⟩),.pointer (some ⟨e.vi,0,none⟩),.pointer (some ⟨e.ou,0,none⟩)]):=HL.out.st.vi.cell' (i:=0) rfl
        have y3:wr.drew.cell? ⟨g,o+k*5+3,none⟩=some (.slice (some adk) lk ckk):=hck
        have ya:wr.drew.cell? (adk.add a)=some (.int .i64 (ky:Int)):=hek
        have m3:wr.drew.cell? ⟨mb,3,none⟩=some (.slice Avk ks.length cvk):=HL.out.mb.cell' (i:=3) rfl
        have D:=Lib.hid (HIH.out ky wr.drew _ st1 st2 kv ncs1 es1 hkyk HL.out.sc (HL.out.st.kept (Below.refl _ _).drew) hvk.out)
        have hvlo:∀b,(Value.slice Avk ks.length cvk).ownBlock=some b→zz≤b:=fun b h=>(HL.out.rk.lt b h).1
        have hkm:ks.length≤65536:=by omega
        have hzs:zz≤wr.heap.size:=HL.out.hz
        have Hn:Hid (mb≠e.vi∧mb≠g∧mb≠(adk.add a).block):=⟨by have:=hblt.out.2.2.2.2.1;omega,by have:=HL.out.st.gd.1;have:=HBZ.out;omega,by rw [blk_add];have:=hlkb;have:=HBZ.out;omega⟩
        have Hm:Hid (¬NmF e e.vi∧¬NmF e g∧¬NmF e (adk.add a).block∧¬NmF e mb):=⟨HL.out.st.fr.2.2.2.1,fun h=>by have h1:=HL.out.st.lo _ h;have h2:=HL.out.st.gd.1;omega,fun h=>by have h1:=HL.out.st.lo _ h;rw [blk_add] at h1;have:=hlkb;omega,hblt.out.nf hzmb⟩
        have Hk:Hid (some e.vi≠(Value.slice Avk ks.length cvk).ownBlock∧some g≠(Value.slice Avk ks.length cvk).ownBlock∧some (adk.add a).block≠(Value.slice Avk ks.length cvk).ownBlock∧some mb≠(Value.slice Avk ks.length cvk).ownBlock):=⟨fun h=>by have:=hvlo _ h.symm;have:=hblt.out.2.2.2.2.1;have:=hC.out.hzz;omega,fun h=>by have:=hvlo _ h.symm;have:=HL.out.st.gd.1;have:=HBZ.out;have:=hC.out.hzz;omega,fun h=>by have h1:=hvlo _ h.symm;rw [blk_add] at h1;have:=hlkb;have:=HBZ.out;have:=hC.out.hzz;omega,fun h=>by have:=hvlo _ h.symm;have:=hC.out.hob;omega⟩
        clear hvlo hck hek hvmk hlkb
        go_upto_region 12 with(fail)
        rw [mload_eq 28 (.tmp 60)]
        go_region_held3 (fun w'=>w'.cell? ⟨e.vi,0,none⟩=some (.func (.func 58) #[] #[.pointer (some ⟨e.bat,0,none⟩),.pointer (some ⟨e.cn,0,none⟩),.pointer (some ⟨e.gr,0,none⟩),.pointer (some ⟨e.tp,0,none⟩),.pointer (some ⟨e.vi,0,none⟩),.pointer (some ⟨e.ou,0,none⟩)])∧w'.cell? ⟨g,o+k*5+3,none⟩=some (.slice (some adk) lk ckk)∧w'.cell? (adk.add a)=some (.int .i64 (ky:Int))) (first | exact⟨by assumption,by assumption,by assumption⟩ | exact⟨(World.cell?_setCell_far _ _ _ _ Hn.out.1).trans (by assumption),(World.cell?_setCell_far _ _ _ _ Hn.out.2.1).trans (by assumption),(World.cell?_setCell_far _ _ _ _ Hn.out.2.2).trans (by assumption)⟩ | go_keep)
         (first
          | (go_at_call 58;((with_reducible refine D.out.mono ?_));rintro en w7 ⟨rfl,ncs9,es9,hE7,hS7,hP7⟩;have d1:=hP7.cell v0 Hm.out.1;have d2:=hP7.cell y3 Hm.out.2.1;have d3:=hP7.cell ya Hm.out.2.2.1;have d4:=hP7.cell m3 Hm.out.2.2.2;have hbA:Hid (Below w7.heap.size w7 (w7.alloc (.cells #[.int .i64 kv] 3))):=(Below.refl _ _).alloc (Nat.le_refl _) _;have x1:=(hbA.out.cell (block_lt_of_cell d1)).trans d1;have x2:=(hbA.out.cell (block_lt_of_cell d2)).trans d2;have x3:=(hbA.out.cell (block_lt_of_cell d3)).trans d3;have x4:=(hbA.out.cell (block_lt_of_cell d4)).trans d4;have hM7:Hid (Arr (w7.alloc (.cells #[.int .i64 kv] 3)) mb 30 _):=(PStep.arr (w:=wr.drew) hP7 HL.out.mb Hm.out.2.2.2).keep hbA.out;have hr7:Hid (w7.ownsRow zz 3 1 (.slice Avk ks.length cvk) ks.length (I64 ks)):=own_same HL.out.rk (fun b hb=>hP7.keep b (HL.out.rk.lt b hb).2 (hblt.out.nf (Nat.le_trans hC.out.hzz (HL.out.rk.lt b hb).1)));have hzs7:zz≤w7.heap.size:=Nat.le_trans hzs hP7.size)
          | (refine step_apS rfl (.tmp 61) (.tmp 71) 28 rfl zz 3 _ 1 _ Tryz.underlying28 infoInt rfl (by decide) _ ks.length (I64 ks) rfl (hr7.out.alloc _) ⟨w7.heap.size,0,none⟩ _ [.int .i64 kv] rfl rfl (cells_new _ _ _) rfl (by unfold maxLen;omega) (by omega) (by simp;omega) ?_;intro v8 w8 hown8 hgr8 hat8;obtain⟨A8,c8,hv8,hc8a,hc8b⟩:=own_slice hown8;subst hv8;have z1:=hgr8.cell x1 Hk.out.1;have z2:=hgr8.cell x2 Hk.out.2.1;have z3:=hgr8.cell x3 Hk.out.2.2.1;have z4:=hgr8.cell x4 Hk.out.2.2.2;have q8:=(hM7.out.grown hgr8 Hk.out.2.2.2).frozen 3))
        all_goals
         have hat9:(Value.slice A8 (ks.length+1) c8).ownBlock=(Value.slice Avk ks.length cvk).ownBlock∨(Value.slice A8 (ks.length+1) c8).ownBlock=some (w7.alloc (.cells #[.int .i64 kv] 3)).heap.size:=hat8
         have HLN9:=Lib.hid (HL.out.push_k hC.out hE7.out hS7.out ((PStep.of_below (Below.refl wr.heap.size wr).drew).trans hP7) (.cells #[.int .i64 kv] 3) hown8 hgr8 hat9)
         rename_i hheld
         clear hheld hc8a hc8b
         clear hat9 hat8 hgr8 hown8 z1 z2 z3 z4 q8 x1 x2 x3 x4 d1 d2 d3 d4 hM7 hr7 hzs7 hbA hE7 hS7 hP7 v0 y3 ya m3 D Hn Hm Hk hzs
         generalize w8.setCell ⟨mb,3,none⟩ (.slice A8 (ks.length+1) c8)=wn9 at HLN9 ⊢
         generalize Value.slice A8 (ks.length+1) c8=vxk at HLN9 ⊢
         generalize w7.heap.size=hsk at HLN9 ⊢
         clear w7 w8 A8 c8
         clear hca c0 hvk a1k k0' k1'
         have hkl5:(ks ++ [kv]).length≤i+1:=by simp;omega
         generalize ks ++ [kv]=ks5 at *
         cases hvi':visitN nodes (entV nodes) f (iy:Int) st2 with
         | none=>have h:=hln5.out;rw [hvi'] at h;cases h
         | some p=>
          obtain⟨iv,st6⟩:=p
          have hln6:Hid (loopN (visitN nodes (entV nodes) f) (ndAt nodes k) (xs.drop (i+1)) (ks5,is ++ [iv],st6)=some LR):=by have h:=hln5.out;rw [hvi'] at h;exact h
          have hvi:=Lib.hid hvi'
          clear hvi' hln5
          obtain⟨_,_,I5,cik,_,_,_,_,hci,_,hIr,hIb⟩:=HLN9.out.st.gd.of_at hk
          obtain⟨adi,rfl,hei⟩:=hIr.at_ (I64_get HY.out)
          have hlib:=hIb _ rfl
          rw [HM.out] at hci
          obtain⟨li,hli'⟩:∃x,m=x:=⟨_,rfl⟩
          rw [hli'] at hci
          have a1i:(a:Int)<li:=by omega
          clear hIr hIb hli'
          obtain⟨Avi,cvi,hvvi,hvci,hvmi⟩:=own_slice HLN9.out.ri
          subst hvvi
          have v0:wn9.drew.cell? ⟨e.vi,0,none⟩=some (.func (.func 58) #[] #[.pointer (some ⟨e.bat,0,none⟩),.pointer (some ⟨e.cn,0,none⟩),.pointer (some ⟨e.gr,0,none⟩),.pointer (some ⟨e.tp,0,none⟩),.pointer (some ⟨e.vi,0,none⟩),.pointer (some ⟨e.ou,0,none⟩)]):=HLN9.out.st.vi.cell' (i:=0) rfl
          have y3:wn9.drew.cell? ⟨g,o+k*5+4,none⟩=some (.slice (some adi) li cik):=hci
          have ya:wn9.drew.cell? (adi.add a)=some (.int .i64 (iy:Int)):=hei
          have m3:wn9.drew.cell? ⟨mb,4,none⟩=some (.slice Avi is.length cvi):=HLN9.out.mb.cell' (i:=4) rfl
          have D:=Lib.hid (HIH.out iy wn9.drew _ st2 st6 iv ncs9 es9 hkyi HLN9.out.sc (HLN9.out.st.kept (Below.refl _ _).drew) hvi.out)
          have hvlo:∀b,(Value.slice Avi is.length cvi).ownBlock=some b→zz≤b:=fun b h=>(HLN9.out.ri.lt b h).1
          have hkm:is.length≤65536:=by omega
          have hzs:zz≤wn9.heap.size:=HLN9.out.hz
          have Hn:Hid (mb≠e.vi∧mb≠g∧mb≠(adi.add a).block):=⟨by have:=hblt.out.2.2.2.2.1;omega,by have:=HLN9.out.st.gd.1;have:=HBZ.out;omega,by rw [blk_add];have:=hlib;have:=HBZ.out;omega⟩
          have Hm:Hid (¬NmF e e.vi∧¬NmF e g∧¬NmF e (adi.add a).block∧¬NmF e mb):=⟨HLN9.out.st.fr.2.2.2.1,fun h=>by have h1:=HLN9.out.st.lo _ h;have h2:=HLN9.out.st.gd.1;omega,fun h=>by have h1:=HLN9.out.st.lo _ h;rw [blk_add] at h1;have:=hlib;omega,hblt.out.nf hzmb⟩
          have Hk:Hid (some e.vi≠(Value.slice Avi is.length cvi).ownBlock∧some g≠(Value.slice Avi is.length cvi).ownBlock∧some (adi.add a).block≠(Value.slice Avi is.length cvi).ownBlock∧some mb≠(Value.slice Avi is.length cvi).ownBlock):=⟨fun h=>by have:=hvlo _ h.symm;have:=hblt.out.2.2.2.2.1;have:=hC.out.hzz;omega,fun h=>by have:=hvlo _ h.symm;have:=HLN9.out.st.gd.1;have:=HBZ.out;have:=hC.out.hzz;omega,fun h=>by have h1:=hvlo _ h.symm;rw [blk_add] at h1;have:=hlib;have:=HBZ.out;have:=hC.out.hzz;omega,fun h=>by have:=hvlo _ h.symm;have:=hC.out.hob;omega⟩
          clear hvlo hci hei hvmi hlib
          go_upto_region 13 with(fail)
          rw [mload_eq 28 (.tmp 74)]
          go_region_held3 (fun w'=>w'.cell? ⟨e.vi,0,none⟩=some (.func (.func 58) #[] #[.pointer (some ⟨e.bat,0,none⟩),.pointer (some ⟨e.cn,0,none⟩),.pointer (some ⟨e.gr,0,none⟩),.pointer (some ⟨e.tp,0,none⟩),.pointer (some ⟨e.vi,0,none⟩),.pointer (some ⟨e.ou,0,none⟩)])∧w'.cell? ⟨g,o+k*5+4,none⟩=some (.slice (some adi) li cik)∧w'.cell? (adi.add a)=some (.int .i64 (iy:Int))) (first | exact⟨by assumption,by assumption,by assumption⟩ | exact⟨(World.cell?_setCell_far _ _ _ _ Hn.out.1).trans (by assumption),(World.cell?_setCell_far _ _ _ _ Hn.out.2.1).trans (by assumption),(World.cell?_setCell_far _ _ _ _ Hn.out.2.2).trans (by assumption)⟩ | go_keep)
           (first
            | (go_at_call 58;((with_reducible refine D.out.mono ?_));rintro en w7 ⟨rfl,ncs7,es7,hE7,hS7,hP7⟩;have d1:=hP7.cell v0 Hm.out.1;have d2:=hP7.cell y3 Hm.out.2.1;have d3:=hP7.cell ya Hm.out.2.2.1;have d4:=hP7.cell m3 Hm.out.2.2.2;have hbA:Hid (Below w7.heap.size w7 (w7.alloc (.cells #[.int .i64 iv] 3))):=(Below.refl _ _).alloc (Nat.le_refl _) _;have x1:=(hbA.out.cell (block_lt_of_cell d1)).trans d1;have x2:=(hbA.out.cell (block_lt_of_cell d2)).trans d2;have x3:=(hbA.out.cell (block_lt_of_cell d3)).trans d3;have x4:=(hbA.out.cell (block_lt_of_cell d4)).trans d4;have hM7:Hid (Arr (w7.alloc (.cells #[.int .i64 iv] 3)) mb 30 _):=(PStep.arr (w:=wn9.drew) hP7 HLN9.out.mb Hm.out.2.2.2).keep hbA.out;have hr7:Hid (w7.ownsRow zz 3 1 (.slice Avi is.length cvi) is.length (I64 is)):=own_same HLN9.out.ri (fun b hb=>hP7.keep b (HLN9.out.ri.lt b hb).2 (hblt.out.nf (Nat.le_trans hC.out.hzz (HLN9.out.ri.lt b hb).1)));have hzs7:zz≤w7.heap.size:=Nat.le_trans hzs hP7.size)
            | (refine step_apS rfl (.tmp 75) (.tmp 85) 28 rfl zz 3 _ 1 _ Tryz.underlying28 infoInt rfl (by decide) _ is.length (I64 is) rfl (hr7.out.alloc _) ⟨w7.heap.size,0,none⟩ _ [.int .i64 iv] rfl rfl (cells_new _ _ _) rfl (by unfold maxLen;omega) (by omega) (by simp;omega) ?_;intro v8 w8 hown8 hgr8 hat8;obtain⟨A8,c8,hv8,hc8a,hc8b⟩:=own_slice hown8;subst hv8;have z1:=hgr8.cell x1 Hk.out.1;have z2:=hgr8.cell x2 Hk.out.2.1;have z3:=hgr8.cell x3 Hk.out.2.2.1;have z4:=hgr8.cell x4 Hk.out.2.2.2;have q8:=(hM7.out.grown hgr8 Hk.out.2.2.2).frozen 4))
          all_goals
           have hat9:(Value.slice A8 (is.length+1) c8).ownBlock=(Value.slice Avi is.length cvi).ownBlock∨(Value.slice A8 (is.length+1) c8).ownBlock=some (w7.alloc (.cells #[.int .i64 iv] 3)).heap.size:=hat8
           have HL9:=Lib.hid (HLN9.out.push_i hC.out hE7.out hS7.out ((PStep.of_below (Below.refl wn9.heap.size wn9).drew).trans hP7) (.cells #[.int .i64 iv] 3) hown8 hgr8 hat9)
           rename_i hheld
           clear hheld hc8a hc8b
           clear hat9 hat8 hgr8 hown8 z1 z2 z3 z4 q8 x1 x2 x3 x4 d1 d2 d3 d4 hM7 hr7 hzs7 hbA hE7 hS7 hP7 v0 y3 ya m3 D Hn Hm Hk hzs
           generalize w8.setCell ⟨mb,4,none⟩ (.slice A8 (is.length+1) c8)=w9 at HL9 ⊢
           generalize Value.slice A8 (is.length+1) c8=vx9 at HL9 ⊢
           generalize w7.heap.size=hs7 at HL9 ⊢
           clear w7 w8 A8 c8
           have hil5:(is ++ [iv]).length≤i+1:=by simp;omega
           clear hvi a1i
           generalize is ++ [iv]=is5 at *
           go_wp2_with (fail)
           go_roundw
           case rel=>exact⟨i+1,ks5,is5,st6,ncs7,es7,_,_,by omega,i64e (by omega),HL9,hln6,hkl5,hil5⟩
           case measure=>simp [intOf];omega
      ·rw [if_neg hkd] at hln
       have hln5:Hid ((match visitN nodes (entV nodes) f (iy:Int) st1 with | none=>none | some (i',s'')=>loopN (visitN nodes (entV nodes) f) (ndAt nodes k) (xs.drop (i+1)) (ks,is ++ [i'],s''))=some LR):=hln
       have hk2:((ndAt nodes k).kind == 10)=false:=by simpa using hkd
       have hkl5:ks.length≤i+1:=by omega
       clear hln hKr hKb hck hkd
       cases hvi':visitN nodes (entV nodes) f (iy:Int) st1 with
       | none=>have h:=hln5.out;rw [hvi'] at h;cases h
       | some p=>
        obtain⟨iv,st6⟩:=p
        have hln6:Hid (loopN (visitN nodes (entV nodes) f) (ndAt nodes k) (xs.drop (i+1)) (ks,is ++ [iv],st6)=some LR):=by have h:=hln5.out;rw [hvi'] at h;exact h
        have hvi:=Lib.hid hvi'
        clear hvi' hln5
        obtain⟨_,_,I5,cik,_,_,_,_,hci,_,hIr,hIb⟩:=HL.out.st.gd.of_at hk
        obtain⟨adi,rfl,hei⟩:=hIr.at_ (I64_get HY.out)
        have hlib:=hIb _ rfl
        rw [HM.out] at hci
        obtain⟨li,hli'⟩:∃x,m=x:=⟨_,rfl⟩
        rw [hli'] at hci
        have a1i:(a:Int)<li:=by omega
        clear hIr hIb hli'
        obtain⟨Avi,cvi,hvvi,hvci,hvmi⟩:=own_slice HL.out.ri
        subst hvvi
        have v0:wr.drew.cell? ⟨e.vi,0,none⟩=some (.func (.func 58) #[] #[.pointer (some ⟨e.bat,0,none⟩),.pointer (some ⟨e.cn,0,none⟩),.pointer (some ⟨e.gr,0,none⟩),.pointer (some ⟨e.tp,0,none⟩),.pointer (some ⟨e.vi,0,none⟩),.pointer (some ⟨e.ou,0,none⟩)]):=HL.out.st.vi.cell' (i:=0) rfl
        have y3:wr.drew.cell? ⟨g,o+k*5+4,none⟩=some (.slice (some adi) li cik):=hci
        have ya:wr.drew.cell? (adi.add a)=some (.int .i64 (iy:Int)):=hei
        have m3:wr.drew.cell? ⟨mb,4,none⟩=some (.slice Avi is.length cvi):=HL.out.mb.cell' (i:=4) rfl
        have D:=Lib.hid (HIH.out iy wr.drew _ st1 st6 iv ncs1 es1 hkyi HL.out.sc (HL.out.st.kept (Below.refl _ _).drew) hvi.out)
        have hvlo:∀b,(Value.slice Avi is.length cvi).ownBlock=some b→zz≤b:=fun b h=>(HL.out.ri.lt b h).1
        have hkm:is.length≤65536:=by omega
        have hzs:zz≤wr.heap.size:=HL.out.hz
        have Hn:Hid (mb≠e.vi∧mb≠g∧mb≠(adi.add a).block):=⟨by have:=hblt.out.2.2.2.2.1;omega,by have:=HL.out.st.gd.1;have:=HBZ.out;omega,by rw [blk_add];have:=hlib;have:=HBZ.out;omega⟩
        have Hm:Hid (¬NmF e e.vi∧¬NmF e g∧¬NmF e (adi.add a).block∧¬NmF e mb):=⟨HL.out.st.fr.2.2.2.1,fun h=>by have h1:=HL.out.st.lo _ h;have h2:=HL.out.st.gd.1;omega,fun h=>by have h1:=HL.out.st.lo _ h;rw [blk_add] at h1;have:=hlib;omega,hblt.out.nf hzmb⟩
        have Hk:Hid (some e.vi≠(Value.slice Avi is.length cvi).ownBlock∧some g≠(Value.slice Avi is.length cvi).ownBlock∧some (adi.add a).block≠(Value.slice Avi is.length cvi).ownBlock∧some mb≠(Value.slice Avi is.length cvi).ownBlock):=⟨fun h=>by have:=hvlo _ h.symm;have:=hblt.out.2.2.2.2.1;have:=hC.out.hzz;omega,fun h=>by have:=hvlo _ h.symm;have:=HL.out.st.gd.1;have:=HBZ.out;have:=hC.out.hzz;omega,fun h=>by have h1:=hvlo _ h.symm;rw [blk_add] at h1;have:=hlib;have:=HBZ.out;have:=hC.out.hzz;omega,fun h=>by have:=hvlo _ h.symm;have:=hC.out.hob;omega⟩
        clear hvlo hci hei hvmi hlib
        go_upto_region 13 with(fail)
        rw [mload_eq 28 (.tmp 74)]
        go_region_held3 (fun w'=>w'.cell? ⟨e.vi,0,none⟩=some (.func (.func 58) #[] #[.pointer (some ⟨e.bat,0,none⟩),.pointer (some ⟨e.cn,0,none⟩),.pointer (some ⟨e.gr,0,none⟩),.pointer (some ⟨e.tp,0,none⟩),.pointer (some ⟨e.vi,0,none⟩),.pointer (some ⟨e.ou,0,none⟩)])∧w'.cell? ⟨g,o+k*5+4,none⟩=some (.slice (some adi) li cik)∧w'.cell? (adi.add a)=some (.int .i64 (iy:Int))) (first | exact⟨by assumption,by assumption,by assumption⟩ | exact⟨(World.cell?_setCell_far _ _ _ _ Hn.out.1).trans (by assumption),(World.cell?_setCell_far _ _ _ _ Hn.out.2.1).trans (by assumption),(World.cell?_setCell_far _ _ _ _ Hn.out.2.2).trans (by assumption)⟩ | go_keep)
         (first
          | (go_at_call 58;((with_reducible refine D.out.mono ?_));rintro en w7 ⟨rfl,ncs7,es7,hE7,hS7,hP7⟩;have d1:=hP7.cell v0 Hm.out.1;have d2:=hP7.cell y3 Hm.out.2.1;have d3:=hP7.cell ya Hm.out.2.2.1;have d4:=hP7.cell m3 Hm.out.2.2.2;have hbA:Hid (Below w7.heap.size w7 (w7.alloc (.cells #[.int .i64 iv] 3))):=(Below.refl _ _).alloc (Nat.le_refl _) _;have x1:=(hbA.out.cell (block_lt_of_cell d1)).trans d1;have x2:=(hbA.out.cell (block_lt_of_cell d2)).trans d2;have x3:=(hbA.out.cell (block_lt_of_cell d3)).trans d3;have x4:=(hbA.out.cell (block_lt_of_cell d4)).trans d4;have hM7:Hid (Arr (w7.alloc (.cells #[.int .i64 iv] 3)) mb 30 _):=(PStep.arr (w:=wr.drew) hP7 HL.out.mb Hm.out.2.2.2).keep hbA.out;have hr7:Hid (w7.ownsRow zz 3 1 (.slice Avi is.length cvi) is.length (I64 is)):=own_same HL.out.ri (fun b hb=>hP7.keep b (HL.out.ri.lt b hb).2 (hblt.out.nf (Nat.le_trans hC.out.hzz (HL.out.ri.lt b hb).1)));have hzs7:zz≤w7.heap.size:=Nat.le_trans hzs hP7.size)
          | (refine step_apS rfl (.tmp 75) (.tmp 85) 28 rfl zz 3 _ 1 _ Tryz.underlying28 infoInt rfl (by decide) _ is.length (I64 is) rfl (hr7.out.alloc _) ⟨w7.heap.size,0,none⟩ _ [.int .i64 iv] rfl rfl (cells_new _ _ _) rfl (by unfold maxLen;omega) (by omega) (by simp;omega) ?_;intro v8 w8 hown8 hgr8 hat8;obtain⟨A8,c8,hv8,hc8a,hc8b⟩:=own_slice hown8;subst hv8;have z1:=hgr8.cell x1 Hk.out.1;have z2:=hgr8.cell x2 Hk.out.2.1;have z3:=hgr8.cell x3 Hk.out.2.2.1;have z4:=hgr8.cell x4 Hk.out.2.2.2;have q8:=(hM7.out.grown hgr8 Hk.out.2.2.2).frozen 4))
        all_goals
         have hat9:(Value.slice A8 (is.length+1) c8).ownBlock=(Value.slice Avi is.length cvi).ownBlock∨(Value.slice A8 (is.length+1) c8).ownBlock=some (w7.alloc (.cells #[.int .i64 iv] 3)).heap.size:=hat8
         have HL9:=Lib.hid (HL.out.push_i hC.out hE7.out hS7.out ((PStep.of_below (Below.refl wr.heap.size wr).drew).trans hP7) (.cells #[.int .i64 iv] 3) hown8 hgr8 hat9)
         rename_i hheld
         clear hheld hc8a hc8b
         clear hat9 hat8 hgr8 hown8 z1 z2 z3 z4 q8 x1 x2 x3 x4 d1 d2 d3 d4 hM7 hr7 hzs7 hbA hE7 hS7 hP7 v0 y3 ya m3 D Hn Hm Hk hzs
         generalize w8.setCell ⟨mb,4,none⟩ (.slice A8 (is.length+1) c8)=w9 at HL9 ⊢
         generalize Value.slice A8 (is.length+1) c8=vx9 at HL9 ⊢
         generalize w7.heap.size=hs7 at HL9 ⊢
         clear w7 w8 A8 c8
         have hil5:(is ++ [iv]).length≤i+1:=by simp;omega
         clear hvi a1i
         generalize is ++ [iv]=is5 at *
         go_wp2_with (fail)
         go_roundw
         case rel=>exact⟨i+1,ks,is5,st6,ncs7,es7,_,_,by omega,i64e (by omega),HL9,hln6,hkl5,hil5⟩
         case measure=>simp [intOf];omega
end Go.Proofs.YtnnnagnjikdnnaaGreatDoor
