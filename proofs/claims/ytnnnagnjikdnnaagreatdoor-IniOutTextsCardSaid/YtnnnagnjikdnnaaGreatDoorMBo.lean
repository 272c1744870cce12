/- The walk of iniout's entries. -/
import Derived.Test.YtnnnagnjikdnnaaGreatDoorMBn
import Derived.Test.YtnnnagnjikdnnaaGreatDoorMBg
set_option linter.unusedVariables false
set_option linter.unusedSimpArgs false
set_option linter.defProp false
set_option linter.constructorNameAsVariable false
namespace Go.Proofs.YtnnnagnjikdnnaaGreatDoor
open Go.RowKit
theorem DB16.keepB {w w':World} {B:Nat} (h:DB16 w) (hb:Below B w w') (hB:6<B):DB16 w':=(hb.cell hB).trans h
theorem IpAt.grew {B b:Nat} {p n r:Value} {bs:List Value} {w w':World} {row:Option Nat} (h:IpAt B b p n r bs w) (hg:w.grownBy w' row) (hr:∀g,row=some g→∃C fz,w.heap[g]? = some (.cells C 3 fz)):IpAt B b p n r bs w':=by
 have hlt:=h.lt
 obtain⟨hB,v,hk,hown,hne⟩:=h
 refine⟨hB,v,(hg.block b hlt (fun e=>?_)).trans hk,hown.kept hg ?_,hne⟩
 ·obtain⟨C,fz,hc⟩:=hr b e.symm
  rw [hk] at hc
  injection hc with hc
  injection hc with _ e2
  exact absurd e2 (by decide)
 ·cases hv:v.ownBlock with
  | none=>exact .inl rfl
  | some q=>
   refine .inr (fun e=>?_)
   obtain⟨C,fz,hc⟩:=hr q e.symm
   obtain⟨C',fz',hc'⟩:=Lib.ownsRowF_kind hown q hv
   rw [hc] at hc'
   injection hc' with hc'
   injection hc' with _ e2
   exact absurd e2 (by decide)
theorem IpS.grew {B b:Nat} {n r:Value} {w wr w2:World} {a:List Nat} {row:Option Nat} (h:IpS B b n r w wr a) (hg:wr.grownBy w2 row) (hr:∀g,row=some g→w.heap.size≤g∧∃C fz,wr.heap[g]? = some (.cells C 3 fz)) (hB:B≤w.heap.size) (hw:w.heap.size≤wr.heap.size):IpS B b n r w w2 a:=by
 refine⟨h.1.elim (fun h=>.inl (IpAt.grew h hg fun g e=>(hr g e).2)) (fun h=>.inr (IpAt.grew h hg fun g e=>(hr g e).2)),?_,?_⟩
 ·exact⟨hg.os.trans h.2.1.os,hg.tape.trans h.2.1.tape,hg.output.trans h.2.1.output,Nat.le_trans h.2.1.size hg.size,fun j hj=>(hg.block j (by omega) (fun e=>by have:=(hr j e.symm).1;omega)).trans (h.2.1.block j hj)⟩
 ·intro k o hk hb ho
  have h1:=h.2.2 k o hk hb ho
  have hlt:k<w.heap.size:=(Array.getElem?_eq_some_iff.1 hk).1
  exact(hg.block k (by omega) (fun e=>by have:=(hr k e.symm).1;omega)).trans h1
structure EntI (nodes:List GNode) (nd:GNode):Prop where
 len:nd.keys.length=nd.items.length
 few:nd.items.length≤12
 key:∀z∈nd.keys,0≤z∧z<(nodes.length:Int)∧By (ndAt nodes z.toNat).text∧(ndAt nodes z.toNat).text.length≤1000
 itm:∀z∈nd.items,0≤z∧z<(nodes.length:Int)∧By (ndAt nodes z.toNat).text∧(ndAt nodes z.toNat).text.length≤1000
theorem getD_mem {l:List Int} {x:Int} {m:Nat} (hl:l.length=m) (h0:0≤x) (h1:x<(m:Int)):l.getD x.toNat 0∈l:=by
 rw [List.getD_eq_getElem?_getD,List.getElem?_eq_getElem (show x.toNat<l.length by omega)]
 exact List.getElem_mem _
theorem EntI.line {nodes:List GNode} {nd:GNode} (hE:EntI nodes nd) {x:Int} (hx:x∈ordI nodes nd):(lineI nodes nd x).length≤13000∧By (lineI nodes nd x):=by
 obtain⟨h0,h1⟩:=ordI_in nodes nd x hx
 obtain⟨_,_,kB,kl⟩:=hE.key _ (getD_mem (m:=nd.keys.length) rfl h0 h1)
 obtain⟨_,_,vB,vl⟩:=hE.itm _ (getD_mem (m:=nd.items.length) rfl h0 (by rw [←hE.len];exact h1))
 have k1:=(keyI_len kB).2
 have v1:=(valI_len vB).2
 unfold lineI keyT itmI
 refine⟨?_,(((keyI_by kB).append (By.cons (by decide) (By.cons (by decide) (By.cons (by decide) By.nil)))).append (valI_by vB)).append (By.cons (by decide) By.nil)⟩
 simp only [List.length_append,List.length_cons,List.length_nil]
 omega
theorem entsT_len {nodes:List GNode} {nd:GNode} {l:List Int} (h:∀x∈l,(lineI nodes nd x).length≤13000):(entsT nodes nd l).length≤13000*l.length:=by
 induction l with
 | nil=>simp [entsT]
 | cons x l ih=>
  have h1:=h x (by simp)
  have h2:=ih (fun y hy=>h y (List.mem_cons_of_mem _ hy))
  unfold entsT at h2 ⊢
  rw [List.filter_cons]
  split
  ·rw [List.flatMap_cons,List.length_append,List.length_cons]
   omega
  ·rw [List.length_cons]
   omega
@[go_sem] theorem cat_eq (a:List Nat):mks a ++ (⟨#[32,61,32]⟩:ByteArray)=mks (a ++ [32,61,32]):=mks_cat a [32,61,32]
@[go_sem] theorem cat_lf (a:List Nat):mks a ++ (⟨#[10]⟩:ByteArray)=mks (a ++ [10]):=mks_cat a [10]
@[go_sem] theorem cat_two (a c:List Nat):mks a ++ mks c=mks (a ++ c):=mks_cat a c
def kbin (o:BinOp) (t:TypeId) (x z:Operand) (u:TypeId):Op:=.binOp o t x z u
@[go_sem] theorem kbin_is (o:BinOp) (t:TypeId) (x z:Operand) (u:TypeId):kbin o t x z u=.binOp o t x z u:=rfl
theorem kbin_eq (o:BinOp) (t:TypeId) (x z:Operand) (u:TypeId):Op.binOp o t x z u=kbin o t x z u:=rfl
def SI9 (B b:Nat) (nv:Value) (w w':World):Prop:=Below B w w'∧Others b w w'∧w'.cell? ⟨b,2,none⟩=some nv
theorem SI9.calm {B b:Nat} {nv:Value} {w w1 w2:World} (h:SI9 B b nv w w1) (hb:Below w1.heap.size w1 w2) (hB:B≤w.heap.size) (hlt:b<w.heap.size):SI9 B b nv w w2:=
 ⟨h.1.trans (hb.mono (Nat.le_trans hB h.1.size)),Lib.OthersKept.trans h.2.1 (fun q _ hq _ _=>(hb.block q (Array.getElem?_eq_some_iff.1 hq).1).trans hq),(hb.cell (p:=⟨b,2,none⟩) (Nat.lt_of_lt_of_le hlt h.1.size)).trans h.2.2⟩
def EntsR (Bp b:Nat) (nS rV:Value) (w:World) (t:List Nat) (rs:List Int) (e:Ending) (w':World):Prop:=
 ∃v,e=.returned v∧w'.ownsRow w.heap.size 3 1 v rs.length (I64 rs)∧IpS Bp b nS rV w w' t
set_option maxRecDepth 20000 in
set_option maxHeartbeats 16000000 in
theorem entries_cb {Bp b g o c n k:Nat} {nodes:List GNode} {rV:Value} {a:List Nat} (hn:nodes.length=n) (hk:k<n) (hE:EntI nodes (ndAt nodes k)) (ha:a.length≤100000) (w:World) (hd:DB16 w) (hdB:6<Bp) (hG:GRd w Bp g o nodes)
  (hP:IpF Bp b (.slice (some ⟨g,o,none⟩) n c) rV (B8 a) w) :
  Calls Tryz.prog 14 #[.pointer (some ⟨b,0,none⟩),.int .i64 (k:Int)] w
   (EntsR Bp b (.slice (some ⟨g,o,none⟩) n c) rV w (a ++ entsT nodes (ndAt nodes k) (ordI nodes (ndAt nodes k))) (rstI nodes (ndAt nodes k) (ordI nodes (ndAt nodes k)))):=by
 obtain⟨K,ck,I,ci,c0,c1,c2,c3,c4,⟨rK,bK⟩,⟨rI,bI⟩⟩:=hG.of_at (i:=k) (by omega)
 have b2:=hP.cells.1
 have k0:(0:Int)≤k:=by omega
 have k1:(k:Int)<n:=by omega
 obtain⟨nd,hnd⟩:∃nd,ndAt nodes k=nd:=⟨_,rfl⟩
 rw [hnd] at hE c0 c1 c2 c3 c4 rK rI ⊢
 obtain⟨m,hm⟩:∃m,nd.items.length=m:=⟨_,rfl⟩
 obtain⟨tx,htx⟩:∃tx,mks nd.text=tx:=⟨_,rfl⟩
 obtain⟨kd,hkd⟩:∃kd,(nd.kind:Int)=kd:=⟨_,rfl⟩
 obtain⟨od,hod⟩:∃od,nd.ord=od:=⟨_,rfl⟩
 have hlen:=hE.len
 have hfew:=hE.few
 rw [hm] at c4 hlen hfew
 rw [hlen] at c3
 rw [htx] at c1
 rw [hkd] at c0
 rw [hod] at c2
 obtain⟨w2,hw2⟩:∃w2,w.alloc (.cells #[.int .i64 kd,.string tx,.bool od,.slice K m ck,.slice I m ci] 30)=w2:=⟨_,rfl⟩
 have h2:Arr w2 w.heap.size 30 [.int .i64 kd,.string tx,.bool od,.slice K m ck,.slice I m ci]:=by rw [←hw2];exact Arr.new w _ _
 have hb2:Below w.heap.size w w2:=by rw [←hw2];exact(Below.refl _ _).alloc (Nat.le_refl _) _
 have HB2:=Lib.hid hb2
 have HQ2:=Lib.hid h2
 have HK2:=Lib.hid (rK.keep hb2)
 have HI2:=Lib.hid (rI.keep hb2)
 have HG2:=Lib.hid (hG.below hb2 hG.2.1)
 have HS2:=Lib.hid ((IpS.start hP).calm hb2)
 have HD:=Lib.hid hd
 have HDB:=Lib.hid hdB
 have hG_2:=hG.2.1
 have HE:=Lib.hid hE
 have HN:=Lib.hid hn
 have HM:=Lib.hid hm
 have HA:=Lib.hid ha
 have HbK:=Lib.hid bK
 have HbI:=Lib.hid bI
 have D2:Hid (Calls Tryz.prog 37 #[.pointer (some ⟨b,0,none⟩),.agg #[.int .i64 kd,.string tx,.bool od,.slice K m ck,.slice I m ci]] w2 (SrtI w2 nodes nd m)):=
  sorted_cb hn hlen hfew (fun z hz=>by have:=hE.key z hz;rw [hn] at this;exact⟨this.1,this.2.1⟩) w2 HG2.out HK2.out (fun w' h=>(HS2.out.1.below h).cells.1)
 have hlb:=hP.lt
 clear hn hk hE ha hd hdB hG hP rK bK rI bI h2 hb2 hlen hm htx hkd hod hnd
 go_enter Tryz.func14,Tryz.ntmps14
 go_upto_region 2 with(fail)
 obtain⟨qb,hqb⟩:∃pb,w.heap.size=pb:=⟨_,rfl⟩
 have HQB:=Lib.hid hqb
 rw [hqb]
 rw [hqb] at HQ2 hlb
 clear hw2 hqb c0 c1 c2 c3 c4 b2
 have n0:=HQ2.out.cell' (i:=0) rfl
 have n1:=HQ2.out.cell' (i:=1) rfl
 have n2:=HQ2.out.cell' (i:=2) rfl
 have n3:=HQ2.out.cell' (i:=3) rfl
 have n4:=HQ2.out.cell' (i:=4) rfl
 go_upto_region 4 with(go_at_call 37;((with_reducible refine D2.out.mono ?_));rintro e w3 ⟨ob,rfl,hob,hA3,hb3⟩)
 have HQ3:=Lib.hid (HQ2.out.keep hb3)
 have HK3:=Lib.hid (HK2.out.keep hb3)
 have HI3:=Lib.hid (HI2.out.keep hb3)
 have HG3:=Lib.hid (HG2.out.below hb3 HG2.out.2.1)
 have HS3:=Lib.hid (HS2.out.calm hb3)
 have HB3:Hid (Below w.heap.size w w3):=HB2.out.trans (hb3.mono HB2.out.size)
 have HA3:=Lib.hid hA3
 have HR3:Hid (w3.ownsRow w3.heap.size 3 1 (.slice none 0 0) ([]:List Int).length (I64 [])):=⟨by simp [I64],.inl ⟨rfl,rfl⟩⟩
 have HDL:Hid (Bp≤w.heap.size):=hG_2
 have lqo:qb<ob:=by have:=HQ2.out.lt;omega
 have lo3:ob<w3.heap.size:=hA3.lt
 clear hA3 hb3 hob HQ2 HI2 HG2 HB2 HK2 D2 n0 n1 n2 n3 n4 HS2
 go_loopw [6,22] (fun sv v wr=>∃(i:Nat),i≤m∧v=.int .i64 (i:Int)∧Hid (IpS Bp b (.slice (some ⟨g,o,none⟩) n c) rV w3 wr (a ++ entsT nodes nd ((ordI nodes nd).take i)))∧Hid (wr.ownsRow w3.heap.size 3 1 sv (rstI nodes nd ((ordI nodes nd).take i)).length (I64 (rstI nodes nd ((ordI nodes nd).take i))))∧w3.heap.size≤wr.heap.size) (fun _ v _=>m - (intOf v).toNat)
 case atStart=>exact⟨0,Nat.zero_le _,rfl,Lib.hid (by simpa [entsT] using IpS.start HS3.out.1),HR3,Nat.le_refl _⟩
 case round=>
  obtain⟨i,hi,rfl,hSr,hRr,hzr⟩:=hrel
  by_cases him:i=m
  ·have hi':¬(i:Int)<m:=by omega
   have hF:Hid (EntsR Bp b (.slice (some ⟨g,o,none⟩) n c) rV w (a ++ entsT nodes nd (ordI nodes nd)) (rstI nodes nd (ordI nodes nd)) (.returned u6) wr):=by
    have e:(ordI nodes nd).take i=ordI nodes nd:=List.take_of_length_le (by rw [ordI_len,HE.out.len,HM.out];omega)
    have h1:=hSr.out
    have h2:=hRr.out
    rw [e] at h1 h2
    exact⟨_,rfl,own_lo h2 HB3.out.size,HS3.out.trans h1⟩
   clear hSr hRr HQ3 HK3 HI3 HG3 HS3 HB3 HA3 HR3 HbK HbI HD HDB HE HN HM HA HQB
   go_wp2_with (fail)
   go_ret
   exact hF.out
  ·have hi':(i:Int)<m:=by omega
   have i0:(0:Int)≤i:=by omega
   have hol:(ordI nodes nd).length=m:=by rw [ordI_len,HE.out.len,HM.out]
   obtain⟨x,hx,hxm⟩:=InR_get (ordI_in nodes nd) (k:=i) (by omega)
   rw [HE.out.len,HM.out] at hxm
   have htk:(ordI nodes nd).take (i+1)=(ordI nodes nd).take i ++ [(x:Int)]:=by rw [List.take_add_one,hx];rfl
   have hOb:ob≠b:=by omega
   have hQb:qb≠b:=by omega
   have hOr:=Lib.hid (HA3.out.othersI hSr.out.2.2 hOb (by decide))
   have hQr:=Lib.hid (HQ3.out.othersI hSr.out.2.2 hQb (by decide))
   have hGr:=Lib.hid (HG3.out.below hSr.out.2.1 (Nat.le_refl _))
   have hKr:=Lib.hid (HK3.out.below hSr.out.2.1 HbK.out)
   have hIr:=Lib.hid (HI3.out.below hSr.out.2.1 HbI.out)
   obtain⟨z,hz⟩:∃z,nd.items[x]? = some z:=⟨_,List.getElem?_eq_getElem (by rw [HM.out];exact hxm)⟩
   obtain⟨z0,z1,zB,zl⟩:=HE.out.itm z (List.mem_of_getElem? hz)
   obtain⟨q,rfl⟩:∃q:Nat,z=(q:Int):=⟨z.toNat,by omega⟩
   rw [Int.toNat_natCast] at zB zl
   obtain⟨y,hy⟩:∃z,nd.keys[x]? = some z:=⟨_,List.getElem?_eq_getElem (by rw [HE.out.len,HM.out];exact hxm)⟩
   obtain⟨y0,y1,yB,yl⟩:=HE.out.key y (List.mem_of_getElem? hy)
   obtain⟨j,rfl⟩:∃q:Nat,y=(q:Int):=⟨y.toNat,by omega⟩
   rw [Int.toNat_natCast] at yB yl
   have hq:q<n:=by have:=HN.out;omega
   have hj:j<n:=by have:=HN.out;omega
   obtain⟨Kq,ckq,Iq,ciq,q0,q1,q2,q3,q4,_,_⟩:=hGr.out.of_at (i:=q) (by rw [HN.out];exact hq)
   obtain⟨aI,hI,hcI⟩:=hIr.out.at_ (I64_get hz)
   have HZ:=Lib.hid (I64_get hz)
   have b2:=hSr.out.1.cells.1
   have n3:=hQr.out.cell' (i:=3) rfl
   have n4:=hQr.out.cell' (i:=4) rfl
   rw [hI] at n4
   have l0:wr.cell? ⟨ob,i,none⟩=some (.int .i64 (x:Int)):=hOr.out.cell' (I64_get hx)
   have x0:(0:Int)≤x:=by omega
   have x1:(x:Int)<m:=by omega
   have qq0:(0:Int)≤q:=by omega
   have qq1:(q:Int)<n:=by omega
   have lq:qb<wr.heap.size:=by omega
   have lb:b<wr.heap.size:=by omega
   have lg:g<wr.heap.size:=by have:=hGr.out.1;have:=hGr.out.2.1;omega
   have lI:aI.block<wr.heap.size:=by have:=HbI.out aI hI;have:=hGr.out.2.1;omega
   have HIE:=Lib.hid hI
   clear hI
   obtain⟨W1,hW1⟩:∃W1,wr.alloc (.cells #[.int .i64 0,.string ⟨#[]⟩,.bool false,.slice none 0 0,.slice none 0 0] 30)=W1:=⟨_,rfl⟩
   have hb1:Below wr.heap.size wr W1:=by rw [←hW1];exact(Below.refl _ _).alloc (Nat.le_refl _) _
   have b2':W1.cell? ⟨b,2,none⟩=_:=(hb1.cell lb).trans b2
   have n4':W1.cell? ⟨qb,4,none⟩=_:=(hb1.cell lq).trans n4
   have hcI':W1.cell? (aI.add x)=_:=(hb1.cell (p:=aI.add x) (by rw [show(aI.add x).block=aI.block from by unfold Addr.add;split <;> rfl];exact lI)).trans hcI
   have q0':W1.cell? ⟨g,_,none⟩=_:=(hb1.cell lg).trans q0
   have q1':W1.cell? ⟨g,_,none⟩=_:=(hb1.cell lg).trans q1
   have q2':W1.cell? ⟨g,_,none⟩=_:=(hb1.cell lg).trans q2
   have q3':W1.cell? ⟨g,_,none⟩=_:=(hb1.cell lg).trans q3
   have q4':W1.cell? ⟨g,_,none⟩=_:=(hb1.cell lg).trans q4
   rw [←hW1] at b2' n4' hcI' q0' q1' q2' q3' q4'
   clear hW1 hb1
   go_upto_region 6 with(fail)
   go_cut [9] (fun p wx=>p=.pointer (some ⟨wr.heap.size,0,none⟩)∧Arr wx wr.heap.size 30 [.int .i64 (ndAt nodes q).kind,.string (mks (ndAt nodes q).text),.bool (ndAt nodes q).ord,.slice Kq (ndAt nodes q).keys.length ckq,.slice Iq (ndAt nodes q).items.length ciq]∧Below wr.heap.size wr wx)
   case first=>
    go_region
    all_goals
     go_wp2_with (fail)
     go_meet
     exact⟨rfl,Arr.new wr _ _,((Below.refl wr.heap.size wr).alloc (Nat.le_refl _) _).drew⟩
   case rest=>
    obtain⟨rfl,A6,B6⟩:=hcut
    obtain⟨w6,hw6⟩:∃x,x=wc:=⟨_,rfl⟩
    subst hw6
    have lqx:qb≠wr.heap.size:=by omega
    have HS6:=Lib.hid (hSr.out.calm B6)
    have HQ6:=Lib.hid (hQr.out.keep B6)
    have HO6:=Lib.hid (hOr.out.keep B6)
    have HR6:=Lib.hid (own_below hRr.out B6)
    have HG6:=Lib.hid (hGr.out.below B6 hGr.out.2.1)
    have HA6:=Lib.hid A6
    have hz6:w3.heap.size≤w6.heap.size:=Nat.le_trans hzr B6.size
    have c0:=A6.cell' (i:=0) rfl
    have c1:=A6.cell' (i:=1) rfl
    have hit:itmI nodes nd (x:Int)=ndAt nodes q:=by
     unfold itmI
     rw [Int.toNat_natCast,List.getD_eq_getElem?_getD,hz]
     rfl
    by_cases h5:(ndAt nodes q).kind=5
    ·have htx:isTx nodes nd (x:Int)=true:=by unfold isTx;rw [hit,h5];rfl
     rw [h5] at c0
     obtain⟨xb,hxb⟩:∃xb,wr.heap.size=xb:=⟨_,rfl⟩
     rw [hxb] at HA6 lqx c0 c1 ⊢
     have lxb:xb≠b:=by omega
     obtain⟨aK,hK,hcK⟩:=hKr.out.at_ (I64_get hy)
     have laK:aK.block<Bp:=HbK.out aK hK
     obtain⟨a0,ha0⟩:∃a0,a ++ entsT nodes nd ((ordI nodes nd).take i)=a0:=⟨_,rfl⟩
     have hmem:∀z∈(ordI nodes nd).take i,(lineI nodes nd z).length≤13000:=fun z hz=>(HE.out.line (List.mem_of_mem_take hz)).1
     have hal:a0.length≤2000000:=by
      have h1:=entsT_len hmem
      have h2:((ordI nodes nd).take i).length≤12:=by rw [List.length_take];omega
      have h3:=HA.out
      rw [←ha0,List.length_append]
      omega
     obtain⟨hl1,hl2⟩:=HE.out.line (List.mem_of_getElem? hx)
     have hkt:keyT nodes nd (x:Int)=(ndAt nodes j).text:=by unfold keyT;rw [Int.toNat_natCast,List.getD_eq_getElem?_getD,hy];rfl
     have hline:lineI nodes nd (x:Int)=keyI (ndAt nodes j).text ++ [32,61,32] ++ valI (ndAt nodes q).text ++ [10]:=by unfold lineI;rw [hkt,hit]
     have hnew:a ++ entsT nodes nd ((ordI nodes nd).take (i+1))=a0 ++ lineI nodes nd (x:Int):=by rw [htk,entsT_tx htx,←List.append_assoc,ha0]
     have hrst:rstI nodes nd ((ordI nodes nd).take (i+1))=rstI nodes nd ((ordI nodes nd).take i):=by rw [htk,rstI_tx htx]
     rw [hline] at hnew hl1 hl2
     rw [ha0] at HS6
     have k1:=(keyI_len yB).2
     have v1:=(valI_len zB).2
     obtain⟨kt,hkt2⟩:∃kt,(ndAt nodes j).text=kt:=⟨_,rfl⟩
     obtain⟨vt,hvt2⟩:∃vt,(ndAt nodes q).text=vt:=⟨_,rfl⟩
     rw [hkt2] at hnew hl1 hl2 k1 yB yl
     rw [hvt2] at hnew hl1 hl2 v1 zB zl c1
     have hBw6:Bp≤w6.heap.size:=by have:=HG6.out.2.1;omega
     have hlb6:b<w6.heap.size:=HS6.out.1.lt
     have hBw:Bp≤w3.heap.size:=by have:=HS3.out.1.le;have:=HS3.out.1.lt;omega
     have R1:∀w',SI9 Bp b (.slice (some ⟨g,o,none⟩) n c) w6 w'→w'.cell? ⟨b,2,none⟩=some (.slice (some ⟨g,o,none⟩) n c):=fun w' h=>h.2.2
     have R2:∀w',SI9 Bp b (.slice (some ⟨g,o,none⟩) n c) w6 w'→w'.cell? ⟨qb,3,none⟩=some (.slice (some aK) m ck):=fun w' h=>by rw [←hK];exact(HQ6.out.othersI h.2.1 hQb (by decide)).cell' (i:=3) rfl
     have R3:∀w',SI9 Bp b (.slice (some ⟨g,o,none⟩) n c) w6 w'→w'.cell? (aK.add x)=some (.int .i64 (j:Int)):=fun w' h=>by
      have h1:=hKr.out.below ((B6.mono hGr.out.2.1).trans h.1) HbK.out
      obtain⟨aK',e,hc⟩:=h1.at_ (I64_get hy)
      rw [hK] at e
      obtain rfl:=Option.some.inj e
      exact hc
     have R4:∀w',SI9 Bp b (.slice (some ⟨g,o,none⟩) n c) w6 w'→w'.cell? ⟨g,o+j*5+1,none⟩=some (.string (mks kt)):=fun w' h=>by
      obtain⟨_,_,_,_,_,h1,_⟩:=(HG6.out.below h.1 (Nat.le_refl _)).of_at (i:=j) (by rw [HN.out];exact hj)
      rw [←hkt2]
      exact h1
     have R5:∀w',SI9 Bp b (.slice (some ⟨g,o,none⟩) n c) w6 w'→w'.cell? ⟨xb,1,none⟩=some (.string (mks vt)):=fun w' h=>by
      rw [←hvt2]
      exact(HA6.out.othersI h.2.1 lxb (by decide)).cell' (i:=1) rfl
     have hS0:SI9 Bp b (.slice (some ⟨g,o,none⟩) n c) w6 w6.drew:=⟨(Below.refl _ _).drew,Lib.OthersKept.refl _ _ _,HS6.out.1.cells.1⟩
     have hJ0:IpS Bp b (.slice (some ⟨g,o,none⟩) n c) rV w3 w6.drew a0:=HS6.out.calm (Below.drew (Below.refl _ _))
     have D1:Hid (∀w',SI9 Bp b (.slice (some ⟨g,o,none⟩) n c) w6 w'→Calls Tryz.prog 18 #[.string (mks kt)] w' fun e w2=>e=.returned (.string (mks (keyI kt)))∧Below w'.heap.size w' w2):=fun w' h=>keyForm_cb yB (by omega) w' (HD.out.keepB ((HB3.out.mono HDL.out).trans (HS6.out.2.1.trans h.1)) HDB.out)
     have D2:Hid (∀w',SI9 Bp b (.slice (some ⟨g,o,none⟩) n c) w6 w'→Calls Tryz.prog 21 #[.string (mks vt)] w' fun e w2=>e=.returned (.string (mks (valI vt)))∧Below w'.heap.size w' w2):=fun w' h=>valueForm_cb zB (by omega) w' (HD.out.keepB ((HB3.out.mono HDL.out).trans (HS6.out.2.1.trans h.1)) HDB.out)
     have D3:Hid (∀w',SI9 Bp b (.slice (some ⟨g,o,none⟩) n c) w6 w'→IpS Bp b (.slice (some ⟨g,o,none⟩) n c) rV w3 w' a0→Calls Tryz.prog 17 #[.pointer (some ⟨b,0,none⟩),.string (mks (keyI kt ++ [32,61,32] ++ valI vt ++ [10]))] w' fun e w2=>e=.returned (.tuple #[.int .i64 (mks (keyI kt ++ [32,61,32] ++ valI vt ++ [10])).size,.nilIface])∧SI9 Bp b (.slice (some ⟨g,o,none⟩) n c) w6 w2∧Hid (IpS Bp b (.slice (some ⟨g,o,none⟩) n c) rV w3 w2 (a0 ++ (keyI kt ++ [32,61,32] ++ valI vt ++ [10])))∧Hid (Others b w' w2)):=fun w' h hJ=>
      (ip_string Bp b _ rV (B8 a0) (mks (keyI kt ++ [32,61,32] ++ valI vt ++ [10])) w' hJ.1 (by rw [length_B8,size_mks];omega) (Nat.le_trans hBw6 h.1.size)).mono (by
       rintro e w2 ⟨rfl,hu,hb2,ho2⟩
       have hJ2:=hJ.wrote hu hb2 ho2 hl2
       exact⟨rfl,⟨h.1.trans hb2,Lib.OthersKept.trans h.2.1 ho2,hJ2.1.cells.1⟩,hJ2,ho2⟩)
     have HFin:Hid (∀w9,SI9 Bp b (.slice (some ⟨g,o,none⟩) n c) w6 w9→IpS Bp b (.slice (some ⟨g,o,none⟩) n c) rV w3 w9 (a0 ++ (keyI kt ++ [32,61,32] ++ valI vt ++ [10]))→IpS Bp b (.slice (some ⟨g,o,none⟩) n c) rV w3 w9 (a ++ entsT nodes nd ((ordI nodes nd).take (i+1)))∧w9.ownsRow w3.heap.size 3 1 u6 (rstI nodes nd ((ordI nodes nd).take (i+1))).length (I64 (rstI nodes nd ((ordI nodes nd).take (i+1))))∧w3.heap.size≤w9.heap.size):=fun w9 hS hJ=>by
      refine⟨by rw [hnew];exact hJ,?_,hJ.2.1.size⟩
      rw [hrst]
      exact own_othersI HR6.out hS.2.1 (fun e=>by have:=(HR6.out.lt b e).1;omega)
     rw [show keyI kt ++ [32,61,32] ++ valI vt ++ [10]=keyI kt ++ 32 :: 61 :: 32 :: (valI vt ++ [10]) by simp] at D3 HFin
     have lkt:(keyI kt).length≤6002:=by omega
     have lvt:(valI vt).length≤6002:=by omega
     have lj0:(0:Int)≤j:=by omega
     have lj1:(j:Int)<n:=by omega
     have lBw:=Lib.hid hBw6
     clear HS6 HR6 HG6 HA6 HQ6 HO6 hit htk htx hmem hal hl1 hl2 hkt hline hnew hrst hkt2 hvt2 k1 v1 yB yl zB zl ha0 hK hcK c1 hz6
     clear hOr hQr hGr hKr hIr hSr hRr HZ HIE n3 n4 b2 l0 q0 q1 q2 q3 q4 b2' n4' hcI hcI' q0' q1' q2' q3' q4' h5 B6 hx hy hz hxm hol
     go_upto_region 9 with(fail)
     clear c0
     rw [kbin_eq BinOp.add 9 (.tmp 61),kbin_eq BinOp.add 9 (.tmp 62) (.tmp 65),kbin_eq BinOp.add 9 (.tmp 66)]
     go_region_held3 (SI9 Bp b (.slice (some ⟨g,o,none⟩) n c) w6) (first | assumption) (first
      | (go_at_call 18;((with_reducible refine(D1.out _ (by assumption)).mono ?_));rintro e w7 ⟨rfl,hb7⟩;have hS7:=SI9.calm (by assumption) hb7 lBw.out hlb6;have hJ7:IpS Bp b (.slice (some ⟨g,o,none⟩) n c) rV w3 w7 a0:=IpS.calm (by assumption) hb7;clear hb7)
      | (go_at_call 21;((with_reducible refine(D2.out _ (by assumption)).mono ?_));rintro e w8 ⟨rfl,hb8⟩;have hS8:=SI9.calm (by assumption) hb8 lBw.out hlb6;have hJ8:IpS Bp b (.slice (some ⟨g,o,none⟩) n c) rV w3 w8 a0:=IpS.calm (by assumption) hb8;clear hb8)
      | (go_at_call 17;((with_reducible refine(D3.out _ (by assumption) (by assumption)).mono ?_));rintro e w9 ⟨rfl,hS9,hJ9,_⟩))
     all_goals
      have HF9:=Lib.hid (HFin.out _ hS9 hJ9.out)
      go_wp2_with (fail)
      go_roundw
      case rel=>exact⟨i+1,by omega,i64e (by omega),HF9.out.1,HF9.out.2.1,HF9.out.2.2⟩
      case measure=>simp [intOf];omega
    ·have htx:isTx nodes nd (x:Int)=false:=by unfold isTx;rw [hit];simpa using h5
     have n5:(((ndAt nodes q).kind:Int) == 5)=false:=by simp;omega
     obtain⟨rl,hrl⟩:∃rl,rstI nodes nd ((ordI nodes nd).take i)=rl:=⟨_,rfl⟩
     have hrll:rl.length≤12:=by
      rw [←hrl]
      have h1:=List.length_filter_le (fun i=>!isTx nodes nd i) ((ordI nodes nd).take i)
      have h2:((ordI nodes nd).take i).length≤12:=by rw [List.length_take];omega
      exact Nat.le_trans h1 h2
     rw [hrl] at HR6
     have hR7:Hid (∀o:Obj,(w6.alloc o).ownsRow w3.heap.size 3 1 u6 rl.length (I64 rl)):=fun o=>own_below HR6.out ((Below.refl _ _).alloc (Nat.le_refl _) o)
     have hlz:=Lib.hid (fun g e=>(HR6.out.lt g e))
     have hkz:=Lib.hid (fun g (e:u6.ownBlock=some g)=>own_kind HR6.out e)
     have n5':(((ndAt nodes q).kind:Int) != 5)=true:=by simpa using h5
     have HRL:=Lib.hid hrl
     clear hrl
     have hbx:Below w6.heap.size w6 (w6.alloc (.cells #[.int .i64 (x:Int)] 3)):=(Below.refl _ _).alloc (Nat.le_refl _) _
     have HFR:Hid (∀v8 w8,w8.ownsRow w3.heap.size 3 1 v8 (rl.length+1) (I64 rl ++ [.int .i64 (x:Int)])→(w6.alloc (.cells #[.int .i64 (x:Int)] 3)).grownBy w8 u6.ownBlock →
       IpS Bp b (.slice (some ⟨g,o,none⟩) n c) rV w3 w8 (a ++ entsT nodes nd ((ordI nodes nd).take (i+1)))∧w8.ownsRow w3.heap.size 3 1 v8 (rstI nodes nd ((ordI nodes nd).take (i+1))).length (I64 (rstI nodes nd ((ordI nodes nd).take (i+1))))∧w3.heap.size≤w8.heap.size):=by
      intro v8 w8 hown8 hgr8
      refine⟨?_,?_,?_⟩
      ·rw [htk,entsT_no htx]
       refine IpS.grew (HS6.out.calm hbx) hgr8 (fun g e=>⟨(hlz.out g e).1,?_⟩) (by have:=HS3.out.1.le;have:=HS3.out.1.lt;omega) (by have:=hbx.size;omega)
       obtain⟨C,fz,hc⟩:=hkz.out g e
       exact⟨C,fz,(hbx.block g (hlz.out g e).2).trans hc⟩
      ·rw [htk,rstI_no htx,HRL.out,List.length_append,List.length_singleton,←I64_app]
       exact hown8
      ·have:=hgr8.size
       have:=hbx.size
       omega
     clear hbx HRL hlz hkz HS6 HR6 HG6 HA6 HQ6 HO6 hit htk htx
     go_wp2_with (at_builtin;go_loud (refine wpList_apS rfl (.tmp 41) (.tmp 43) 28 rfl w3.heap.size 3 _ 1 _ Tryz.underlying28 infoInt rfl (by decide) _ rl.length (I64 rl) rfl (hR7.out _) ⟨w6.heap.size,0,none⟩ _ [.int .i64 (x:Int)] rfl rfl (cells_new _ _ _) rfl (by unfold maxLen;omega) (by omega) (by simp;omega) ?_;intro v8 w8 hown8 hgr8 hat8;have H8:=Lib.hid (HFR.out v8 w8 hown8 hgr8);clear hown8 hgr8 hat8))
     go_roundw
     case rel=>exact⟨i+1,by omega,i64e (by omega),H8.out.1,H8.out.2.1,H8.out.2.2⟩
     case measure=>simp [intOf];omega
end Go.Proofs.YtnnnagnjikdnnaaGreatDoor
namespace Go.Proofs.YtnnnagnjikdnnaaGreatDoor
open Go.RowKit
def secI (nodes:List GNode) (nd:GNode) (out:List Nat) (x:Int):List Nat:=
 (if out.length=0 then out else out ++ [10]) ++ (91 :: (keyI (keyT nodes nd x) ++ [93,10])) ++ entsT nodes (itmI nodes nd x) (ordI nodes (itmI nodes nd x))
def outT (nodes:List GNode) (nd:GNode) (i:Nat):List Nat:=((rstI nodes nd (ordI nodes nd)).take i).foldl (secI nodes nd) (entsT nodes nd (ordI nodes nd))
theorem outT_zero (nodes:List GNode) (nd:GNode):outT nodes nd 0=entsT nodes nd (ordI nodes nd):=rfl
theorem outT_succ {nodes:List GNode} {nd:GNode} {i:Nat} {x:Int} (h:(rstI nodes nd (ordI nodes nd))[i]? = some x):outT nodes nd (i+1)=secI nodes nd (outT nodes nd i) x:=by
 unfold outT
 rw [List.take_add_one,h,List.foldl_append]
 rfl
structure PrtI (nodes:List GNode) (r:Nat) (out:List Nat):Prop where
 tree:TreeI nodes r
 k10:(ndAt nodes r).kind=10
 wr:WrI nodes 2 r
 ent:EntI nodes (ndAt nodes r)
 ent2:∀x∈rstI nodes (ndAt nodes r) (ordI nodes (ndAt nodes r)),EntI nodes (itmI nodes (ndAt nodes r) x)
 len:∀i,i≤12→(outT nodes (ndAt nodes r) i).length≤60000
 all:outT nodes (ndAt nodes r) (rstI nodes (ndAt nodes r) (ordI nodes (ndAt nodes r))).length=out
 ne:out≠[]
 by_:By out
end Go.Proofs.YtnnnagnjikdnnaaGreatDoor
namespace Go.Proofs.YtnnnagnjikdnnaaGreatDoor
open Go.RowKit
def srtB (N:List GNode) (nd:GNode):Bool:=!(nd.kind == 10) || (nd.keys.length == nd.items.length && nd.keys.all fun x=>decide (0≤x∧x<(N.length:Int)) && (((List.range 1).all fun i=>ndB [ndAt N x.toNat] (ndAt [ndAt N x.toNat] i)) && (endB [ndAt N x.toNat] && decide ((ndAt N x.toNat).keys = []∧(ndAt N x.toNat).items = []∧(ndAt N x.toNat).kind=5∧(ndAt N x.toNat).ord=false))))
theorem srt_of {N:List GNode} (h5:(List.range N.length).all (fun i=>srtB N (ndAt N i))=true):∀k,k<N.length→(ndAt N k).kind=10→SortN N (ndAt N k):=fun k hk h10=>by
 have h:=all_of h5 hk
 unfold srtB at h
 rw [h10] at h
 simp only [beq_self_eq_true,Bool.not_true,Bool.false_or] at h
 rw [Bool.and_eq_true] at h
 refine⟨by simpa using h.1,fun x hx=>?_⟩
 have h:=List.all_eq_true.1 h.2 x hx
 rw [Bool.and_eq_true,Bool.and_eq_true,Bool.and_eq_true] at h
 obtain⟨a,b,c,d⟩:=h
 have a:=of_decide_eq_true a
 obtain⟨d1,d2,d3,d4⟩:=of_decide_eq_true d
 exact⟨a.1,a.2,ck_ok (N:=[ndAt N x.toNat]) (by rfl) b c,d1,d2,d3,d4⟩
theorem cnt_of {N:List GNode} (h4:(countsI N 0).all (fun x=>decide (x≤1))=true):∀k,(countsI N 0).getD k 0≤1:=fun k=>by
 rw [List.getD_eq_getElem?_getD]
 cases hc:(countsI N 0)[k]? with
 | none=>simp
 | some x=>exact of_decide_eq_true (List.all_eq_true.1 h4 x (List.mem_of_getElem? hc))
theorem up_of {N:List GNode} (h:(List.range N.length).all (fun k=>(ndAt N k).items.all fun x=>decide ((k:Int)<x∧x<(N.length:Int)))=true):UpI N:=fun k hk x hx=>of_decide_eq_true (List.all_eq_true.1 (all_of h hk) x hx)
theorem idxs_of {N:List GNode} (h:(List.range N.length).all (fun k=>(refs (ndAt N k)).all fun x=>decide (0≤x∧x<(N.length:Int)))=true):Idx N:=fun k hk x hx=>of_decide_eq_true (List.all_eq_true.1 (all_of h hk) x hx)
def entB (N:List GNode) (nd:GNode):Bool:=!(nd.kind == 10) || (decide (nd.keys.length=nd.items.length∧nd.items.length≤12) && (nd.keys.all (fun x=>decide (0≤x∧x.toNat<N.length∧(ndAt N x.toNat).kind=5∧(ndAt N x.toNat).ord=false)) && (List.range nd.items.length).all fun a=>(List.range nd.items.length).all fun b=>decide (a=b∨cmpK N nd (a:Int) (b:Int)≠0)))
theorem ent_of {N:List GNode} (h:(List.range N.length).all (fun i=>entB N (ndAt N i))=true):∀k,k<N.length→(ndAt N k).kind=10→(ndAt N k).ord=false→EntOK N (ndAt N k):=fun k hk h10 _=>by
 have h:=all_of h hk
 unfold entB at h
 rw [h10] at h
 simp only [beq_self_eq_true,Bool.not_true,Bool.false_or] at h
 rw [Bool.and_eq_true,Bool.and_eq_true] at h
 obtain⟨h1,h2,h3⟩:=h
 have h1:=of_decide_eq_true h1
 refine⟨h1.1,h1.2,fun _ x hx=>?_,fun a b ha hb hab=>?_⟩
 ·have:=of_decide_eq_true (List.all_eq_true.1 h2 x hx)
  exact⟨this.1,this.2.1,this.2.2.1,this.2.2.2⟩
 ·exact(of_decide_eq_true (all_of (all_of h3 ha) hb)).resolve_left hab
def aiS:List Nat:=[123,34,97,34,61,34,34,44,34,98,34,61,34,49,32,59,32,50,34,44,34,115,34,61,123,34,120,32,121,34,61,34,32,122,34,125,125]
def aiO:List Nat:=[97,32,61,32,34,34,10,98,32,61,32,49,32,59,32,50,10,10,91,115,93,10,34,120,32,121,34,32,61,32,34,32,122,34,10]
def tK (s:List Nat):GNode:=⟨5,s,false,[],[]⟩
def aiN:List GNode:=[⟨10,[],false,[1,3,5],[2,4,6]⟩,tK [97],tK [],tK [98],tK [49,32,59,32,50],tK [115],⟨10,[],false,[7],[8]⟩,tK [120,32,121],tK [32,122]]
theorem aiS_by:By aiS:=by_dec (by kernel_rfl)
theorem aiN_val:valK aiS 60 0 ⟨0,[]⟩=some (0,⟨37,aiN⟩):=by kernel_rfl
theorem aiN_ck:ChkOK aiN 0:=ck_ok (by kernel_rfl) (by kernel_rfl) (by kernel_rfl)
theorem aiN_z:chkV aiN 0=0:=by kernel_rfl
theorem by_all {N:List GNode} (h:(List.range N.length).all (fun i=>(ndAt N i).text.all fun c=>decide (c<256))=true) (k:Nat):By (ndAt N k).text:=by
 by_cases hk:k<N.length
 ·exact by_dec (all_of h hk)
 ·unfold ndAt
  rw [List.getD_eq_getElem?_getD,List.getElem?_eq_none (by omega)]
  exact By.nil
theorem aiN_key:CKeyT aiN 0 [37,3,2,3,7,3,12,5,4] [true,false,false,false,false,false,true,false,false] aiS where
 idx:=idxs_of (by kernel_rfl)
 nl:=aiN_ck.nl
 by_:=by_all (by kernel_rfl)
 ent:=ent_of (by kernel_rfl)
 len:=by decide
 rt:=by decide
 ck:=aiN_ck
 zk:=aiN_z
 dk:=by kernel_rfl
 ln:=by kernel_rfl
 lk:=by decide
 wr:=by kernel_rfl
 bo:=aiS_by
theorem aiN_tree:TreeI aiN 0 where
 chk:=aiN_ck
 lt:=by decide
 chk0:=aiN_z
 up:=up_of (by kernel_rfl)
 srt:=srt_of (by kernel_rfl)
 one:=cnt_of (by kernel_rfl)
def enB (N:List GNode) (nd:GNode):Bool:=decide (nd.keys.length=nd.items.length∧nd.items.length≤12) && (nd.keys.all (fun z=>decide (0≤z∧z<(N.length:Int)) && ((ndAt N z.toNat).text.all (fun c=>decide (c<256)) && decide ((ndAt N z.toNat).text.length≤1000))) && nd.items.all (fun z=>decide (0≤z∧z<(N.length:Int)) && ((ndAt N z.toNat).text.all (fun c=>decide (c<256)) && decide ((ndAt N z.toNat).text.length≤1000))))
theorem en_of {N:List GNode} {nd:GNode} (h:enB N nd=true):EntI N nd:=by
 unfold enB at h
 rw [Bool.and_eq_true,Bool.and_eq_true] at h
 obtain⟨h1,h2,h3⟩:=h
 have h1:=of_decide_eq_true h1
 refine⟨h1.1,h1.2,fun z hz=>?_,fun z hz=>?_⟩
 ·have h:=List.all_eq_true.1 h2 z hz
  rw [Bool.and_eq_true,Bool.and_eq_true] at h
  have h4:=of_decide_eq_true h.1
  exact⟨h4.1,h4.2,by_dec h.2.1,of_decide_eq_true h.2.2⟩
 ·have h:=List.all_eq_true.1 h3 z hz
  rw [Bool.and_eq_true,Bool.and_eq_true] at h
  have h4:=of_decide_eq_true h.1
  exact⟨h4.1,h4.2,by_dec h.2.1,of_decide_eq_true h.2.2⟩
theorem aiN_print:PrtI aiN 0 aiO where
 tree:=aiN_tree
 k10:=rfl
 wr:=by
  refine .inr ⟨rfl,rfl,rfl,by decide,?_,?_⟩
  ·intro z hz
   exact of_decide_eq_true (List.all_eq_true.1 (show [1,3,5].all (fun z:Int=>decide (0≤z∧z<(aiN.length:Int)∧(ndAt aiN z.toNat).kind=5))=true by kernel_rfl) z hz)
  ·intro z hz
   simp only [show(ndAt aiN 0).items = [2,4,6] from rfl,List.mem_cons,List.not_mem_nil,or_false] at hz
   rcases hz with rfl | rfl | rfl
   ·exact⟨by decide,by decide,.inl rfl⟩
   ·exact⟨by decide,by decide,.inl rfl⟩
   ·refine⟨by decide,by decide,.inr ⟨rfl,rfl,rfl,by decide,?_,?_⟩⟩
    ·intro z hz
     exact of_decide_eq_true (List.all_eq_true.1 (show [7].all (fun z:Int=>decide (0≤z∧z<(aiN.length:Int)∧(ndAt aiN z.toNat).kind=5))=true by kernel_rfl) z hz)
    ·intro z hz
     simp only [show(ndAt aiN (6:Int).toNat).items = [8] from rfl,List.mem_cons,List.not_mem_nil,or_false] at hz
     subst hz
     exact⟨by decide,by decide,rfl⟩
 ent:=en_of (by kernel_rfl)
 ent2:=fun x hx=>by
  rw [show rstI aiN (ndAt aiN 0) (ordI aiN (ndAt aiN 0)) = [2] by kernel_rfl] at hx
  simp only [List.mem_cons,List.not_mem_nil,or_false] at hx
  subst hx
  exact en_of (by kernel_rfl)
 len:=fun i hi=>of_decide_eq_true (List.all_eq_true.1 (show(List.range 13).all (fun i=>decide ((outT aiN (ndAt aiN 0) i).length≤60000))=true by kernel_rfl) i (List.mem_range.2 (by omega)))
 all:=by kernel_rfl
 ne:=by decide
 by_:=by_dec (by kernel_rfl)
end Go.Proofs.YtnnnagnjikdnnaaGreatDoor
