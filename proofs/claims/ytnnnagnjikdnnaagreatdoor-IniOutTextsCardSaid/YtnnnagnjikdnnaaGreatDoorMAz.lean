/- The walk of canon's entries where the keys of unordered maps are at most twelve different texts. -/
import Derived.Test.YtnnnagnjikdnnaaGreatDoorMAu
import Derived.Test.YtnnnagnjikdnnaaGreatDoorMAv
import Derived.Test.YtnnnagnjikdnnaaGreatDoorMAy
import Derived.Test.YtnnnagnjikdnnaaGreatDoorMAe
import Derived.Test.YtnnnagnjikdnnaaGreatDoorMAp
set_option linter.unusedVariables false
set_option linter.unusedSimpArgs false
set_option linter.defProp false
set_option linter.constructorNameAsVariable false
namespace Go.Proofs.YtnnnagnjikdnnaaGreatDoor
open Go.RowKit
def keyT (nodes:List GNode) (nd:GNode) (a:Int):List Nat:=(ndAt nodes (nd.keys.getD a.toNat 0).toNat).text
def cmpK (nodes:List GNode) (nd:GNode) (a b:Int):Int:=sclV (mks (keyT nodes nd a)) (mks (keyT nodes nd b))
def entV (nodes:List GNode) (k:Nat):List Int:=
 if (ndAt nodes k).kind=10∧(ndAt nodes k).ord=false then insS (fun a b=>decide (cmpK nodes (ndAt nodes k) a b<0)) (rngI (ndAt nodes k).items.length) else rngI (ndAt nodes k).items.length
structure EntOK (nodes:List GNode) (nd:GNode):Prop where
 len:nd.keys.length=nd.items.length
 few:nd.items.length≤12
 key:1<nd.items.length→∀x∈nd.keys,0≤x∧TextN nodes x.toNat
 ne:∀a b:Nat,a<nd.items.length→b<nd.items.length→a≠b→cmpK nodes nd (a:Int) (b:Int)≠0
theorem entV_len (nodes:List GNode) (k:Nat):(entV nodes k).length=(ndAt nodes k).items.length:=by
 unfold entV
 split
 ·rw [insS_len,rngI_len]
 ·rw [rngI_len]
theorem entV_in (nodes:List GNode) (k:Nat):InR (ndAt nodes k).items.length (entV nodes k):=by
 unfold entV
 split
 ·exact fun x hx=>rngI_in _ x (insS_mem _ _ x hx)
 ·exact rngI_in _
theorem rngI_nodup (n:Nat):(rngI n).Nodup:=by
 unfold rngI
 exact List.Pairwise.map _ (fun a b h e=>h (Int.ofNat.inj e)) List.nodup_range
structure TabN (w:World) (tb sb g o c n:Nat) (root:Int) (es:List Value):Prop where
 tab:Arr w tb 145 [.slice (some ⟨g,o,none⟩) n c,.int .i64 root,.slice (some ⟨sb,0,none⟩) n n]
 srt:Arr w sb 28 es
theorem TabN.keep {w w':World} {tb sb g o c n:Nat} {root:Int} {es:List Value} (h:TabN w tb sb g o c n root es) (hb:Below w.heap.size w w'):TabN w' tb sb g o c n root es:=⟨h.tab.keep hb,h.srt.keep hb⟩
set_option maxRecDepth 20000 in
set_option maxHeartbeats 8000000 in
theorem centries1_any {B g o c tb x y k a b n:Nat} {nodes:List GNode} (hn:nodes.length=n) (hk:k<nodes.length) (hE:EntOK nodes (ndAt nodes k)) (ha:a<(ndAt nodes k).items.length) (hb:b<(ndAt nodes k).items.length) (hab:a≠b) (w:World) (hG:GRd w B g o nodes)
  (hx:w.cell? ⟨x,0,none⟩=some (.pointer (some ⟨tb,0,none⟩))) (hy:w.cell? ⟨y,0,none⟩=some (.pointer (some ⟨g,o+k*5,none⟩))) (ht:w.cell? ⟨tb,0,none⟩=some (.slice (some ⟨g,o,none⟩) n c)) :
  Calls Tryz.prog 87 #[.int .i64 (a:Int),.int .i64 (b:Int),.pointer (some ⟨x,0,none⟩),.pointer (some ⟨y,0,none⟩)] w (RetQ (cmpK nodes (ndAt nodes k) (a:Int) (b:Int)) w):=by
 have hne:=hE.ne a b ha hb hab
 have hlen:=hE.len
 obtain⟨ka,hka⟩:∃z,(ndAt nodes k).keys[a]? = some z:=⟨_,List.getElem?_eq_getElem (by omega)⟩
 obtain⟨kb,hkb⟩:∃z,(ndAt nodes k).keys[b]? = some z:=⟨_,List.getElem?_eq_getElem (by omega)⟩
 have h1L:1<(ndAt nodes k).items.length:=by omega
 obtain⟨qa,ta⟩:=hE.key h1L ka (List.mem_of_getElem? hka)
 obtain⟨qb,tb'⟩:=hE.key h1L kb (List.mem_of_getElem? hkb)
 obtain⟨ia,rfl⟩:∃z:Nat,ka=(z:Int):=⟨ka.toNat,by omega⟩
 obtain⟨ib,rfl⟩:∃z:Nat,kb=(z:Int):=⟨kb.toNat,by omega⟩
 rw [Int.toNat_natCast] at ta tb'
 have eab:cmpK nodes (ndAt nodes k) (a:Int) (b:Int)=sclV (mks (ndAt nodes ia).text) (mks (ndAt nodes ib).text):=by
  unfold cmpK keyT
  rw [Int.toNat_natCast,Int.toNat_natCast,List.getD_eq_getElem?_getD,List.getD_eq_getElem?_getD,hka,hkb]
  rfl
 rw [eab] at hne ⊢
 have ht':=ht
 rw [←hn] at ht'
 have D:=Lib.hid (fun m=>ccompare_ne (ca:=c) (cb:=c) (ta:=tb) (tb:=tb) ta tb' (w.drewN m) (hG.below (Below.drewN' (Below.refl _ _) m) hG.2.1) (hG.below (Below.drewN' (Below.refl _ _) m) hG.2.1) (drw_cell m ht') (drw_cell m ht') hne)
 obtain⟨K,ck,I,ci,_,_,_,c3,_,⟨hK,_⟩,_⟩:=hG.of_at hk
 obtain⟨ad,rfl,hca⟩:=hK.at_ (I64_get hka)
 obtain⟨ad',had',hcb⟩:=hK.at_ (I64_get hkb)
 obtain rfl:=Option.some.inj had'
 obtain⟨lk,hlk⟩:∃z,(ndAt nodes k).keys.length=z:=⟨_,rfl⟩
 rw [hlk] at c3
 have a0:(0:Int)≤a:=by omega
 have a1:(a:Int)<lk:=by omega
 have b0:(0:Int)≤b:=by omega
 have b1:(b:Int)<lk:=by omega
 generalize sclV (mks (ndAt nodes ia).text) (mks (ndAt nodes ib).text)=r at *
 clear hG hK hka hkb hlk eab hE hne hlen ha hb hab ht' had' hn hk ta tb'
 go_enter Tryz.func87,Tryz.ntmps87
 go_upto_region 1 with(fail)
 go_quiet (((go_at_call 88;exact Calls.quiet_of (D.out _))))
 go_wp2_with (fail)
 go_ret
 exact⟨rfl,nq,rfl⟩
def EntS (w6:World) (ob m:Nat) (l:List Int) (W:World):Prop:=w6.grownBy W (some ob)∧Arr W ob 3 (I64 l)∧l.Nodup∧InR m l∧l.length=m
theorem EntS.swap {w6 W:World} {ob m:Nat} {l:List Int} {j:Nat} (h:EntS w6 ob m l W) (hj:j+1<m):EntS w6 ob m (swp l j) ((W.setCell ⟨ob,j+1,none⟩ (.int .i64 (l.getD j 0))).setCell ⟨ob,j,none⟩ (.int .i64 (l.getD (j+1) 0))):=by
 obtain⟨h1,h2,h3,h4,h5⟩:=h
 refine⟨grown_trans (grown_trans h1 (grown_set W ⟨ob,j+1,none⟩ _)) (grown_set _ ⟨ob,j,none⟩ _),?_,swp_nodup (by omega) h3,fun x hx=>h4 x (swp_mem (by omega) hx),by rw [swp_len];exact h5⟩
 have h:=(h2.store (j+1) (.int .i64 (l.getD j 0))).store j (.int .i64 (l.getD (j+1) 0))
 rw [I64_set,I64_set] at h
 exact h
def EntR (w:World) (sb:Nat) (nodes:List GNode) (k:Nat) (es:List Value) (e:Ending) (w':World):Prop:=
 ∃ob,e=.returned (.slice (some ⟨ob,0,none⟩) (ndAt nodes k).items.length (ndAt nodes k).items.length)∧w.heap.size≤ob∧ob<w'.heap.size∧Hid (w.grownBy w' (some sb))∧Hid (Arr w' sb 28 (es.set k (.slice (some ⟨ob,0,none⟩) (ndAt nodes k).items.length (ndAt nodes k).items.length)))∧Hid (Rd w' (some ⟨ob,0,none⟩) (I64 (entV nodes k)))
def EntA (w:World) (sb:Nat) (nodes:List GNode) (k:Nat) (es:List Value) (e:Ending) (w':World):Prop:=
 ∃ob,e=.returned (.slice (some ⟨ob,0,none⟩) (ndAt nodes k).items.length (ndAt nodes k).items.length)∧w.heap.size≤ob∧ob<w'.heap.size∧Hid (w.grownBy w' (some sb))∧Hid (Arr w' sb 28 (es.set k (.slice (some ⟨ob,0,none⟩) (ndAt nodes k).items.length (ndAt nodes k).items.length)))∧Hid (Arr w' ob 3 (I64 (entV nodes k)))
set_option maxRecDepth 20000 in
set_option maxHeartbeats 16000000 in
theorem centriesA_any {B g o c tb sb k:Nat} {nodes:List GNode} {root:Int} {es:List Value} (hL:NL 65536 nodes) (hk:k<nodes.length) (hE:(ndAt nodes k).kind=10→(ndAt nodes k).ord=false→EntOK nodes (ndAt nodes k)) (w:World) (hG:GRd w B g o nodes) (hT:TabN w tb sb g o c nodes.length root es) (hes:es[k]? = some (.slice none 0 0)) (hB:B≤sb) :
  Calls Tryz.prog 59 #[.pointer (some ⟨tb,0,none⟩),.int .i64 (k:Int)] w (EntA w sb nodes k es):=by
 have h1:Hid (Arr (w.alloc (.cells #[.pointer (some ⟨tb,0,none⟩)] 107)) w.heap.size 107 [.pointer (some ⟨tb,0,none⟩)]):=Arr.new w _ _
 have hB1:Hid (Below w.heap.size w (w.alloc (.cells #[.pointer (some ⟨tb,0,none⟩)] 107))):=(Below.refl _ _).alloc (Nat.le_refl _) _
 have HG:=Lib.hid hG
 have HT:=Lib.hid (hT.keep hB1.out)
 have htl:=hT.tab.lt
 have hsl:=hT.srt.lt
 have hts:tb≠sb:=Arr.ne hT.tab hT.srt (by decide)
 have HES:=Lib.hid hes
 have HE:=Lib.hid hE
 have HL:=Lib.hid (hL k hk)
 have HNL:=Lib.hid hL
 have hmf:∀(fn:Fn) (first cap:Array Value) (w:World),(Instr.makeFunc fn first cap).run Tryz.prog w=.ok (.func fn first cap) w:=fun _ _ _ _=>rfl
 have k0:(0:Int)≤k:=by omega
 have k1:(k:Int)<nodes.length:=by omega
 clear hG hT hes hE hL
 go_enter Tryz.func59,Tryz.ntmps59
 go_upto_region 1 with(fail)
 generalize w.alloc (.cells #[.pointer (some ⟨tb,0,none⟩)] 107)=W at *
 obtain⟨pb,hpb⟩:∃b,w.heap.size=b:=⟨_,rfl⟩
 rw [hpb] at h1 hB1 htl hsl
 have HPB:=Lib.hid hpb
 rw [hpb]
 clear hpb
 obtain⟨n,hn⟩:∃n,nodes.length=n:=⟨_,rfl⟩
 rw [hn] at HT k1 hk
 have HN:=Lib.hid hn
 clear hn
 have hGW:=Lib.hid (HG.out.below hB1.out (by have:=HG.out.2.1;have:=HPB.out;omega))
 have x0:=h1.out.cell' (i:=0) rfl
 have t0:=HT.out.tab.cell' (i:=0) rfl
 have t2:=HT.out.tab.cell' (i:=2) rfl
 have s0:=HT.out.srt.cell' HES.out
 have hn5:Hid (Arr (W.alloc (.cells #[.pointer (some ⟨g,o+k*5,none⟩)] 110)) W.heap.size 110 [.pointer (some ⟨g,o+k*5,none⟩)]):=Arr.new W _ _
 have hb5:Hid (Below W.heap.size W (W.alloc (.cells #[.pointer (some ⟨g,o+k*5,none⟩)] 110))):=(Below.refl _ _).alloc (Nat.le_refl _) _
 go_upto_region 2 with(fail)
 clear x0 t0
 generalize (W.alloc (.cells #[.pointer (some ⟨g,o+k*5,none⟩)] 110))=w5 at *
 obtain⟨qb,hqb⟩:∃b,W.heap.size=b:=⟨_,rfl⟩
 have hs1:=hB1.out.size
 have hpl:=h1.out.lt
 rw [hqb] at hn5 hpl ⊢
 have HP5:=Lib.hid (h1.out.keep hb5.out)
 have HT5:=Lib.hid (HT.out.keep hb5.out)
 have hG5:=Lib.hid (hGW.out.below hb5.out (by exact hGW.out.2.1))
 have hB5:Hid (Below w.heap.size w w5):=by have h:=hB1.out;rw [←HPB.out] at h;exact h.trans (hb5.out.mono h.size)
 have hql:=hn5.out.lt
 clear hqb t2 s0 h1 hB1 HT hGW hb5 hs1
 obtain⟨K,ck,I,ci,c0,c1,c2,c3,c4,_,_⟩:=hG5.out.of_at (i:=k) (by rw [HN.out];exact hk)
 obtain⟨m,hm⟩:∃m,(ndAt nodes k).items.length=m:=⟨_,rfl⟩
 have HM:=Lib.hid hm
 rw [hm] at c4
 have hml:m≤65536:=by have:=HL.out.2;omega
 clear hm
 have x0:=HP5.out.cell' (i:=0) rfl
 have n0:=hn5.out.cell' (i:=0) rfl
 have t2:=HT5.out.tab.cell' (i:=2) rfl
 have s0:=HT5.out.srt.cell' HES.out
 go_upto_region 5 with(at_make;go_loud (refine wpList_mk rfl _ _ 28 rfl 3 _ _ Tryz.underlying28 infoInt rfl _ _ _ _ rfl rfl m m (by omega) (by omega) (by omega) (by omega) (by unfold maxLen;omega) ?_;intro ob w6 hob hO hb6 hz6))
 have hOz:Hid (Arr w6 ob 3 (I64 (rngI 0 ++ List.replicate (m - 0) 0))):=by rw [Nat.sub_zero];show Hid (Arr w6 ob 3 (I64 (List.replicate m 0)));rw [←I64_rep];exact hO
 have hB6:=Lib.hid (hB5.out.trans (hb6.mono hB5.out.size))
 have HP6:=Lib.hid (HP5.out.keep hb6)
 have HN6:=Lib.hid (hn5.out.keep hb6)
 have HT6:=Lib.hid (HT5.out.keep hb6)
 have hG6:=Lib.hid (hG5.out.below hb6 hG5.out.2.1)
 have lo:qb<ob:=by have:=hob.out;omega
 have lsb:sb<ob:=by omega
 have ltb:tb<ob:=by omega
 have lpb:pb<ob:=by omega
 have lgB:B≤ob:=by omega
 have hwo:w.heap.size≤ob:=by have:=hB5.out.size;have:=hob.out;omega
 clear x0 n0 t2 s0 c0 c1 c2 c3 c4 hob hO hb6 hz6 HP5 hn5 HT5 hG5 hB5
 go_upto_region 6 with(fail)
 go_loopw [38] (fun v wr=>∃(i:Nat),i≤m∧v=.int .i64 (i:Int)∧Hid (Arr wr ob 3 (I64 (rngI i ++ List.replicate (m - i) 0)))∧Hid (w6.grownBy wr (some ob))) (fun v _=>m - (intOf v).toNat)
 case atStart=>exact⟨0,Nat.zero_le _,rfl,hOz,World.grownBy.refl _ _⟩
 case round=>
  obtain⟨i,hi,rfl,hLr,hgr⟩:=hrel
  by_cases him:i=m
  ·have hi':¬(i:Int)<m:=by omega
   have hL7:Hid (Arr wr ob 3 (I64 (rngI m))):=by
    have:=hLr.out
    rw [him,Nat.sub_self,List.replicate_zero,List.append_nil] at this
    exact this
   obtain⟨w7,hw7⟩:∃x:World,x=wr:=⟨_,rfl⟩
   subst hw7
   have HP7:=Lib.hid (HP6.out.grown hgr.out (some_ne (by omega)))
   have HN7:=Lib.hid (HN6.out.grown hgr.out (some_ne (by omega)))
   have HTt7:=Lib.hid (HT6.out.tab.grown hgr.out (some_ne (by omega)))
   have HTs7:=Lib.hid (HT6.out.srt.grown hgr.out (some_ne (by omega)))
   have hG7:=Lib.hid (hG6.out.grown hgr.out lgB)
   have hwq:Hid (w.grownBy w7 (some sb)):=by
    have h:w.grownBy w6 (some sb):=⟨hB6.out.os,hB6.out.tape,hB6.out.output,hB6.out.size,fun j hj _=>hB6.out.block j hj⟩
    exact⟨hgr.out.os.trans h.os,hgr.out.tape.trans h.tape,hgr.out.output.trans h.output,Nat.le_trans h.size hgr.out.size,fun j hj hne=>(hgr.out.block j (Nat.lt_of_lt_of_le hj h.size) (fun e=>by have:=Option.some.inj e;omega)).trans (h.block j hj hne)⟩
   have hol:ob<w7.heap.size:=hL7.out.lt
   clear hLr hgr him hi hOz HP6 HN6 HT6 hG6 hB6
   obtain⟨K,ck,I,ci,c0,c1,c2,c3,c4,_,_⟩:=hG7.out.of_at (i:=k) (by rw [HN.out];exact hk)
   have x0:=HP7.out.cell' (i:=0) rfl
   have n0:=HN7.out.cell' (i:=0) rfl
   have t0:=HTt7.out.cell' (i:=0) rfl
   have t2:=HTt7.out.cell' (i:=2) rfl
   have s0:=HTs7.out.cell' HES.out
   have sf:=HTs7.out.frozen k
   clear c1 c3 c4
   by_cases hkd:(ndAt nodes k).kind=10∧(ndAt nodes k).ord=false
   ·obtain⟨hkd,hod⟩:=hkd
    have hEO:=HE.out hkd hod
    have hV:Hid (entV nodes k=insS (fun a b=>decide (cmpK nodes (ndAt nodes k) a b<0)) (rngI m)):=by show _=_;unfold entV;rw [if_pos ⟨hkd,hod⟩,HM.out]
    have hSort:SortS ob m 87 pb qb (cmpK nodes (ndAt nodes k)) (EntS w7 ob m):={
     len:=fun l W h=>h.2.2.2.2
     cell:=fun l W i h hi=>⟨h.2.1.cell' (I64_getD (by have:=h.2.2.2.2;omega)),h.2.1.frozen i⟩
     swap:=fun l W j h hj=>h.swap hj
     drew:=fun l W q h=>⟨⟨h.1.os,h.1.tape,h.1.output,h.1.size,h.1.block⟩,h.2.1,h.2.2⟩
     cmp:=fun l W j h hj=>by
      obtain⟨g1,g2,g3,g4,g5⟩:=h
      obtain⟨a,ha,ham⟩:=InR_get g4 (k:=j+1) (by omega)
      obtain⟨b,hb,hbm⟩:=InR_get g4 (k:=j) (by omega)
      have ea:l.getD (j+1) 0=(a:Int):=by rw [List.getD_eq_getElem?_getD,ha];rfl
      have eb:l.getD j 0=(b:Int):=by rw [List.getD_eq_getElem?_getD,hb];rfl
      have hab:a≠b:=by
       rintro rfl
       have h1:=(List.getElem?_inj (i:=j+1) (j:=j) (by omega) g3).1 (ha.trans hb.symm)
       omega
      rw [ea,eb]
      refine(centries1_any (k:=k) (n:=n) (c:=c) (tb:=tb) HN.out (by rw [HN.out];exact hk) hEO (by rw [HM.out];exact ham) (by rw [HM.out];exact hbm) hab W (hG7.out.grown g1 lgB) ((HP7.out.grown g1 (some_ne (by omega))).cell' (i:=0) rfl) ((HN7.out.grown g1 (some_ne (by omega))).cell' (i:=0) rfl) ((HTt7.out.grown g1 (some_ne (by omega))).cell' (i:=0) rfl)).mono ?_
      rintro e w' ⟨rfl,q,rfl⟩
      exact⟨rfl,⟨g1.os,g1.tape,g1.output,g1.size,g1.block⟩,g2,g3,g4,g5⟩ }
    have D:=Lib.hid (sortf_e (c:=m) hSort (by have:=hEO.few;have:=HM.out;omega) (rngI m) w7 ⟨World.grownBy.refl _ _,hL7.out,rngI_nodup m,rngI_in m,rngI_len m⟩)
    rw [←hV.out] at D
    rw [hkd] at c0
    rw [hod] at c2
    clear hV hSort hEO hkd hod t0
    go_upto_region 12 with(go_at_call 69;((with_reducible refine D.out.mono ?_));rintro e w8 ⟨rfl,g1,g2,g3,g4,g5⟩)
    have HP8:=Lib.hid (HP7.out.grown g1 (some_ne (by omega)))
    have HTt8:=Lib.hid (HTt7.out.grown g1 (some_ne (by omega)))
    have HTs8:=Lib.hid (HTs7.out.grown g1 (some_ne (by omega)))
    have hw8:Hid (w.grownBy w8 (some sb)):=⟨g1.os.trans hwq.out.os,g1.tape.trans hwq.out.tape,g1.output.trans hwq.out.output,Nat.le_trans hwq.out.size g1.size,fun j hj hne=>(g1.block j (Nat.lt_of_lt_of_le hj hwq.out.size) (fun e=>by have:=Option.some.inj e;omega)).trans (hwq.out.block j hj hne)⟩
    have hA8:=Lib.hid g2
    clear x0 n0 t2 s0 sf c0 c2 g1 g2 g3 g4 g5 HP7 HTt7 HTs7 hwq hL7 D hG7 HN7
    have x0:=HP8.out.cell' (i:=0) rfl
    have t2:=HTt8.out.cell' (i:=2) rfl
    have s0:=HTs8.out.cell' HES.out
    have sf:=HTs8.out.frozen k
    have hF:Hid (EntA w sb nodes k es (.returned (.slice (some ⟨ob,0,none⟩) m m)) (w8.setCell ⟨sb,k,none⟩ (.slice (some ⟨ob,0,none⟩) m m))):=by
     have h:=HM.out
     unfold EntA
     rw [h]
     exact⟨ob,rfl,hwo,by simp [World.setCell];exact hA8.out.lt,grown_trans hw8.out (grown_set w8 ⟨sb,k,none⟩ _),HTs8.out.store k _,(hA8.out.far (p:=⟨sb,k,none⟩) (show ob≠sb by omega) _)⟩
    clear HTs8 HTt8 HP8 hA8 hw8
    go_wp2_with (fail)
    go_ret
    exact hF.out
   ·have hV:Hid (entV nodes k=rngI m):=by show _=_;unfold entV;rw [if_neg hkd,HM.out]
    have hF:Hid (EntA w sb nodes k es (.returned (.slice (some ⟨ob,0,none⟩) m m)) (w7.setCell ⟨sb,k,none⟩ (.slice (some ⟨ob,0,none⟩) m m))):=by
     have h:=HM.out
     unfold EntA
     rw [h,hV.out]
     exact⟨ob,rfl,hwo,by simp [World.setCell];exact hol,grown_trans hwq.out (grown_set w7 ⟨sb,k,none⟩ _),HTs7.out.store k _,(hL7.out.far (p:=⟨sb,k,none⟩) (show ob≠sb by omega) _)⟩
    clear hV HTs7 HTt7 HP7 hwq hL7 hG7 HN7 t0
    by_cases hk10:(ndAt nodes k).kind=10
    ·have hod:(ndAt nodes k).ord=true:=by
      cases ho:(ndAt nodes k).ord with
      | true=>rfl
      | false=>exact absurd ⟨hk10,ho⟩ hkd
     rw [hk10] at c0
     rw [hod] at c2
     clear hkd hk10 hod
     go_wp2_with (fail)
     go_ret
     exact hF.out
    ·have hk2:((ndAt nodes k).kind == 10)=false:=by simpa using hk10
     clear hkd hk10
     go_wp2_with (fail)
     go_ret
     exact hF.out
  ·have hi':(i:Int)<m:=by omega
   have i0:(0:Int)≤i:=by omega
   have p0:wr.cell? ⟨ob,i,none⟩=some (.int .i64 0):=hLr.out.cell' (i:=i) (by
    unfold I64
    rw [List.getElem?_map,List.getElem?_append_right (by rw [rngI_len];exact Nat.le_refl _),rngI_len,Nat.sub_self,List.getElem?_replicate,if_pos (by omega)];rfl)
   have pf:=hLr.out.frozen i
   have hL5:Hid (Arr (wr.setCell ⟨ob,i,none⟩ (.int .i64 (i:Int))) ob 3 (I64 (rngI (i+1) ++ List.replicate (m - (i+1)) 0))):=by
    have h:=hLr.out.store i (.int .i64 (i:Int))
    rw [I64_set,rng_set (by omega)] at h
    exact h
   have hg5:=Lib.hid (grown_trans hgr.out (grown_set wr ⟨ob,i,none⟩ (.int .i64 (i:Int))))
   clear hLr hgr
   go_wp2_with (fail)
   go_roundw
   case rel=>exact⟨i+1,by omega,i64e (by omega),hL5,hg5⟩
   case measure=>simp [intOf];omega
theorem centries_any {B g o c tb sb k:Nat} {nodes:List GNode} {root:Int} {es:List Value} (hL:NL 65536 nodes) (hk:k<nodes.length) (hE:(ndAt nodes k).kind=10→(ndAt nodes k).ord=false→EntOK nodes (ndAt nodes k)) (w:World) (hG:GRd w B g o nodes) (hT:TabN w tb sb g o c nodes.length root es) (hes:es[k]? = some (.slice none 0 0)) (hB:B≤sb) :
  Calls Tryz.prog 59 #[.pointer (some ⟨tb,0,none⟩),.int .i64 (k:Int)] w (EntR w sb nodes k es):=
 (centriesA_any (c:=c) hL hk hE w hG hT hes hB).mono (fun e w' h=>by
  obtain⟨ob,h1,h2,h3,h4,h5,h6⟩:=h
  exact⟨ob,h1,h2,h3,h4,h5,h6.out.rd⟩)
end Go.Proofs.YtnnnagnjikdnnaaGreatDoor
namespace Go.Proofs.YtnnnagnjikdnnaaGreatDoor
open Go.RowKit
structure NSt where
 at_:List Int
 cnt:Nat
 out:List GNode
def loopN (v:Int→NSt→Option (Int×NSt)) (nd:GNode):List Int→List Int×List Int×NSt→Option (List Int×List Int×NSt)
 | [],x=>some x
 | k :: r,(ks,is,s)=>
  match (if nd.kind=10 then (v (nd.keys.getD k.toNat 0) s).map (fun p=>(ks ++ [p.1],p.2)) else some (ks,s)) with
  | none=>none
  | some (ks',s')=>match v (nd.items.getD k.toNat 0) s' with
   | none=>none
   | some (i,s'')=>loopN v nd r (ks',is ++ [i],s'')
def visitN (nodes:List GNode) (ent:Nat→List Int):Nat→Int→NSt→Option (Int×NSt)
 | 0,_,_=>none
 | f+1,k,s=>
  if 0≤s.at_.getD k.toNat 0 then some (s.at_.getD k.toNat 0,s)
  else match loopN (visitN nodes ent f) (ndAt nodes k.toNat) (ent k.toNat) ([],[],{ s with at_:=s.at_.set k.toNat s.cnt,cnt:=s.cnt+1 }) with
   | none=>none
   | some (ks,is,s')=>some ((s.cnt:Int),{ s' with out:=s'.out.set s.cnt ⟨(ndAt nodes k.toNat).kind,(ndAt nodes k.toNat).text,(ndAt nodes k.toNat).ord,ks,is⟩ })
def nd0:GNode:=⟨0,[],false,[],[]⟩
end Go.Proofs.YtnnnagnjikdnnaaGreatDoor
namespace Go.Proofs.YtnnnagnjikdnnaaGreatDoor
open Go.RowKit
structure NmB where
  bat:Nat
  cn:Nat
  gr:Nat
  tp:Nat
  vi:Nat
  ou:Nat
  am:Nat
  om:Nat
  tb:Nat
  sb:Nat
def normFn (e:NmB):Value:=.func (.func 58) #[] #[.pointer (some ⟨e.bat,0,none⟩),.pointer (some ⟨e.cn,0,none⟩),.pointer (some ⟨e.gr,0,none⟩),.pointer (some ⟨e.tp,0,none⟩),.pointer (some ⟨e.vi,0,none⟩),.pointer (some ⟨e.ou,0,none⟩)]
def NmF (e:NmB) (b:Nat):Prop:=b=e.am∨b=e.cn∨b=e.om∨b=e.sb
def NmLt (e:NmB) (z:Nat):Prop:=e.bat<z∧e.cn<z∧e.gr<z∧e.tp<z∧e.vi<z∧e.ou<z∧e.am<z∧e.om<z∧e.tb<z∧e.sb<z
structure NmE (w0 w:World) (B g o c:Nat) (nodes:List GNode) (root:Int) (e:NmB) (R:Nat→Prop) (s:NSt) (ncs es:List Value):Prop where
  be:Below B w0 w
  gd:GRd w B g o nodes
  bat:Arr w e.bat 28 [.slice (some ⟨e.am,0,none⟩) nodes.length nodes.length]
  cn:Arr w e.cn 3 [.int .i64 (s.cnt:Int)]
  gr:Arr w e.gr 26 [.slice (some ⟨g,o,none⟩) nodes.length c,.int .i64 root]
  tp:Arr w e.tp 107 [.pointer (some ⟨e.tb,0,none⟩)]
  vi:Arr w e.vi 109 [normFn e]
  ou:Arr w e.ou 26 [.slice (some ⟨e.om,0,none⟩) nodes.length nodes.length,.int .i64 0]
  am:Arr w e.am 3 (I64 s.at_)
  om:Arr w e.om 30 ncs
  rd:NodesRd w R ncs s.out
  rl:∀b,R b→B≤b∧b≠e.am∧b≠e.cn
  tab:TabN w e.tb e.sb g o c nodes.length root es
  lo:∀b,NmF e b→B≤b
  d1:e.am≠e.cn
  d2:e.gr≠e.ou
  d3:e.bat≠e.sb
def negs (l:List Int):Nat:=l.countP (fun x=>decide (x<0))
structure NmS (n:Nat) (s:NSt) (es:List Value):Prop where
  al:s.at_.length=n
  ol:s.out.length=n
  el:es.length=n
  nil:∀k,k<n→s.at_.getD k 0<0→es[k]? = some (.slice none 0 0)
  cc:s.cnt+negs s.at_≤n
theorem negs_set {l:List Int} {k:Nat} {v:Int} (hk:k<l.length) (h:l.getD k 0<0) (hv:0≤v):negs (l.set k v)+1=negs l:=by
  unfold negs
  induction l generalizing k with
  | nil=>simp at hk
  | cons a l ih=>
    cases k with
    | zero=>
      have ha:a<0:=by simpa using h
      have hv':¬v<0:=by omega
      simp [ha,hv']
    | succ k=>
      have:=ih (k:=k) (by simpa using hk) (by simpa using h)
      simp only [List.set_cons_succ,List.countP_cons]
      omega
theorem arr_puts {g:Nat} {t:TypeId}:∀(vs:List Value) (o:Nat) {w:World} {xs:List Value},Arr w g t xs→Arr (w.setCells g o vs) g t (setL xs o vs)
  | [],_,_,_,h=>h
  | v :: r,o,_,_,h=>arr_puts r (o+1) (h.store o v)
section
variable {w0 w w':World} {B g o c:Nat} {nodes:List GNode} {root:Int} {e:NmB} {R:Nat→Prop} {s:NSt} {ncs es:List Value}
theorem NmE.hi (h:NmE w0 w B g o c nodes root e R s ncs es):∀b,NmF e b→b<w.heap.size:=fun b hb=>by
  rcases hb with rfl | rfl | rfl | rfl
  · exact h.am.lt
  · exact h.cn.lt
  · exact h.om.lt
  · exact h.tab.srt.lt
theorem NmE.fr (h:NmE w0 w B g o c nodes root e R s ncs es):¬NmF e e.bat∧¬NmF e e.gr∧¬NmF e e.tp∧¬NmF e e.vi∧¬NmF e e.ou∧¬NmF e e.tb:=by
  refine⟨?_,?_,?_,?_,?_,?_⟩
  · rintro(k | k | k | k)
    · exact kind_ne h.bat h.am (by decide) k
    · exact kind_ne h.bat h.cn (by decide) k
    · exact kind_ne h.bat h.om (by decide) k
    · exact h.d3 k
  · rintro(k | k | k | k)
    · exact kind_ne h.gr h.am (by decide) k
    · exact kind_ne h.gr h.cn (by decide) k
    · exact kind_ne h.gr h.om (by decide) k
    · exact kind_ne h.gr h.tab.srt (by decide) k
  · rintro(k | k | k | k)
    · exact kind_ne h.tp h.am (by decide) k
    · exact kind_ne h.tp h.cn (by decide) k
    · exact kind_ne h.tp h.om (by decide) k
    · exact kind_ne h.tp h.tab.srt (by decide) k
  · rintro(k | k | k | k)
    · exact kind_ne h.vi h.am (by decide) k
    · exact kind_ne h.vi h.cn (by decide) k
    · exact kind_ne h.vi h.om (by decide) k
    · exact kind_ne h.vi h.tab.srt (by decide) k
  · rintro(k | k | k | k)
    · exact kind_ne h.ou h.am (by decide) k
    · exact kind_ne h.ou h.cn (by decide) k
    · exact kind_ne h.ou h.om (by decide) k
    · exact kind_ne h.ou h.tab.srt (by decide) k
  · rintro(k | k | k | k)
    · exact kind_ne h.tab.tab h.am (by decide) k
    · exact kind_ne h.tab.tab h.cn (by decide) k
    · exact kind_ne h.tab.tab h.om (by decide) k
    · exact kind_ne h.tab.tab h.tab.srt (by decide) k
theorem NmE.below (h:NmE w0 w B g o c nodes root e R s ncs es) {z:Nat} (hb:Below z w w') (hz:∀b,b<w.heap.size→B≤b→b<z) (hBz:B≤z):NmE w0 w' B g o c nodes root e R s ncs es:=by
  have hk:∀{b:Nat} {t:TypeId} {xs:List Value},Arr w b t xs→b<z→Arr w' b t xs:=fun ha hl=>ha.below hb hl
  have hz':∀b,b<w.heap.size→b<z:=fun b hb=>by
    by_cases h1:B≤b
    · exact hz b hb h1
    · omega
  exact { be := h.be.trans (hb.mono hBz)
          gd:=h.gd.below hb hBz
          bat:=hk h.bat (hz' _ h.bat.lt)
          cn:=hk h.cn (hz' _ h.cn.lt)
          gr:=hk h.gr (hz' _ h.gr.lt)
          tp:=hk h.tp (hz' _ h.tp.lt)
          vi:=hk h.vi (hz' _ h.vi.lt)
          ou:=hk h.ou (hz' _ h.ou.lt)
          am:=hk h.am (hz' _ h.am.lt)
          om:=hk h.om (hz' _ h.om.lt)
          rd:=h.rd.over fun b hl hF _=>⟨hb.block b (hz' b hl),hF⟩
          tab:=⟨hk h.tab.tab (hz' _ h.tab.tab.lt),hk h.tab.srt (hz' _ h.tab.srt.lt)⟩
          rl:=h.rl
          lo:=h.lo
          d1:=h.d1
          d2:=h.d2
          d3:=h.d3 }
theorem NmE.kept (h:NmE w0 w B g o c nodes root e R s ncs es) (hb:Below w.heap.size w w'):NmE w0 w' B g o c nodes root e R s ncs es:=h.below hb (fun _ h _=>h) h.gd.2.1
theorem NmE.blt (h:NmE w0 w B g o c nodes root e R s ncs es):NmLt e w.heap.size:=⟨h.bat.lt,h.cn.lt,h.gr.lt,h.tp.lt,h.vi.lt,h.ou.lt,h.am.lt,h.om.lt,h.tab.tab.lt,h.tab.srt.lt⟩
theorem NmE.rows (h:NmE w0 w B g o c nodes root e R s ncs es) {R':Nat→Prop} (h1:∀b,b<w.heap.size→R b→R' b) (h2:∀b,R' b→B≤b∧b≠e.am∧b≠e.cn):NmE w0 w B g o c nodes root e R' s ncs es:=
  { h with rd:=h.rd.over fun b hl hF _=>⟨rfl,h1 b hl hF⟩,rl:=h2 }
theorem NmE.far (h:NmE w0 w B g o c nodes root e R s ncs es) {z:Nat} {r:Option Nat} (hg:w.grownBy w' r) (hr:∀b,r=some b→z≤b∧(¬R b∨∃t cs,Arr w b t cs∧t≠3)) (hz:NmLt e z) (hBz:B≤z):NmE w0 w' B g o c nodes root e R s ncs es:=by
  obtain⟨z1,z2,z3,z4,z5,z6,z7,z8,z9,z10⟩:=hz
  have hk:∀{b:Nat} {t:TypeId} {xs:List Value},Arr w b t xs→b<z→Arr w' b t xs:=fun ha hl=>ha.grown hg (fun e=>by have:=(hr _ e.symm).1;omega)
  have hB:∀b,r=some b→B≤b:=fun b e=>by have:=(hr b e).1;omega
  exact { be := h.be.trans (below_of_grown hg h.gd.2.1 hB)
          gd:=h.gd.grownO hg hB
          bat:=hk h.bat z1
          cn:=hk h.cn z2
          gr:=hk h.gr z3
          tp:=hk h.tp z4
          vi:=hk h.vi z5
          ou:=hk h.ou z6
          am:=hk h.am z7
          om:=hk h.om z8
          rd:=h.rd.over fun b hl hF hi=>⟨hg.block b hl (fun e=>(hr b e.symm).2.elim (fun k=>k hF) (fun⟨t,cs,ha,ht⟩=>by
            obtain⟨C,fz,hc⟩:=hi
            exact ht (cells_kind ha hc))),hF⟩
          tab:=⟨hk h.tab.tab z9,hk h.tab.srt z10⟩
          rl:=h.rl
          lo:=h.lo
          d1:=h.d1
          d2:=h.d2
          d3:=h.d3 }
theorem NmE.set_am (h:NmE w0 w B g o c nodes root e R s ncs es) (k:Nat) (v:Int):NmE w0 (w.setCell ⟨e.am,k,none⟩ (.int .i64 v)) B g o c nodes root e R { s with at_:=s.at_.set k v } ncs es:=by
  obtain⟨f1,f2,f3,f4,f5,f6⟩:=h.fr
  have hB:=h.lo _ (.inl rfl)
  exact { be := h.be.setCell (p := ⟨e.am, k, none⟩) hB _
          gd:=h.gd.grown (grown_set w ⟨e.am,k,none⟩ _) hB
          bat:=h.bat.far (p:=⟨e.am,k,none⟩) (fun e=>f1 (.inl e)) _
          cn:=h.cn.far (p:=⟨e.am,k,none⟩) (Ne.symm h.d1) _
          gr:=h.gr.far (p:=⟨e.am,k,none⟩) (fun e=>f2 (.inl e)) _
          tp:=h.tp.far (p:=⟨e.am,k,none⟩) (fun e=>f3 (.inl e)) _
          vi:=h.vi.far (p:=⟨e.am,k,none⟩) (fun e=>f4 (.inl e)) _
          ou:=h.ou.far (p:=⟨e.am,k,none⟩) (fun e=>f5 (.inl e)) _
          am:=by have:=h.am.store k (.int .i64 v);rw [I64_set] at this;exact this
          om:=h.om.far (p:=⟨e.am,k,none⟩) (kind_ne h.om h.am (by decide)) _
          rd:=h.rd.over fun b _ hF _=>⟨setCell_heap_ne _ _ _ (h.rl b hF).2.1,hF⟩
          tab:=⟨h.tab.tab.far (p:=⟨e.am,k,none⟩) (fun e=>f6 (.inl e)) _,h.tab.srt.far (p:=⟨e.am,k,none⟩) (kind_ne h.tab.srt h.am (by decide)) _⟩
          rl:=h.rl
          lo:=h.lo
          d1:=h.d1
          d2:=h.d2
          d3:=h.d3 }
theorem NmE.set_cn (h:NmE w0 w B g o c nodes root e R s ncs es) (v:Nat):NmE w0 (w.setCell ⟨e.cn,0,none⟩ (.int .i64 (v:Int))) B g o c nodes root e R { s with cnt:=v } ncs es:=by
  obtain⟨f1,f2,f3,f4,f5,f6⟩:=h.fr
  have hB:=h.lo _ (.inr (.inl rfl))
  exact { be := h.be.setCell (p := ⟨e.cn, 0, none⟩) hB _
          gd:=h.gd.grown (grown_set w ⟨e.cn,0,none⟩ _) hB
          bat:=h.bat.far (p:=⟨e.cn,0,none⟩) (fun e=>f1 (.inr (.inl e))) _
          cn:=h.cn.store 0 _
          gr:=h.gr.far (p:=⟨e.cn,0,none⟩) (fun e=>f2 (.inr (.inl e))) _
          tp:=h.tp.far (p:=⟨e.cn,0,none⟩) (fun e=>f3 (.inr (.inl e))) _
          vi:=h.vi.far (p:=⟨e.cn,0,none⟩) (fun e=>f4 (.inr (.inl e))) _
          ou:=h.ou.far (p:=⟨e.cn,0,none⟩) (fun e=>f5 (.inr (.inl e))) _
          am:=h.am.far (p:=⟨e.cn,0,none⟩) h.d1 _
          om:=h.om.far (p:=⟨e.cn,0,none⟩) (kind_ne h.om h.cn (by decide)) _
          rd:=h.rd.over fun b _ hF _=>⟨setCell_heap_ne _ _ _ (h.rl b hF).2.2,hF⟩
          tab:=⟨h.tab.tab.far (p:=⟨e.cn,0,none⟩) (fun e=>f6 (.inr (.inl e))) _,h.tab.srt.far (p:=⟨e.cn,0,none⟩) (kind_ne h.tab.srt h.cn (by decide)) _⟩
          rl:=h.rl
          lo:=h.lo
          d1:=h.d1
          d2:=h.d2
          d3:=h.d3 }
theorem NmE.set_sb (h:NmE w0 w B g o c nodes root e R s ncs es) {es':List Value} (hg:w.grownBy w' (some e.sb)) (hA:Arr w' e.sb 28 es'):NmE w0 w' B g o c nodes root e R s ncs es':=by
  obtain⟨f1,f2,f3,f4,f5,f6⟩:=h.fr
  have hB:=h.lo _ (.inr (.inr (.inr rfl)))
  have k4:∀{x:Nat},¬NmF e x→some x≠some e.sb:=fun hf=>some_ne (fun k=>hf (.inr (.inr (.inr k))))
  exact { be := below_row h.be hg h.gd.2.1 hB
          gd:=h.gd.grown hg hB
          bat:=h.bat.grown hg (k4 f1)
          cn:=h.cn.grown hg (some_ne (kind_ne h.cn h.tab.srt (by decide)))
          gr:=h.gr.grown hg (k4 f2)
          tp:=h.tp.grown hg (k4 f3)
          vi:=h.vi.grown hg (k4 f4)
          ou:=h.ou.grown hg (k4 f5)
          am:=h.am.grown hg (some_ne (kind_ne h.am h.tab.srt (by decide)))
          om:=h.om.grown hg (some_ne (kind_ne h.om h.tab.srt (by decide)))
          rd:=h.rd.over fun b hl hF hi=>⟨hg.block b hl (fun k=>by
            have:=Option.some.inj k
            subst this
            obtain⟨C,fz,hc⟩:=hi
            exact absurd (cells_kind hc h.tab.srt) (by decide)),hF⟩
          tab:=⟨h.tab.tab.grown hg (k4 f6),hA⟩
          rl:=h.rl
          lo:=h.lo
          d1:=h.d1
          d2:=h.d2
          d3:=h.d3 }
theorem NmE.set_om (h:NmE w0 w B g o c nodes root e R s ncs es) {i:Nat} (hi:i<s.out.length) {cs:List Value} {nd:GNode} (hn:NodeRd w R cs nd):NmE w0 (w.setCells e.om (i*5) cs) B g o c nodes root e R { s with out:=s.out.set i nd } (setL ncs (i*5) cs) es:=by
  obtain⟨f1,f2,f3,f4,f5,f6⟩:=h.fr
  have hB:=h.lo _ (.inr (.inr (.inl rfl)))
  have hbl:∀b,b≠e.om→(w.setCells e.om (i*5) cs).heap[b]? = w.heap[b]?:=fun b hb=>heap_setCells e.om cs _ w hb
  obtain⟨q1,q2,q3⟩:=same_setCells e.om cs (i*5) w
  have hg:w.grownBy (w.setCells e.om (i*5) cs) (some e.om):=⟨q1,q2,q3,by rw [size_setCells];exact Nat.le_refl _,fun j _ hj=>hbl j (fun e=>hj (by rw [e]))⟩
  have k4:∀{x:Nat},¬NmF e x→some x≠some e.om:=fun hf=>some_ne (fun k=>hf (.inr (.inr (.inl k))))
  exact { be := below_row h.be hg h.gd.2.1 hB
          gd:=h.gd.grown hg hB
          bat:=h.bat.grown hg (k4 f1)
          cn:=h.cn.grown hg (some_ne (kind_ne h.cn h.om (by decide)))
          gr:=h.gr.grown hg (k4 f2)
          tp:=h.tp.grown hg (k4 f3)
          vi:=h.vi.grown hg (k4 f4)
          ou:=h.ou.grown hg (k4 f5)
          am:=h.am.grown hg (some_ne (kind_ne h.am h.om (by decide)))
          om:=arr_puts cs (i*5) h.om
          rd:=(NodesRd.put (st:=⟨[],s.out,[]⟩) h.rd hi hn).over fun b hl hF hi=>⟨hbl b (fun k=>by
            subst k
            obtain⟨C,fz,hc⟩:=hi
            exact absurd (cells_kind hc h.om) (by decide)),hF⟩
          tab:=⟨h.tab.tab.grown hg (k4 f6),h.tab.srt.grown hg (some_ne (kind_ne h.tab.srt h.om (by decide)))⟩
          rl:=h.rl
          lo:=h.lo
          d1:=h.d1
          d2:=h.d2
          d3:=h.d3 }
end
end Go.Proofs.YtnnnagnjikdnnaaGreatDoor
