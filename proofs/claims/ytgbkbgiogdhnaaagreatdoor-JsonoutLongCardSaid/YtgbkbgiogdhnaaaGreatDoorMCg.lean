/- The walk of canon's entries where the keys of unordered maps are at most twelve different texts. -/
import Derived.Test.YtgbkbgiogdhnaaaGreatDoorMCb
import Derived.Test.YtgbkbgiogdhnaaaGreatDoorMCc
import Derived.Test.YtgbkbgiogdhnaaaGreatDoorMCf
import Derived.Test.YtgbkbgiogdhnaaaGreatDoorMAe
import Derived.Test.YtgbkbgiogdhnaaaGreatDoorMAb
import Derived.Lib.FrozenHead2
import Derived.Test.YtgbkbgiogdhnaaaGreatDoorMAa
import Derived.Test.YtgbkbgiogdhnaaaGreatDoorMAf
set_option linter.unusedVariables false
set_option linter.unusedSimpArgs false
set_option linter.defProp false
set_option linter.constructorNameAsVariable false
namespace Go.Proofs.YtgbkbgiogdhnaaaGreatDoor
open Go.RowKit
def keyT (nodes:List GNode) (nd:GNode) (a:Int):List Nat:=(ndAt nodes (nd.keys.getD a.toNat 0).toNat).text
def cmpK (nodes:List GNode) (nd:GNode) (a b:Int):Int:=sclV (mks (keyT nodes nd a)) (mks (keyT nodes nd b))
def entV (nodes:List GNode) (k:Nat):List Int:=
 if (ndAt nodes k).kind=10∧(ndAt nodes k).ord=false then insS (fun a b=>decide (cmpK nodes (ndAt nodes k) a b<0)) (rngI (ndAt nodes k).items.length) else rngI (ndAt nodes k).items.length
structure EntOK (nodes:List GNode) (nd:GNode):Prop where
 len:nd.keys.length=nd.items.length
 few:nd.items.length≤12
 key:∀x∈nd.keys,0≤x∧TextN nodes x.toNat
 ne:∀a b:Nat,a<nd.items.length→b<nd.items.length→a≠b→cmpK nodes nd (a:Int) (b:Int)≠0
theorem entV_len (nodes:List GNode) (k:Nat):(entV nodes k).length=(ndAt nodes k).items.length:=by
 unfold entV
 split
 ·rw [insS_len,rngI_len]
 ·rw [rngI_len]
theorem entV_in (nodes:List GNode) (k:Nat):InR (ndAt nodes k).items.length (entV nodes k):=by
 unfold entV
 split
 ·exact fun x hx=>rngI_in _ x (insS_mem _ _ x hx)
 ·exact rngI_in _
theorem rngI_nodup (n:Nat):(rngI n).Nodup:=by
 unfold rngI
 exact List.Pairwise.map _ (fun a b h e=>h (Int.ofNat.inj e)) List.nodup_range
structure TabN (w:World) (tb sb g o c n:Nat) (root:Int) (es:List Value):Prop where
 tab:Arr w tb 204 [.slice (some ⟨g,o,none⟩) n c,.int .i64 root,.slice (some ⟨sb,0,none⟩) n n]
 srt:Arr w sb 41 es
theorem TabN.keep {w w':World} {tb sb g o c n:Nat} {root:Int} {es:List Value} (h:TabN w tb sb g o c n root es) (hb:Below w.heap.size w w'):TabN w' tb sb g o c n root es:=⟨h.tab.keep hb,h.srt.keep hb⟩
set_option maxRecDepth 20000 in
set_option maxHeartbeats 8000000 in
theorem centries1_any {B g o c tb x y k a b n:Nat} {nodes:List GNode} (hn:nodes.length=n) (hk:k<nodes.length) (hE:EntOK nodes (ndAt nodes k)) (ha:a<(ndAt nodes k).items.length) (hb:b<(ndAt nodes k).items.length) (hab:a≠b) (w:World) (hG:GRd w B g o nodes)
  (hx:w.cell? ⟨x,0,none⟩=some (.pointer (some ⟨tb,0,none⟩))) (hy:w.cell? ⟨y,0,none⟩=some (.pointer (some ⟨g,o+k*5,none⟩))) (ht:w.cell? ⟨tb,0,none⟩=some (.slice (some ⟨g,o,none⟩) n c)) :
  Calls Tryz.prog 141 #[.int .i64 (a:Int),.int .i64 (b:Int),.pointer (some ⟨x,0,none⟩),.pointer (some ⟨y,0,none⟩)] w (RetQ (cmpK nodes (ndAt nodes k) (a:Int) (b:Int)) w):=by
 have hne:=hE.ne a b ha hb hab
 have hlen:=hE.len
 obtain⟨ka,hka⟩:∃z,(ndAt nodes k).keys[a]? = some z:=⟨_,List.getElem?_eq_getElem (by omega)⟩
 obtain⟨kb,hkb⟩:∃z,(ndAt nodes k).keys[b]? = some z:=⟨_,List.getElem?_eq_getElem (by omega)⟩
 obtain⟨qa,ta⟩:=hE.key ka (List.mem_of_getElem? hka)
 obtain⟨qb,tb'⟩:=hE.key kb (List.mem_of_getElem? hkb)
 obtain⟨ia,rfl⟩:∃z:Nat,ka=(z:Int):=⟨ka.toNat,by omega⟩
 obtain⟨ib,rfl⟩:∃z:Nat,kb=(z:Int):=⟨kb.toNat,by omega⟩
 rw [Int.toNat_natCast] at ta tb'
 have eab:cmpK nodes (ndAt nodes k) (a:Int) (b:Int)=sclV (mks (ndAt nodes ia).text) (mks (ndAt nodes ib).text):=by
  unfold cmpK keyT
  rw [Int.toNat_natCast,Int.toNat_natCast,List.getD_eq_getElem?_getD,List.getD_eq_getElem?_getD,hka,hkb]
  rfl
 rw [eab] at hne ⊢
 have ht':=ht
 rw [←hn] at ht'
 have D:=Lib.hid (fun m=>ccompare_ne (ca:=c) (cb:=c) (ta:=tb) (tb:=tb) ta tb' (w.drewN m) (hG.below (Below.drewN' (Below.refl _ _) m) hG.2.1) (hG.below (Below.drewN' (Below.refl _ _) m) hG.2.1) (drw_cell m ht') (drw_cell m ht') hne)
 obtain⟨K,ck,I,ci,_,_,_,c3,_,⟨hK,_⟩,_⟩:=hG.of_at hk
 obtain⟨ad,rfl,hca⟩:=hK.at_ (I64_get hka)
 obtain⟨ad',had',hcb⟩:=hK.at_ (I64_get hkb)
 obtain rfl:=Option.some.inj had'
 obtain⟨lk,hlk⟩:∃z,(ndAt nodes k).keys.length=z:=⟨_,rfl⟩
 rw [hlk] at c3
 have a0:(0:Int)≤a:=by omega
 have a1:(a:Int)<lk:=by omega
 have b0:(0:Int)≤b:=by omega
 have b1:(b:Int)<lk:=by omega
 generalize sclV (mks (ndAt nodes ia).text) (mks (ndAt nodes ib).text)=r at *
 clear hG hK hka hkb hlk eab hE hne hlen ha hb hab ht' had' hn hk ta tb'
 go_enter Tryz.func141,Tryz.ntmps141
 go_upto_region 1 with(fail)
 go_quiet (((go_at_call 139;exact Calls.quiet_of (D.out _))))
 go_wp2_with (fail)
 go_ret
 exact⟨rfl,nq,rfl⟩
def EntS (w6:World) (ob m:Nat) (l:List Int) (W:World):Prop:=w6.grownBy W (some ob)∧Arr W ob 3 (I64 l)∧l.Nodup∧InR m l∧l.length=m
theorem EntS.swap {w6 W:World} {ob m:Nat} {l:List Int} {j:Nat} (h:EntS w6 ob m l W) (hj:j+1<m):EntS w6 ob m (swp l j) ((W.setCell ⟨ob,j+1,none⟩ (.int .i64 (l.getD j 0))).setCell ⟨ob,j,none⟩ (.int .i64 (l.getD (j+1) 0))):=by
 obtain⟨h1,h2,h3,h4,h5⟩:=h
 refine⟨grown_trans (grown_trans h1 (grown_set W ⟨ob,j+1,none⟩ _)) (grown_set _ ⟨ob,j,none⟩ _),?_,swp_nodup (by omega) h3,fun x hx=>h4 x (swp_mem (by omega) hx),by rw [swp_len];exact h5⟩
 have h:=(h2.store (j+1) (.int .i64 (l.getD j 0))).store j (.int .i64 (l.getD (j+1) 0))
 rw [I64_set,I64_set] at h
 exact h
def EntR (w:World) (sb:Nat) (nodes:List GNode) (k:Nat) (es:List Value) (e:Ending) (w':World):Prop:=
 ∃ob,e=.returned (.slice (some ⟨ob,0,none⟩) (ndAt nodes k).items.length (ndAt nodes k).items.length)∧w.heap.size≤ob∧ob<w'.heap.size∧Hid (w.grownBy w' (some sb))∧Hid (Arr w' sb 41 (es.set k (.slice (some ⟨ob,0,none⟩) (ndAt nodes k).items.length (ndAt nodes k).items.length)))∧Hid (Rd w' (some ⟨ob,0,none⟩) (I64 (entV nodes k)))
set_option maxRecDepth 20000 in
set_option maxHeartbeats 16000000 in
theorem centries_any {B g o c tb sb k:Nat} {nodes:List GNode} {root:Int} {es:List Value} (hL:NL 65536 nodes) (hk:k<nodes.length) (hE:(ndAt nodes k).kind=10→(ndAt nodes k).ord=false→EntOK nodes (ndAt nodes k)) (w:World) (hG:GRd w B g o nodes) (hT:TabN w tb sb g o c nodes.length root es) (hes:es[k]? = some (.slice none 0 0)) (hB:B≤sb) :
  Calls Tryz.prog 105 #[.pointer (some ⟨tb,0,none⟩),.int .i64 (k:Int)] w (EntR w sb nodes k es):=by
 have h1:Hid (Arr (w.alloc (.cells #[.pointer (some ⟨tb,0,none⟩)] 166)) w.heap.size 166 [.pointer (some ⟨tb,0,none⟩)]):=Arr.new w _ _
 have hB1:Hid (Below w.heap.size w (w.alloc (.cells #[.pointer (some ⟨tb,0,none⟩)] 166))):=(Below.refl _ _).alloc (Nat.le_refl _) _
 have HG:=Lib.hid hG
 have HT:=Lib.hid (hT.keep hB1.out)
 have htl:=hT.tab.lt
 have hsl:=hT.srt.lt
 have hts:tb≠sb:=Arr.ne hT.tab hT.srt (by decide)
 have HES:=Lib.hid hes
 have HE:=Lib.hid hE
 have HL:=Lib.hid (hL k hk)
 have HNL:=Lib.hid hL
 have hmf:∀(fn:Fn) (first cap:Array Value) (w:World),(Instr.makeFunc fn first cap).run Tryz.prog w=.ok (.func fn first cap) w:=fun _ _ _ _=>rfl
 have k0:(0:Int)≤k:=by omega
 have k1:(k:Int)<nodes.length:=by omega
 clear hG hT hes hE hL
 go_enter Tryz.func105,Tryz.ntmps105
 go_upto_region 1 with(fail)
 generalize w.alloc (.cells #[.pointer (some ⟨tb,0,none⟩)] 166)=W at *
 obtain⟨pb,hpb⟩:∃b,w.heap.size=b:=⟨_,rfl⟩
 rw [hpb] at h1 hB1 htl hsl
 have HPB:=Lib.hid hpb
 rw [hpb]
 clear hpb
 obtain⟨n,hn⟩:∃n,nodes.length=n:=⟨_,rfl⟩
 rw [hn] at HT k1 hk
 have HN:=Lib.hid hn
 clear hn
 have hGW:=Lib.hid (HG.out.below hB1.out (by have:=HG.out.2.1;have:=HPB.out;omega))
 have x0:=h1.out.cell' (i:=0) rfl
 have t0:=HT.out.tab.cell' (i:=0) rfl
 have t2:=HT.out.tab.cell' (i:=2) rfl
 have s0:=HT.out.srt.cell' HES.out
 have hn5:Hid (Arr (W.alloc (.cells #[.pointer (some ⟨g,o+k*5,none⟩)] 169)) W.heap.size 169 [.pointer (some ⟨g,o+k*5,none⟩)]):=Arr.new W _ _
 have hb5:Hid (Below W.heap.size W (W.alloc (.cells #[.pointer (some ⟨g,o+k*5,none⟩)] 169))):=(Below.refl _ _).alloc (Nat.le_refl _) _
 go_upto_region 2 with(fail)
 clear x0 t0
 generalize (W.alloc (.cells #[.pointer (some ⟨g,o+k*5,none⟩)] 169))=w5 at *
 obtain⟨qb,hqb⟩:∃b,W.heap.size=b:=⟨_,rfl⟩
 have hs1:=hB1.out.size
 have hpl:=h1.out.lt
 rw [hqb] at hn5 hpl ⊢
 have HP5:=Lib.hid (h1.out.keep hb5.out)
 have HT5:=Lib.hid (HT.out.keep hb5.out)
 have hG5:=Lib.hid (hGW.out.below hb5.out (by exact hGW.out.2.1))
 have hB5:Hid (Below w.heap.size w w5):=by have h:=hB1.out;rw [←HPB.out] at h;exact h.trans (hb5.out.mono h.size)
 have hql:=hn5.out.lt
 clear hqb t2 s0 h1 hB1 HT hGW hb5 hs1
 obtain⟨K,ck,I,ci,c0,c1,c2,c3,c4,_,_⟩:=hG5.out.of_at (i:=k) (by rw [HN.out];exact hk)
 obtain⟨m,hm⟩:∃m,(ndAt nodes k).items.length=m:=⟨_,rfl⟩
 have HM:=Lib.hid hm
 rw [hm] at c4
 have hml:m≤65536:=by have:=HL.out.2;omega
 clear hm
 have x0:=HP5.out.cell' (i:=0) rfl
 have n0:=hn5.out.cell' (i:=0) rfl
 have t2:=HT5.out.tab.cell' (i:=2) rfl
 have s0:=HT5.out.srt.cell' HES.out
 go_upto_region 5 with(at_make;go_loud (refine wpList_mk rfl _ _ 41 rfl 3 _ _ Tryz.underlying41 infoInt rfl _ _ _ _ rfl rfl m m (by omega) (by omega) (by omega) (by omega) (by unfold maxLen;omega) ?_;intro ob w6 hob hO hb6 hz6))
 have hOz:Hid (Arr w6 ob 3 (I64 (rngI 0 ++ List.replicate (m - 0) 0))):=by rw [Nat.sub_zero];show Hid (Arr w6 ob 3 (I64 (List.replicate m 0)));rw [←I64_rep];exact hO
 have hB6:=Lib.hid (hB5.out.trans (hb6.mono hB5.out.size))
 have HP6:=Lib.hid (HP5.out.keep hb6)
 have HN6:=Lib.hid (hn5.out.keep hb6)
 have HT6:=Lib.hid (HT5.out.keep hb6)
 have hG6:=Lib.hid (hG5.out.below hb6 hG5.out.2.1)
 have lo:qb<ob:=by have:=hob.out;omega
 have lsb:sb<ob:=by omega
 have ltb:tb<ob:=by omega
 have lpb:pb<ob:=by omega
 have lgB:B≤ob:=by omega
 have hwo:w.heap.size≤ob:=by have:=hB5.out.size;have:=hob.out;omega
 clear x0 n0 t2 s0 c0 c1 c2 c3 c4 hob hO hb6 hz6 HP5 hn5 HT5 hG5 hB5
 go_upto_region 6 with(fail)
 go_loopw [38] (fun v wr=>∃(i:Nat),i≤m∧v=.int .i64 (i:Int)∧Hid (Arr wr ob 3 (I64 (rngI i ++ List.replicate (m - i) 0)))∧Hid (w6.grownBy wr (some ob))) (fun v _=>m - (intOf v).toNat)
 case atStart=>exact⟨0,Nat.zero_le _,rfl,hOz,World.grownBy.refl _ _⟩
 case round=>
  obtain⟨i,hi,rfl,hLr,hgr⟩:=hrel
  by_cases him:i=m
  ·have hi':¬(i:Int)<m:=by omega
   have hL7:Hid (Arr wr ob 3 (I64 (rngI m))):=by
    have:=hLr.out
    rw [him,Nat.sub_self,List.replicate_zero,List.append_nil] at this
    exact this
   obtain⟨w7,hw7⟩:∃x:World,x=wr:=⟨_,rfl⟩
   subst hw7
   have HP7:=Lib.hid (HP6.out.grown hgr.out (some_ne (by omega)))
   have HN7:=Lib.hid (HN6.out.grown hgr.out (some_ne (by omega)))
   have HTt7:=Lib.hid (HT6.out.tab.grown hgr.out (some_ne (by omega)))
   have HTs7:=Lib.hid (HT6.out.srt.grown hgr.out (some_ne (by omega)))
   have hG7:=Lib.hid (hG6.out.grown hgr.out lgB)
   have hwq:Hid (w.grownBy w7 (some sb)):=by
    have h:w.grownBy w6 (some sb):=⟨hB6.out.os,hB6.out.tape,hB6.out.output,hB6.out.size,fun j hj _=>hB6.out.block j hj⟩
    exact⟨hgr.out.os.trans h.os,hgr.out.tape.trans h.tape,hgr.out.output.trans h.output,Nat.le_trans h.size hgr.out.size,fun j hj hne=>(hgr.out.block j (Nat.lt_of_lt_of_le hj h.size) (fun e=>by have:=Option.some.inj e;omega)).trans (h.block j hj hne)⟩
   have hol:ob<w7.heap.size:=hL7.out.lt
   clear hLr hgr him hi hOz HP6 HN6 HT6 hG6 hB6
   obtain⟨K,ck,I,ci,c0,c1,c2,c3,c4,_,_⟩:=hG7.out.of_at (i:=k) (by rw [HN.out];exact hk)
   have x0:=HP7.out.cell' (i:=0) rfl
   have n0:=HN7.out.cell' (i:=0) rfl
   have t0:=HTt7.out.cell' (i:=0) rfl
   have t2:=HTt7.out.cell' (i:=2) rfl
   have s0:=HTs7.out.cell' HES.out
   have sf:=HTs7.out.frozen k
   clear c1 c3 c4
   by_cases hkd:(ndAt nodes k).kind=10∧(ndAt nodes k).ord=false
   ·obtain⟨hkd,hod⟩:=hkd
    have hEO:=HE.out hkd hod
    have hV:Hid (entV nodes k=insS (fun a b=>decide (cmpK nodes (ndAt nodes k) a b<0)) (rngI m)):=by show _=_;unfold entV;rw [if_pos ⟨hkd,hod⟩,HM.out]
    have hSort:SortS ob m 141 pb qb (cmpK nodes (ndAt nodes k)) (EntS w7 ob m):={
     len:=fun l W h=>h.2.2.2.2
     cell:=fun l W i h hi=>⟨h.2.1.cell' (I64_getD (by have:=h.2.2.2.2;omega)),h.2.1.frozen i⟩
     swap:=fun l W j h hj=>h.swap hj
     drew:=fun l W q h=>⟨⟨h.1.os,h.1.tape,h.1.output,h.1.size,h.1.block⟩,h.2.1,h.2.2⟩
     cmp:=fun l W j h hj=>by
      obtain⟨g1,g2,g3,g4,g5⟩:=h
      obtain⟨a,ha,ham⟩:=InR_get g4 (k:=j+1) (by omega)
      obtain⟨b,hb,hbm⟩:=InR_get g4 (k:=j) (by omega)
      have ea:l.getD (j+1) 0=(a:Int):=by rw [List.getD_eq_getElem?_getD,ha];rfl
      have eb:l.getD j 0=(b:Int):=by rw [List.getD_eq_getElem?_getD,hb];rfl
      have hab:a≠b:=by
       rintro rfl
       have h1:=(List.getElem?_inj (i:=j+1) (j:=j) (by omega) g3).1 (ha.trans hb.symm)
       omega
      rw [ea,eb]
      refine(centries1_any (k:=k) (n:=n) (c:=c) (tb:=tb) HN.out (by rw [HN.out];exact hk) hEO (by rw [HM.out];exact ham) (by rw [HM.out];exact hbm) hab W (hG7.out.grown g1 lgB) ((HP7.out.grown g1 (some_ne (by omega))).cell' (i:=0) rfl) ((HN7.out.grown g1 (some_ne (by omega))).cell' (i:=0) rfl) ((HTt7.out.grown g1 (some_ne (by omega))).cell' (i:=0) rfl)).mono ?_
      rintro e w' ⟨rfl,q,rfl⟩
      exact⟨rfl,⟨g1.os,g1.tape,g1.output,g1.size,g1.block⟩,g2,g3,g4,g5⟩ }
    have D:=Lib.hid (sortf_e (c:=m) hSort (by have:=hEO.few;have:=HM.out;omega) (rngI m) w7 ⟨World.grownBy.refl _ _,hL7.out,rngI_nodup m,rngI_in m,rngI_len m⟩)
    rw [←hV.out] at D
    rw [hkd] at c0
    rw [hod] at c2
    clear hV hSort hEO hkd hod t0
    go_upto_region 12 with(go_at_call 110;((with_reducible refine D.out.mono ?_));rintro e w8 ⟨rfl,g1,g2,g3,g4,g5⟩)
    have HP8:=Lib.hid (HP7.out.grown g1 (some_ne (by omega)))
    have HTt8:=Lib.hid (HTt7.out.grown g1 (some_ne (by omega)))
    have HTs8:=Lib.hid (HTs7.out.grown g1 (some_ne (by omega)))
    have hw8:Hid (w.grownBy w8 (some sb)):=⟨g1.os.trans hwq.out.os,g1.tape.trans hwq.out.tape,g1.output.trans hwq.out.output,Nat.le_trans hwq.out.size g1.size,fun j hj hne=>(g1.block j (Nat.lt_of_lt_of_le hj hwq.out.size) (fun e=>by have:=Option.some.inj e;omega)).trans (hwq.out.block j hj hne)⟩
    have hA8:=Lib.hid g2
    clear x0 n0 t2 s0 sf c0 c2 g1 g2 g3 g4 g5 HP7 HTt7 HTs7 hwq hL7 D hG7 HN7
    have x0:=HP8.out.cell' (i:=0) rfl
    have t2:=HTt8.out.cell' (i:=2) rfl
    have s0:=HTs8.out.cell' HES.out
    have sf:=HTs8.out.frozen k
    have hF:Hid (EntR w sb nodes k es (.returned (.slice (some ⟨ob,0,none⟩) m m)) (w8.setCell ⟨sb,k,none⟩ (.slice (some ⟨ob,0,none⟩) m m))):=by
     have h:=HM.out
     unfold EntR
     rw [h]
     exact⟨ob,rfl,hwo,by simp [World.setCell];exact hA8.out.lt,grown_trans hw8.out (grown_set w8 ⟨sb,k,none⟩ _),HTs8.out.store k _,(hA8.out.far (p:=⟨sb,k,none⟩) (show ob≠sb by omega) _).rd⟩
    clear HTs8 HTt8 HP8 hA8 hw8
    go_wp2_with (fail)
    go_ret
    exact hF.out
   ·have hV:Hid (entV nodes k=rngI m):=by show _=_;unfold entV;rw [if_neg hkd,HM.out]
    have hF:Hid (EntR w sb nodes k es (.returned (.slice (some ⟨ob,0,none⟩) m m)) (w7.setCell ⟨sb,k,none⟩ (.slice (some ⟨ob,0,none⟩) m m))):=by
     have h:=HM.out
     unfold EntR
     rw [h,hV.out]
     exact⟨ob,rfl,hwo,by simp [World.setCell];exact hol,grown_trans hwq.out (grown_set w7 ⟨sb,k,none⟩ _),HTs7.out.store k _,(hL7.out.far (p:=⟨sb,k,none⟩) (show ob≠sb by omega) _).rd⟩
    clear hV HTs7 HTt7 HP7 hwq hL7 hG7 HN7 t0
    by_cases hk10:(ndAt nodes k).kind=10
    ·have hod:(ndAt nodes k).ord=true:=by
      cases ho:(ndAt nodes k).ord with
      | true=>rfl
      | false=>exact absurd ⟨hk10,ho⟩ hkd
     rw [hk10] at c0
     rw [hod] at c2
     clear hkd hk10 hod
     go_wp2_with (fail)
     go_ret
     exact hF.out
    ·have hk2:((ndAt nodes k).kind == 10)=false:=by simpa using hk10
     clear hkd hk10
     go_wp2_with (fail)
     go_ret
     exact hF.out
  ·have hi':(i:Int)<m:=by omega
   have i0:(0:Int)≤i:=by omega
   have p0:wr.cell? ⟨ob,i,none⟩=some (.int .i64 0):=hLr.out.cell' (i:=i) (by
    unfold I64
    rw [List.getElem?_map,List.getElem?_append_right (by rw [rngI_len];exact Nat.le_refl _),rngI_len,Nat.sub_self,List.getElem?_replicate,if_pos (by omega)];rfl)
   have pf:=hLr.out.frozen i
   have hL5:Hid (Arr (wr.setCell ⟨ob,i,none⟩ (.int .i64 (i:Int))) ob 3 (I64 (rngI (i+1) ++ List.replicate (m - (i+1)) 0))):=by
    have h:=hLr.out.store i (.int .i64 (i:Int))
    rw [I64_set,rng_set (by omega)] at h
    exact h
   have hg5:=Lib.hid (grown_trans hgr.out (grown_set wr ⟨ob,i,none⟩ (.int .i64 (i:Int))))
   clear hLr hgr
   go_wp2_with (fail)
   go_roundw
   case rel=>exact⟨i+1,by omega,i64e (by omega),hL5,hg5⟩
   case measure=>simp [intOf];omega
end Go.Proofs.YtgbkbgiogdhnaaaGreatDoor
namespace Go.Proofs.YtgbkbgiogdhnaaaGreatDoor
open Go.RowKit
def PrAt (B b:Nat) (p n r l:Value) (bs:List Value) (w:World):Prop:=
 B≤b∧∃v,w.heap[b]? = some (.cells #[p,v,n,r,l] 64 (0,0))∧w.ownsRowF B 5 1 v bs.length bs∧v.ownBlock≠some b
abbrev PrU (B b:Nat) (n r l:Value) (bs:List Value) (w:World):Prop:=PrAt B b (.pointer (some ⟨b,0,none⟩)) n r l bs w
def PrF (B b:Nat) (n r l:Value) (bs:List Value) (w:World):Prop:=PrAt B b (.pointer none) n r l bs w∨PrU B b n r l bs w
section
variable {B b:Nat} {p n r l:Value} {bs:List Value} {w:World}
theorem PrAt.lt (h:PrAt B b p n r l bs w):b<w.heap.size:=by
 obtain⟨_,v,hb,_⟩:=h
 exact(Array.getElem?_eq_some_iff.1 hb).1
theorem PrAt.cells (h:PrAt B b p n r l bs w):w.cell? ⟨b,0,none⟩=some p∧w.cell? ⟨b,2,none⟩=some n∧w.cell? ⟨b,3,none⟩=some r∧w.cell? ⟨b,4,none⟩=some l:=by
 obtain⟨_,v,hb,_⟩:=h
 refine⟨?_,?_,?_,?_⟩ <;> (rw [Lib.cell_of_heap hb];rfl)
theorem PrAt.shape (h:PrAt B b p n r l bs w):w.shape? b=some (64,5):=by
 obtain⟨_,v,hb,_⟩:=h
 simp [World.shape?,hb]
theorem PrAt.frozen0 (h:PrAt B b p n r l bs w):w.frozen? ⟨b,0,none⟩=false:=by
 obtain⟨_,v,hb,_⟩:=h
 simp [World.frozen?,hb]
theorem PrAt.used (h:PrAt B b p n r l bs w) (q:Value):PrAt B b q n r l bs (w.setCell ⟨b,0,none⟩ q):=by
 obtain⟨hB,v,hb,hown,hne⟩:=h
 refine⟨hB,v,?_,?_,hne⟩
 ·simp [World.setCell,Array.getElem?_modify,hb]
 ·refine hown.kept (row:=some b) ⟨rfl,rfl,rfl,by simp [World.setCell],fun k _ hk=>Below.heap_setCell _ _ _ _ (fun e=>hk (by simp [e]))⟩ ?_
  exact Or.inr hne
theorem PrAt.put {v v':Value} {bs':List Value} (hB:B≤b) (hb:w.heap[b]? = some (.cells #[p,v,n,r,l] 64 (0,0))) (hown:w.ownsRowF B 5 1 v' bs'.length bs'):PrAt B b p n r l bs' (w.setCell ⟨b,1,none⟩ v'):=by
 have hne:=Lib.ownBlock_neF hown hb (by decide)
 refine⟨hB,v',?_,?_,hne⟩
 ·simp [World.setCell,Array.getElem?_modify,hb]
 ·exact hown.kept (row:=some b) ⟨rfl,rfl,rfl,by simp [World.setCell],fun k _ hk=>Below.heap_setCell _ _ _ _ (fun e=>hk (by simp [e]))⟩ (Or.inr hne)
theorem PrAt.drew (h:PrAt B b p n r l bs w):PrAt B b p n r l bs w.drew:=h
theorem PrAt.below {w':World} (h:PrAt B b p n r l bs w) (hb:Below w.heap.size w w'):PrAt B b p n r l bs w':=by
 have hlt:=h.lt
 obtain⟨hB,v,hk,hown,hne⟩:=h
 refine⟨hB,v,(hb.block b hlt).trans hk,?_,hne⟩
 exact hown.kept (row:=none) ⟨hb.os,hb.tape,hb.output,hb.size,fun k hk' _=>hb.block k hk'⟩ (by cases hv:v.ownBlock <;> simp)
end
theorem Tryz.lsPrinter:liesAt Tryz.prog Tryz.prog.depth 64 (5 / Tryz.prog.cellsOf 64) 0 52 1=true:=by kernel_rfl
set_option maxRecDepth 100000 in
set_option maxHeartbeats 1000000 in
theorem pr_fresh (b:Nat) (w:World) (h0:w.cell? ⟨b,0,none⟩=some (.pointer none)) (hsh:w.shape? b=some (64,5)) (hfz:w.frozen? ⟨b,0,none⟩=false) :
  Calls Tryz.prog 35 #[.pointer (some ⟨b,0,none⟩)] w fun e w'=>e=.returned (.tuple #[])∧w'=w.setCell ⟨b,0,none⟩ (.pointer (some ⟨b,0,none⟩)):=by
 obtain⟨j,hj,hjs⟩:=Option.map_eq_some_iff.1 Tryz.szBuilder
 go_enter Tryz.func35,Tryz.ntmps35
 go_wp2
 rw [Lib.run_to_unsafe w ⟨b,0,none⟩ Tryz.underlying49 Tryz.underlying125 hj (by rw [hjs];decide) hsh (show 0<5 from by decide)]
 simp only [Result.andThen]
 rw [Oper.upon_value]
 go_wp2
 rw [run_callFunc_extern Tryz.func59 (by kernel_rfl) (by kernel_rfl) (by kernel_rfl) (e:=Extern.AbiNoEscape.same) (by kernel_rfl)]
 rw [Lib.run_noEscape]
 simp only [Result.andThen]
 rw [Oper.upon_value]
 go_wp2
 rw [Lib.run_from_unsafe w ⟨b,0,none⟩ Tryz.underlying125 Tryz.underlying49 hj hsh Tryz.lsPrinter]
 simp only [Result.andThen]
 rw [Oper.upon_value]
 go_wp2
 go_end0
 exact⟨rfl,rfl⟩
theorem pr_check (B b:Nat) (n r l:Value) (bs:List Value) (w:World) (h:PrF B b n r l bs w) :
  Calls Tryz.prog 35 #[.pointer (some ⟨b,0,none⟩)] w fun e w'=>e=.returned (.tuple #[])∧PrU B b n r l bs w'∧Below B w w'∧Others b w w':=by
 rcases h with h | h
 ·refine(pr_fresh b w h.cells.1 h.shape h.frozen0).mono ?_
  rintro e w' ⟨rfl,rfl⟩
  exact⟨rfl,h.used _,(Below.refl B w).setCell (p:=⟨b,0,none⟩) h.1 _,(Lib.OthersKept.refl _ _ w).setCell ⟨b,0,none⟩ rfl _⟩
 ·refine(copyCheck_used b w h.cells.1).mono ?_
  rintro e w' ⟨rfl,rfl⟩
  exact⟨rfl,h,Below.refl B _,Lib.OthersKept.refl _ _ _⟩
set_option maxHeartbeats 2000000 in
set_option maxRecDepth 100000 in
theorem pr_byte (B b:Nat) (n r l:Value) (bs:List Value) (c:Int) (w:World) (h:PrF B b n r l bs w) (hlen:bs.length+1≤140737488355328) (hBw:B≤w.heap.size) :
  Calls Tryz.prog 38 #[.pointer (some ⟨b,0,none⟩),.int .u8 c] w fun e w'=>e=.returned .nilIface∧PrU B b n r l (bs ++ [.int .u8 c]) w'∧Below B w w'∧Others b w w':=by
 obtain⟨i0,hi,hz0,hz1,hz2⟩:=info_parts Tryz.info5
 go_enter Tryz.func38,Tryz.ntmps38
 go_wp2_with (go_at_call 35;refine(pr_check B b n r l bs _ h).mono ?_)
 rintro e w1 ⟨rfl,h1,hb1,hk1⟩
 obtain⟨hB,v,hbk,hown,hne⟩:=h1
 have c0:w1.cell? ⟨b,0,none⟩=some (.pointer (some ⟨b,0,none⟩)):=by rw [Lib.cell_of_heap hbk];rfl
 have c1:w1.cell? ⟨b,1,none⟩=some v:=by rw [Lib.cell_of_heap hbk];rfl
 go_wp2_with (at_builtin;refine wpList_append_ownF _ rfl _ _ 50 rfl B 5 i0 (.int .u8 0) 1 1 Tryz.underlying50 hi hz0 hz1 hz2 rfl (by decide) _ _ _ rfl (hown.alloc _) ⟨w1.heap.size,0,none⟩ 1 1 [.int .u8 c] rfl rfl ?c1 ?c2 ?c3 ?c4 ?c5 ?_)
 case c1=>
  intro j u hj
  match j,hj with
  | 0,hj=>simp at hj;subst hj;simp [Addr.add]
 case c2=>intro u hu;simp at hu;subst hu;rfl
 case c3=>unfold maxLen;omega
 case c4=>omega
 case c5=>have:=hb1.size;simp;omega
 intro v' w2 hown' hgrow _
 have hlt:b<w1.heap.size:=(Array.getElem?_eq_some_iff.1 hbk).1
 have hb2:w2.heap[b]? = some (.cells #[.pointer (some ⟨b,0,none⟩),v,n,r,l] 64 (0,0)):=by
  rw [hgrow.block b (by simp;omega) (fun e=>hne e.symm),Lib.alloc_old w1 _ b hlt]
  exact hbk
 have d0:w2.cell? ⟨b,0,none⟩=some (.pointer (some ⟨b,0,none⟩)):=by rw [Lib.cell_of_heap hb2];rfl
 have d1:w2.cell? ⟨b,1,none⟩=some v:=by rw [Lib.cell_of_heap hb2];rfl
 have f1:w2.frozen? ⟨b,1,none⟩=false:=Lib.frozen_of_heap hb2 1
 obtain⟨g,cap,rfl⟩:∃g cap,v'=.slice (some ⟨g,0,none⟩) (bs.length+1) cap:=by
  rcases hown'.2 with⟨_,h0⟩ | ⟨g,cap,cur,fz,hv,_⟩
  ·omega
  ·exact⟨g,cap,hv⟩
 go_wp2
 go_ret
 refine⟨rfl,?_,?_,((hk1.alloc _).grown hgrow (Lib.ownsRowF_kind (hown.alloc _))).setCell ⟨b,1,none⟩ rfl _⟩
 ·exact PrAt.put hB hb2 (bs':=bs ++ [.int .u8 c]) (by simpa using hown')
 ·exact((hb1.alloc (by have:=hb1.size;omega) _).grown hgrow (by have:=hb1.size;simp;omega) (fun k hk=>(hown.lt k hk).1)).setCell (p:=⟨b,1,none⟩) hB _
set_option maxHeartbeats 2000000 in
set_option maxRecDepth 100000 in
theorem pr_string (B b:Nat) (n r l:Value) (bs:List Value) (s:ByteArray) (w:World) (h:PrF B b n r l bs w) (hlen:bs.length+s.size≤140737488355328) (hBw:B≤w.heap.size) :
  Calls Tryz.prog 16 #[.pointer (some ⟨b,0,none⟩),.string s] w fun e w'=>e=.returned (.tuple #[.int .i64 s.size,.nilIface])∧PrU B b n r l (bs ++ Lib.strCells s) w'∧Below B w w'∧Others b w w':=by
 obtain⟨i0,hi,hz0,hz1,hz2⟩:=info_parts Tryz.info5
 go_enter Tryz.func16,Tryz.ntmps16
 go_wp2_with (go_at_call 35;refine(pr_check B b n r l bs _ h).mono ?_)
 rintro e w1 ⟨rfl,h1,hb1,hk1⟩
 obtain⟨hB,v,hbk,hown,hne⟩:=h1
 have c0:w1.cell? ⟨b,0,none⟩=some (.pointer (some ⟨b,0,none⟩)):=by rw [Lib.cell_of_heap hbk];rfl
 have c1:w1.cell? ⟨b,1,none⟩=some v:=by rw [Lib.cell_of_heap hbk];rfl
 go_wp2_with (at_builtin;refine Lib.wpList_append_own_stringF _ rfl _ _ 50 9 rfl B 5 i0 Tryz.underlying50 Tryz.underlying9 hi hz0 hz1 hz2 _ _ _ rfl hown s rfl ?c3 ?c4 ?c5 ?_)
 case c3=>unfold maxLen;omega
 case c4=>omega
 case c5=>have:=hb1.size;omega
 intro v' w2 hown' hgrow _
 have hlt:b<w1.heap.size:=(Array.getElem?_eq_some_iff.1 hbk).1
 have hb2:w2.heap[b]? = some (.cells #[.pointer (some ⟨b,0,none⟩),v,n,r,l] 64 (0,0)):=by
  rw [hgrow.block b hlt (fun e=>hne e.symm)]
  exact hbk
 have d0:w2.cell? ⟨b,0,none⟩=some (.pointer (some ⟨b,0,none⟩)):=by rw [Lib.cell_of_heap hb2];rfl
 have d1:w2.cell? ⟨b,1,none⟩=some v:=by rw [Lib.cell_of_heap hb2];rfl
 have f1:w2.frozen? ⟨b,1,none⟩=false:=Lib.frozen_of_heap hb2 1
 obtain⟨ao,n',cap,rfl⟩:∃ao n' cap,v'=.slice ao n' cap:=by
  rcases hown'.2 with⟨hv,_⟩ | ⟨g,cap,cur,fz,hv,_⟩
  ·exact⟨_,_,_,hv⟩
  ·exact⟨_,_,_,hv⟩
 go_wp2
 go_ret2
 refine⟨rfl,?_,?_,(hk1.grown hgrow (Lib.ownsRowF_kind hown)).setCell ⟨b,1,none⟩ rfl _⟩
 ·exact PrAt.put hB hb2 (bs':=bs ++ Lib.strCells s) (by simpa [Lib.strCells_length] using hown')
 ·exact(hb1.grown hgrow (by have:=hb1.size;omega) (fun k hk=>(hown.lt k hk).1)).setCell (p:=⟨b,1,none⟩) hB _
set_option maxHeartbeats 1000000 in
set_option maxRecDepth 100000 in
theorem pr_text (B b:Nat) (n r l:Value) (s:List UInt8) (w:World) (h:PrU B b n r l (Lib.byteCells s) w) (h0:s≠[]) :
  Calls Tryz.prog 18 #[.pointer (some ⟨b,0,none⟩)] w fun e w'=>e=.returned (.string ⟨s.toArray⟩)∧Below B w w'∧Others b w w':=by
 obtain⟨hB,v,hbk,hown,hne⟩:=h
 have hl0:s.length≠0:=by simpa using h0
 rw [Lib.byteCells_length] at hown
 obtain⟨g,cap,cur,fz,rfl,hbg,hg,hfz,hnc,hcm,hcs,htake⟩:∃g cap cur fz,v=.slice (some ⟨g,0,none⟩) s.length cap∧B≤g∧w.heap[g]? = some (.cells cur 5 fz)∧fz.2≤s.length*1∧s.length≤cap∧cap≤maxLen∧cur.size=cap*1∧cur.toList.take (s.length*1)=Lib.byteCells s:=by
  rcases hown.2 with⟨_,hz⟩ | ⟨g,cap,cur,fz,hv,r⟩
  ·exact absurd hz hl0
  ·exact⟨g,cap,cur,fz,hv,r⟩
 have c1:w.drew.cell? ⟨b,1,none⟩=some (.slice (some ⟨g,0,none⟩) s.length cap):=by
  have:w.drew.heap[b]? = some (.cells #[.pointer (some ⟨b,0,none⟩),.slice (some ⟨g,0,none⟩) s.length cap,n,r,l] 64 (0,0)):=hbk
  rw [Lib.cell_of_heap this];rfl
 have hSD:(Builtin.unsafeSliceData_ #[50] 95 #[.slice (some ⟨g,0,none⟩) s.length cap]).run Tryz.prog w.drew=.ok (.pointer (some ⟨g,0,none⟩)) w.drew:=
  Lib.run_unsafeSliceData_row _ _ _ _ _ _ (by omega)
 have hUS:(Builtin.unsafeString_ #[95,3] 9 #[.pointer (some ⟨g,0,none⟩),.int .i64 s.length]).run Tryz.prog w.drew=.ok (.string ⟨s.toArray⟩) (w.drew.freeze ⟨g,0,none⟩ s.length):=by
  refine Lib.run_unsafeString_row w.drew 95 3 9 5 Tryz.underlying95 (by kernel_rfl) g cur.size (by have hg':w.drew.heap[g]? = some (.cells cur 5 fz):=hg;simp [World.shape?,hg']) s h0 (by omega) (by unfold maxLen at hcm;omega) ?_
  intro j x hx
  have:=hown.cells (g:=g) rfl j (.int .u8 x.toNat) (by simp [Lib.byteCells,hx])
  exact this
 have mixed:Tryz.prog.follows .mixedOrders=true:=by kernel_rfl
 go_enter Tryz.func18,Tryz.ntmps18
 go_wp2
 go_region_o
 all_goals (go_wp2;go_ret;exact⟨rfl,Lib.below_freeze (Below.drew (Below.refl B w)) (p:=⟨g,0,none⟩) hbg _,((Lib.OthersKept.refl _ _ w).drew).freeze ⟨g,0,none⟩ _ ⟨cur,fz,hg⟩⟩)
end Go.Proofs.YtgbkbgiogdhnaaaGreatDoor
namespace Go.Proofs.YtgbkbgiogdhnaaaGreatDoor
open Go.RowKit
def hexd (d:Nat):Nat:=if d<10 then 48+d else 87+d
def escB (c:Nat):List Nat:=
 if c=34∨c=92 then [92,c] else if c=8 then [92,98] else if c=12 then [92,102] else if c=10 then [92,110] else if c=13 then [92,114] else if c=9 then [92,116]
 else if c<32 then [92,117,48,48,hexd (c / 16),hexd (c % 16)] else [c]
def escL (l:List Nat):List Nat:=l.flatMap escB
def quoteV (l:List Nat):List Nat:=34 :: (escL l ++ [34])
theorem escL_nil:escL [] = []:=rfl
theorem escL_cons (c:Nat) (l:List Nat):escL (c :: l)=escB c ++ escL l:=rfl
theorem escL_app (l m:List Nat):escL (l ++ m)=escL l ++ escL m:=by simp [escL]
theorem escB_cases (c:Nat):(∃x,escB c = [92,x]∧x<128∧meanV x=c∧0<c∧x≠117∧c<128)∨(escB c = [92,117,48,48,hexd (c / 16),hexd (c % 16)]∧c<32)∨(escB c = [c]∧32≤c∧c≠34∧c≠92):=by
 unfold escB
 by_cases h1:c=34∨c=92
 ·rw [if_pos h1]
  rcases h1 with rfl | rfl
  ·exact .inl ⟨34,rfl,by decide,by decide,by decide,by decide,by decide⟩
  ·exact .inl ⟨92,rfl,by decide,by decide,by decide,by decide,by decide⟩
 rw [if_neg h1]
 by_cases h2:c=8
 ·rw [if_pos h2];subst h2;exact .inl ⟨98,rfl,by decide,by decide,by decide,by decide,by decide⟩
 rw [if_neg h2]
 by_cases h3:c=12
 ·rw [if_pos h3];subst h3;exact .inl ⟨102,rfl,by decide,by decide,by decide,by decide,by decide⟩
 rw [if_neg h3]
 by_cases h4:c=10
 ·rw [if_pos h4];subst h4;exact .inl ⟨110,rfl,by decide,by decide,by decide,by decide,by decide⟩
 rw [if_neg h4]
 by_cases h5:c=13
 ·rw [if_pos h5];subst h5;exact .inl ⟨114,rfl,by decide,by decide,by decide,by decide,by decide⟩
 rw [if_neg h5]
 by_cases h6:c=9
 ·rw [if_pos h6];subst h6;exact .inl ⟨116,rfl,by decide,by decide,by decide,by decide,by decide⟩
 rw [if_neg h6]
 by_cases h7:c<32
 ·rw [if_pos h7];exact .inr (.inl ⟨rfl,h7⟩)
 rw [if_neg h7]
 exact .inr (.inr ⟨rfl,by omega,by omega,by omega⟩)
theorem hexd_lt (d:Nat) (h:d<16):hexd d<128:=by unfold hexd;split <;> omega
theorem escB_by {c:Nat} (hc:c<256):By (escB c):=by
 rcases escB_cases c with⟨x,e,h,_⟩ | ⟨e,h⟩ | ⟨e,_⟩
 ·rw [e];intro y hy;simp at hy;omega
 ·rw [e];intro y hy
  have h1:=hexd_lt (c / 16) (by omega)
  have h2:=hexd_lt (c % 16) (by omega)
  simp at hy;omega
 ·rw [e];intro y hy;simp at hy;omega
theorem escB_len (c:Nat):1≤(escB c).length∧(escB c).length≤6:=by
 rcases escB_cases c with⟨x,e,_⟩ | ⟨e,_⟩ | ⟨e,_⟩ <;> rw [e] <;> simp
theorem escL_by {l:List Nat} (h:By l):By (escL l):=by
 intro y hy
 obtain⟨c,hc,hy⟩:=List.mem_flatMap.1 hy
 exact escB_by (h c hc) y hy
theorem escL_len (l:List Nat):l.length≤(escL l).length∧(escL l).length≤6*l.length:=by
 induction l with
 | nil=>exact⟨Nat.le_refl _,Nat.le_refl _⟩
 | cons c l ih=>
  have:=escB_len c
  rw [escL_cons,List.length_append,List.length_cons]
  omega
theorem quote_len (l:List Nat):(quoteV l).length=(escL l).length+2:=by simp [quoteV]
theorem quote_by {l:List Nat} (h:By l):By (quoteV l):=by
 intro y hy
 unfold quoteV at hy
 rw [List.mem_cons,List.mem_append,List.mem_singleton] at hy
 rcases hy with rfl | hy | rfl
 ·decide
 ·exact escL_by h y hy
 ·decide
end Go.Proofs.YtgbkbgiogdhnaaaGreatDoor
