/- The lines of a source in INI, handed on one after another (an iterator). -/
import Derived.Test.YtnnnagnjikdnnaaGreatDoorMBq
import Derived.Test.YtnnnagnjikdnnaaGreatDoorMBi
import Derived.Shelf.Abstract
import Derived.Shelf.RegionOpen
import Derived.WalkKit
import Derived.OwnWalkIn
import Derived.TacticsInMore
import Derived.LoopNIn
import Derived.LoopIn
import Derived.Sort.CutIn
import Derived.Test.YtnnnagnjikdnnaaGreatDoorMAf
import Derived.Test.YtnnnagnjikdnnaaGreatDoorMAh
import Derived.Test.YtnnnagnjikdnnaaGreatDoorMAc
import Derived.Test.YtnnnagnjikdnnaaGreatDoorMAu
import Derived.Test.YtnnnagnjikdnnaaGreatDoorMAe
set_option linter.unusedVariables false
set_option linter.unusedSimpArgs false
set_option linter.defProp false
set_option linter.constructorNameAsVariable false
namespace Go.Proofs.YtnnnagnjikdnnaaGreatDoor
open Go Go.RowKit Go.Shelf
attribute [local go_sem] Oper.semAt_some
theorem LnsAt.le {S:List Nat} {a:Nat} {L:List (Nat×Nat)} (h:LnsAt S a L):a≤S.length∧0<L.length:=by
 cases h with
 | last h hn=>exact⟨h,by simp⟩
 | next h he hn hr hL=>exact⟨by have:=(List.getElem?_eq_some_iff.1 he).1;omega,by simp⟩
theorem ix_no {c:Nat}:∀{l:List Nat},(∀x,x<l.length→l[x]?≠some c)→ixBV c l = -1:=by
 intro l
 have key:∀l:List Nat,(∀x,x<l.length→l[x]?≠some c)→idxB c l=none:=by
  intro l
  induction l with
  | nil=>intro _;rfl
  | cons b l ih=>
   intro h
   have hb:b≠c:=fun e=>h 0 (by simp) (by rw [e];rfl)
   have:=ih fun x hx=>h (x+1) (by simp;omega)
   unfold idxB
   simp [hb,this]
 intro h
 unfold ixBV
 rw [key l h]
theorem ix_at {c:Nat}:∀{l:List Nat} {k:Nat},l[k]? = some c→(∀x,x<k→l[x]?≠some c)→ixBV c l=(k:Int):=by
 have key:∀(l:List Nat) (k:Nat),l[k]? = some c→(∀x,x<k→l[x]?≠some c)→idxB c l=some k:=by
  intro l
  induction l with
  | nil=>intro k h;simp at h
  | cons b l ih=>
   intro k h hn
   cases k with
   | zero=>
    obtain rfl:b=c:=by simpa using h
    unfold idxB
    simp
   | succ k=>
    have hb:b≠c:=fun e=>hn 0 (by omega) (by rw [e];rfl)
    have:=ih k h fun x hx=>hn (x+1) (by omega)
    unfold idxB
    simp [hb,this]
 intro l k h hn
 unfold ixBV
 rw [key l k h hn]
set_option maxRecDepth 20000 in
set_option maxHeartbeats 8000000 in
theorem lines_list {n sb:Nat} {S:List Nat} {L:List (Nat×Nat)} (hS:By S) (hl:S.length≤100000) (hL:LnsAt S 0 L) (hn:1≤n) (w:World) (hsb:w.cell? ⟨sb,0,none⟩=some (.string (mks S))) :
  SeqList Fence.wide n Tryz.prog 45 #[.pointer (some ⟨sb,0,none⟩)] (fun l:Nat×Nat=>#[.agg #[.int .i64 (l.1:Int),.int .i64 (l.2:Int)]]) (fun W W'=>W'.heap[sb]? = W.heap[sb]?) L w:=by
 intro l J W hW hJ hY h0
 refine callsIn_of_wp Tryz.func45 rfl trivial ?_ rfl
 simp only [Tryz.ntmps45,List.size_toArray,List.length_cons,List.length_nil,Nat.reduceAdd,Nat.reduceSub,Array.replicate_succ,Array.replicate_zero,List.push_toArray,List.append_toArray,List.nil_append,List.cons_append]
 have HS:=Lib.hid hS
 obtain⟨m,hm⟩:∃m,S.length=m:=⟨_,rfl⟩
 have hsz:(mks S).size=m:=by rw [size_mks];exact hm
 have HM:=Lib.hid hm
 have hml:m≤100000:=by omega
 have HL:=Lib.hid hL
 have h0':=Lib.hid h0
 have HSB:Hid (W.cell? ⟨sb,0,none⟩=some (.string (mks S))):=(hW.cell (block_lt_of_cell hsb)).trans hsb
 have HY:=Lib.hid hY
 clear hS hL hm hl hY h0 hsb
 gi_wp2
 gi_loopw [3] (fun p wr=>∃a k:Nat,p=.int .i64 (a:Int)∧Hid (LnsAt S a (L.drop k))∧k<L.length∧a≤m∧Hid (J k wr)∧Hid (wr.heap[sb]? = W.heap[sb]?)) (fun p wr=>m+1 - (intOf p).toNat)
 case atStart=>exact⟨0,0,rfl,HL.out,HL.out.le.2,Nat.zero_le _,h0'.out,rfl⟩
 case round=>
  obtain⟨a,k,rfl,hLk,hk,ham,hJk,hsw⟩:=hrel
  have c0:wr.cell? ⟨sb,0,none⟩=some (.string (mks S)):=by
   have:=HSB.out
   simp only [World.cell?,hsw.out] at this ⊢
   exact this
  obtain⟨x,hx⟩:∃x,L[k]? = some x:=⟨_,List.getElem?_eq_getElem hk⟩
  have hd:L.drop k=x :: L.drop (k+1):=by
   rw [List.drop_eq_getElem_cons hk]
   congr 1
   rw [List.getElem?_eq_getElem hk] at hx
   exact Option.some.inj hx
  obtain⟨fn,tmps,assign,body,hy,hR⟩:=HY.out k x wr hx hJk.out
  have hLn:=hLk.out
  rw [hd] at hLn
  have a0:(0:Int)≤a:=by omega
  have a1:(a:Int)≤m:=by omega
  have htk:S.take m=S:=by rw [←HM.out,List.take_length]
  have DI:=indexByte_any (S.drop a) (HS.out.dropped a) 10 (by decide) wr
  have DJ:Hid (∀z,ixBV 10 (S.drop a)=z→Calls Tryz.prog 46 #[.string (mks ((S.take m).drop a)),.int .u8 10] wr fun e w'=>e=.returned (.int .i64 z)∧wr=w'):=fun z hz=>by
   rw [htk,←hz]
   exact DI
  clear DI htk
  generalize hrest:L.drop (k+1)=rest at hLn hd
  cases hLn with
  | last h hnn=>
   have hix:ixBV 10 (S.drop a) = -1:=ix_no fun y hy=>by
    rw [List.getElem?_drop]
    rw [List.length_drop] at hy
    exact hnn (a+y) (by omega) (by omega)
   have DI:=Lib.hid (DJ.out _ hix)
   dsimp only at hy
   rw [HM.out] at hy
   have hlen:k+1=L.length:=by
    have:(L.drop (k+1)).length=0:=by rw [hrest];rfl
    rw [List.length_drop] at this
    omega
   clear hix hx hd hrest hnn h hLk
   gi_wp2_with (first | (refine⟨trivial,?_⟩;gi_at_call 46;refine(callsIn_wide.2 DI.out).mono ?_;rintro e w2 ⟨rfl,rfl⟩) | (gi_at_call 46;refine(callsIn_wide.2 DI.out).mono ?_;rintro e w2 ⟨rfl,rfl⟩))
   refine hR.mono ?_
   rintro e W' ⟨rfl,hJ',_⟩
   gi_wp2
   refine bodyPost_ret (results_none rfl _ _ _) rfl ?_
   exact⟨⟨_,rfl⟩,by rw [←hlen];exact hJ'⟩
  | @next _ e rest2 h he hnn hr hL'=>
   have hel:e<m:=by rw [←HM.out];exact(List.getElem?_eq_some_iff.1 he).1
   have hix:ixBV 10 (S.drop a)=((e - a:Nat):Int):=ix_at (by rw [List.getElem?_drop,show a+(e - a)=e by omega];exact he) fun y hy=>by
    rw [List.getElem?_drop]
    exact hnn (a+y) (by omega) (by omega)
   have DI:=Lib.hid (DJ.out _ hix)
   dsimp only at hy
   have hk1:k+1<L.length:=by
    have h1:=hL'.le.2
    rw [←hrest,List.length_drop] at h1
    omega
   have HR:Hid (LnsAt S (e+1) (L.drop (k+1))):=by rw [hrest];exact hL'
   obtain⟨d,hd2⟩:∃d,e - a=d:=⟨_,rfl⟩
   rw [hd2] at DI
   have ed:(a:Int)+d=e:=by omega
   have d0:¬((d:Nat):Int)<0:=by omega
   have d9:(d:Int)≤100000:=by omega
   have e9:(e:Int)≤100000:=by omega
   have HR13:=Lib.hid hr
   have HEL:=Lib.hid hel
   have HAE:=Lib.hid h
   have HD2:=Lib.hid hd2
   clear hix hx hd hrest hnn hLk hL' he hr DJ hd2
   have HED:=Lib.hid ed
   have HDD:=Lib.hid d0
   clear ed
   gi_upto_region 6 with((refine⟨trivial,?_⟩;gi_at_call 46;refine(callsIn_wide.2 DI.out).mono ?_;rintro e8 w2 ⟨rfl,rfl⟩))
   rw [HED.out]
   have hgt9:(e:Int)<m:=by omega
   by_cases hea:e > a
   ·obtain⟨e1,he1⟩:∃e1,e=e1+1:=⟨e - 1,by omega⟩
    obtain⟨c,hc⟩:∃c,S[e1]? = some c:=⟨_,List.getElem?_eq_getElem (by have:=HM.out;omega)⟩
    have q0:e1<(mks S).size:=by rw [hsz];omega
    have hcb:=HS.out.get hc
    have hg:=get_mks hc hcb q0
    have hc13:c≠13:=fun e0=>HR13.out (e1+1) (by omega) he1.symm (by rw [Nat.add_sub_cancel,hc,e0])
    have n13:((c:Int) == 13)=false:=by simp;omega
    have hgt:(e:Int) > a:=by omega
    have e2:(e:Int) - 1=e1:=by omega
    have e3:(e1:Int)<m:=by omega
    have e4:(0:Int)≤e1:=by omega
    clear hc hc13 hel he1
    gi_wp2_with (fail)
    refine hR.mono ?_
    rintro e8 W' ⟨rfl,hJ',hsb'⟩
    have hd1:(d:Int)+1≤100001:=by omega
    gi_wp2
    go_roundw
    case rel=>exact⟨e+1,k+1,i64e (by have:=HED.out;omega),HR.out,hk1,by have:=HEL.out;omega,hJ',by rw [hsb'];exact hsw.out⟩
    case measure=>
     have:=HED.out
     simp [intOf]
     omega
   ·have hgt:¬(e:Int) > a:=by omega
    clear hel
    gi_wp2_with (fail)
    refine hR.mono ?_
    rintro e8 W' ⟨rfl,hJ',hsb'⟩
    have hd1:(d:Int)+1≤100001:=by omega
    gi_wp2
    go_roundw
    case rel=>exact⟨e+1,k+1,i64e (by have:=HED.out;omega),HR.out,hk1,by have:=HEL.out;omega,hJ',by rw [hsb'];exact hsw.out⟩
    case measure=>
     have:=HED.out
     simp [intOf]
     omega
end Go.Proofs.YtnnnagnjikdnnaaGreatDoor
namespace Go.Proofs.YtnnnagnjikdnnaaGreatDoor
open Go.RowKit
structure ISt where
 tn:Nat
 ts:Nat
 nodes:List GNode
 spans:List JSpan
abbrev parIB (s:List Nat) (vn vs:Value) (st:ISt):List Value:=[.int .i64 (st.tn:Int),.int .i64 (st.ts:Int),.string (mks s),.int .i64 3,.string (mks s),vn,.int .i64 0,vs,.slice none 0 0,.int .i64 0,.int .i64 0]
structure IM (w:World) (B:Nat) (s:List Nat) (vn vs:Value) (ncs:List Value) (lab:Nat→Option Nat) (x:Option Nat) (st:ISt):Prop where
 par:Arr w B 70 [.int .i64 (st.tn:Int),.int .i64 (st.ts:Int),.string (mks s),.int .i64 3,.string (mks s),vn,.int .i64 0,vs,.slice none 0 0,.int .i64 0,.int .i64 0]
 nod:w.ownsRow B 30 5 vn st.nodes.length ncs
 nds:∀i nd,st.nodes[i]? = some nd→x≠some i→BNode w B lab i ((ncs.drop (i*5)).take 5) nd
 spn:w.ownsRow B 72 9 vs st.spans.length (spansC st.spans)
 labB:∀g,(lab g).isSome=true→B≤g∧g<w.heap.size
def IF (B:Nat) (vn vs:Value) (lab:Nat→Option Nat) (g:Nat):Prop:=g=B∨vn.ownBlock=some g∨vs.ownBlock=some g∨(lab g).isSome=true
section
variable {w w':World} {B:Nat} {s:List Nat} {vn vs:Value} {ncs:List Value} {lab:Nat→Option Nat} {x:Option Nat} {st:ISt}
theorem IM.cfB (h:IM w B s vn vs ncs lab x st):∀g,IF B vn vs lab g→B≤g:=by
 rintro g (rfl | e | e | e)
 ·exact Nat.le_refl _
 ·exact(h.nod.lt g e).1
 ·exact(h.spn.lt g e).1
 ·exact(h.labB g e).1
theorem IM.cfLt (h:IM w B s vn vs ncs lab x st):∀g,IF B vn vs lab g→g<w.heap.size:=by
 rintro g (rfl | e | e | e)
 ·exact h.par.lt
 ·exact(h.nod.lt g e).2
 ·exact(h.spn.lt g e).2
 ·exact(h.labB g e).2
theorem IM.lt (h:IM w B s vn vs ncs lab x st):B<w.heap.size:=h.par.lt
theorem IM.nlen (h:IM w B s vn vs ncs lab x st):ncs.length=st.nodes.length*5:=by have:=h.nod.1;omega
theorem IM.hide (h:IM w B s vn vs ncs lab none st) (n:Nat):IM w B s vn vs ncs lab (some n) st:=⟨h.par,h.nod,fun i nd hi _=>h.nds i nd hi (by simp),h.spn,h.labB⟩
theorem IM.below (h:IM w B s vn vs ncs lab x st) (hb:Below w.heap.size w w'):IM w' B s vn vs ncs lab x st:=
 ⟨h.par.keep hb,own_below h.nod hb,fun i nd hi hx=>(h.nds i nd hi hx).map (fun _ _ _ _ hr=>hr.below hb),own_below h.spn hb,fun g hg=>⟨(h.labB g hg).1,Nat.lt_of_lt_of_le (h.labB g hg).2 hb.size⟩⟩
theorem IM.drew (h:IM w B s vn vs ncs lab x st):IM w.drew B s vn vs ncs lab x st:=h.below (Below.drew (Below.refl _ _))
theorem IM.nodNe (h:IM w B s vn vs ncs lab x st):vn.ownBlock≠some B:=own_arr h.nod h.par (by decide)
theorem IM.spnNe (h:IM w B s vn vs ncs lab x st):vs.ownBlock≠some B:=own_arr h.spn h.par (by decide)
theorem IM.rowNe (h:IM w B s vn vs ncs lab x st) {t:Nat} {v:Value} {xs:List Int} (hr:BRow w B lab t v xs):v.ownBlock≠some B:=own_arr hr.1 h.par (by decide)
theorem IM.c0 (h:IM w B s vn vs ncs lab x st):w.cell? ⟨B,0,none⟩=some ((parIB s vn vs st)[0]):=h.par.cell' (i:=0) rfl
theorem IM.c1 (h:IM w B s vn vs ncs lab x st):w.cell? ⟨B,1,none⟩=some ((parIB s vn vs st)[1]):=h.par.cell' (i:=1) rfl
theorem IM.c2 (h:IM w B s vn vs ncs lab x st):w.cell? ⟨B,2,none⟩=some ((parIB s vn vs st)[2]):=h.par.cell' (i:=2) rfl
theorem IM.c3 (h:IM w B s vn vs ncs lab x st):w.cell? ⟨B,3,none⟩=some ((parIB s vn vs st)[3]):=h.par.cell' (i:=3) rfl
theorem IM.c4 (h:IM w B s vn vs ncs lab x st):w.cell? ⟨B,4,none⟩=some ((parIB s vn vs st)[4]):=h.par.cell' (i:=4) rfl
theorem IM.c5 (h:IM w B s vn vs ncs lab x st):w.cell? ⟨B,5,none⟩=some ((parIB s vn vs st)[5]):=h.par.cell' (i:=5) rfl
theorem IM.c6 (h:IM w B s vn vs ncs lab x st):w.cell? ⟨B,6,none⟩=some ((parIB s vn vs st)[6]):=h.par.cell' (i:=6) rfl
theorem IM.c7 (h:IM w B s vn vs ncs lab x st):w.cell? ⟨B,7,none⟩=some ((parIB s vn vs st)[7]):=h.par.cell' (i:=7) rfl
theorem IM.c8 (h:IM w B s vn vs ncs lab x st):w.cell? ⟨B,8,none⟩=some ((parIB s vn vs st)[8]):=h.par.cell' (i:=8) rfl
theorem IM.c9 (h:IM w B s vn vs ncs lab x st):w.cell? ⟨B,9,none⟩=some ((parIB s vn vs st)[9]):=h.par.cell' (i:=9) rfl
theorem IM.f (h:IM w B s vn vs ncs lab x st) (i:Nat):w.frozen? ⟨B,i,none⟩=false:=h.par.frozen i
theorem IM.far (h:IM w B s vn vs ncs lab x st) {p:Addr} (hp:¬IF B vn vs lab p.block) (u:Value):IM (w.setCell p u) B s vn vs ncs lab x st:=by
 refine⟨h.par.far (fun e=>hp (.inl e.symm)) u,own_far h.nod (fun e=>hp (.inr (.inl e))) u,fun i nd hi hx=>(h.nds i nd hi hx).map (fun _ _ _ _ hr=>hr.far (fun e=>hp (.inr (.inr (.inr (by rw [hr.2 _ e];rfl))))) u),own_far h.spn (fun e=>hp (.inr (.inr (.inl e)))) u,fun g hg=>by have:=h.labB g hg;simpa [World.setCell] using this⟩
theorem IM.setSec (h:IM w B s vn vs ncs lab x st) (a b:Nat):IM ((w.setCell ⟨B,0,none⟩ (.int .i64 (a:Int))).setCell ⟨B,1,none⟩ (.int .i64 (b:Int))) B s vn vs ncs lab x { st with tn:=a,ts:=b }:=by
 refine⟨(h.par.store 0 (.int .i64 (a:Int))).store 1 (.int .i64 (b:Int)),own_far (own_far h.nod (p:=⟨B,0,none⟩) h.nodNe _) (p:=⟨B,1,none⟩) h.nodNe _,fun i nd hi hx=>(h.nds i nd hi hx).map (fun _ _ _ _ hr=>(hr.far (p:=⟨B,0,none⟩) (h.rowNe hr) _).far (p:=⟨B,1,none⟩) (h.rowNe hr) _),own_far (own_far h.spn (p:=⟨B,0,none⟩) h.spnNe _) (p:=⟨B,1,none⟩) h.spnNe _,fun g hg=>by have:=h.labB g hg;simpa [World.setCell] using this⟩
end
section
variable {W w3:World} {B:Nat} {s:List Nat} {vn vs:Value} {ncs:List Value} {lab:Nat→Option Nat} {x:Option Nat} {st:ISt}
abbrev leafCs (nd:GNode):List Value:=[.int .i64 nd.kind,.string (mks nd.text),.bool nd.ord,.slice none 0 0,.slice none 0 0]
theorem bnode_leaf {w:World} {i:Nat} {nd:GNode} (hk:nd.keys = []) (hi:nd.items = []):BNode w B lab i (leafCs nd) nd:=by
 refine⟨.slice none 0 0,.slice none 0 0,rfl,⟨?_,fun g e=>by simp [Value.ownBlock] at e⟩,⟨?_,fun g e=>by simp [Value.ownBlock] at e⟩⟩
 ·rw [hk];exact World.ownsRow_nil _ _ _ _
 ·rw [hi];exact World.ownsRow_nil _ _ _ _
theorem IM.addTwo (h:IM W B s vn vs ncs lab x st) (n1 n2:GNode) (k1:n1.keys = []) (i1:n1.items = []) (k2:n2.keys = []) (i2:n2.items = []) (v':Value) {o:Obj}
  (hown:w3.ownsRow B 30 5 v' (st.nodes.length+2) (ncs ++ (leafCs n1 ++ leafCs n2))) (hgr:(W.alloc o).grownBy w3 vn.ownBlock)
  (hat:v'.ownBlock=vn.ownBlock∨v'.ownBlock=some (W.alloc o).heap.size) :
  Arr w3 B 70 (parIB s vn vs st) ∧
  IM (w3.setCell ⟨B,5,none⟩ v') B s v' vs (ncs ++ (leafCs n1 ++ leafCs n2)) lab x { st with nodes:=st.nodes ++ [n1,n2] }∧PStep W (w3.setCell ⟨B,5,none⟩ v') (IF B vn vs lab) (IF B v' vs lab) ∧
  ∀t v xs,BRow W B lab t v xs→BRow (w3.setCell ⟨B,5,none⟩ v') B lab t v xs:=by
 have hlt:=h.lt
 have hl:=h.nlen
 have hsz:(W.alloc o).heap.size=W.heap.size+1:=by simp
 have P3:=arr_grew h.par h.nod (by decide) hgr
 have hv':v'.ownBlock≠some B:=by
  rcases hat with e | e
  ·rw [e];exact h.nodNe
  ·rw [e,hsz];intro e';have:=Option.some.inj e';omega
 have hrow:∀{t v xs},BRow W B lab t v xs→BRow (w3.setCell ⟨B,5,none⟩ v') B lab t v xs:=fun hr=>BRow.far (p:=⟨B,5,none⟩) ⟨own_grew hr.1 h.nod (by decide) hgr,hr.2⟩ (h.rowNe hr) v'
 refine⟨P3,⟨P3.store 5 v',?_,?_,own_far (own_grew h.spn h.nod (by decide) hgr) (p:=⟨B,5,none⟩) h.spnNe v',fun g hg=>⟨(h.labB g hg).1,by have:=(h.labB g hg).2;have:=hgr.size;rw [hsz] at this;simp [World.setCell];omega⟩⟩,cstep_push hgr (fun g e=>.inr (.inl e)) (.inl rfl) ?_,fun _ _ _ hr=>hrow hr⟩
 ·rw [List.length_append];exact own_far hown (p:=⟨B,5,none⟩) hv' v'
 ·intro i y hy hxi
  by_cases hlt2:i<st.nodes.length
  ·have hy:(st.nodes ++ [n1,n2])[i]? = some y:=hy
   rw [List.getElem?_append_left hlt2] at hy
   rw [List.drop_append_of_le_length (by rw [hl];omega),List.take_append_of_le_length (by rw [List.length_drop,hl];omega)]
   exact(h.nds i y hy hxi).map (fun _ _ _ _ hr=>hrow hr)
  ·have hy:(st.nodes ++ [n1,n2])[i]? = some y:=hy
   rw [List.getElem?_append_right (by omega)] at hy
   rcases Nat.eq_or_lt_of_le (Nat.le_of_not_lt hlt2) with e | e
   ·rw [←e,Nat.sub_self] at hy
    obtain rfl:n1=y:=by simpa using hy
    rw [←e,←hl,List.drop_left]
    exact bnode_leaf k1 i1
   ·obtain⟨d,rfl⟩:∃d,i=st.nodes.length+1+d:=⟨i - st.nodes.length - 1,by omega⟩
    rw [show st.nodes.length+1+d - st.nodes.length=d+1 by omega] at hy
    cases d with
    | zero=>
     obtain rfl:n2=y:=by simpa using hy
     rw [show(st.nodes.length+1+0)*5=ncs.length+5 by omega,List.drop_append,List.drop_of_length_le (by omega)]
     rw [show ncs.length+5 - ncs.length=5 by omega]
     exact bnode_leaf k2 i2
    | succ d=>simp at hy
 ·rintro g (e | e | e | e)
  ·exact .inl (.inl e)
  ·rcases hat with e2 | e2
   ·exact .inl (.inr (.inl (e2.symm.trans e)))
   ·rw [e2,hsz] at e;have:=Option.some.inj e;exact .inr (by omega)
  ·exact .inl (.inr (.inr (.inl e)))
  ·exact .inl (.inr (.inr (.inr e)))
theorem IM.addSpan (h:IM W B s vn vs ncs lab x st) (sp:JSpan) (v':Value) {o:Obj}
  (hown:w3.ownsRow B 72 9 v' (st.spans.length+1) (spansC st.spans ++ spanC sp)) (hgr:(W.alloc o).grownBy w3 vs.ownBlock)
  (hat:v'.ownBlock=vs.ownBlock∨v'.ownBlock=some (W.alloc o).heap.size) :
  Arr w3 B 70 (parIB s vn vs st) ∧
  IM (w3.setCell ⟨B,7,none⟩ v') B s vn v' ncs lab x { st with spans:=st.spans ++ [sp] }∧PStep W (w3.setCell ⟨B,7,none⟩ v') (IF B vn vs lab) (IF B vn v' lab):=by
 have hlt:=h.lt
 have hsz:(W.alloc o).heap.size=W.heap.size+1:=by simp
 have P3:=arr_grew h.par h.spn (by decide) hgr
 have hv':v'.ownBlock≠some B:=by
  rcases hat with e | e
  ·rw [e];exact h.spnNe
  ·rw [e,hsz];intro e';have:=Option.some.inj e';omega
 have hrow:∀{t v xs},BRow W B lab t v xs→BRow (w3.setCell ⟨B,7,none⟩ v') B lab t v xs:=fun hr=>BRow.far (p:=⟨B,7,none⟩) ⟨own_grew hr.1 h.spn (by decide) hgr,hr.2⟩ (h.rowNe hr) v'
 refine⟨P3,⟨P3.store 7 v',own_far (own_grew h.nod h.spn (by decide) hgr) (p:=⟨B,7,none⟩) h.nodNe v',fun i y hy hxi=>(h.nds i y hy hxi).map (fun _ _ _ _ hr=>hrow hr),?_,fun g hg=>⟨(h.labB g hg).1,by have:=(h.labB g hg).2;have:=hgr.size;rw [hsz] at this;simp [World.setCell];omega⟩⟩,cstep_push hgr (fun g e=>.inr (.inr (.inl e))) (.inl rfl) ?_⟩
 ·rw [List.length_append,spansC_snoc];exact own_far hown (p:=⟨B,7,none⟩) hv' v'
 ·rintro g (e | e | e | e)
  ·exact .inl (.inl e)
  ·exact .inl (.inr (.inl e))
  ·rcases hat with e2 | e2
   ·exact .inl (.inr (.inr (.inl (e2.symm.trans e))))
   ·rw [e2,hsz] at e;have:=Option.some.inj e;exact .inr (by omega)
  ·exact .inl (.inr (.inr (.inr e)))
theorem IM.grow {n t0:Nat} {v0 v':Value} {xs0:List Int} {k:Int} {o:Obj} (h:IM W B s vn vs ncs lab (some n) st) (ht:t0=2*n+2∨t0=2*n+3) (h0:BRow W B lab t0 v0 xs0)
  (hown:w3.ownsRow B 3 1 v' (xs0.length+1) (I64 xs0 ++ [.int .i64 k])) (hgr:(W.alloc o).grownBy w3 v0.ownBlock)
  (hat:v'.ownBlock=v0.ownBlock∨v'.ownBlock=some (W.alloc o).heap.size) :
  IM w3 B s vn vs ncs (labPut lab v' t0) (some n) st∧BRow w3 B (labPut lab v' t0) t0 v' (xs0 ++ [k])∧(∀t v xs,t≠t0→BRow W B lab t v xs→BRow w3 B (labPut lab v' t0) t v xs)∧PStep W w3 (IF B vn vs lab) (IF B vn vs (labPut lab v' t0)):=by
 have hlt:=h.lt
 have hsz:(W.alloc o).heap.size=W.heap.size+1:=by simp
 have P3:=arr_grew h.par h0.1 (by decide) hgr
 have hrow:∀t v xs,t≠t0→BRow W B lab t v xs→BRow w3 B (labPut lab v' t0) t v xs:=fun t v xs hne hr=>hr.other h0 hne hgr hat
 have hb1:Below W.heap.size W (W.alloc o):=(Below.refl _ _).alloc (Nat.le_refl _) _
 refine⟨⟨P3,own_grew h.nod h0.1 (by decide) hgr,fun i y hy hxi=>?_,own_grew h.spn h0.1 (by decide) hgr,labPut_B h.labB hown hgr⟩,BRow.pushed hown,hrow,⟨hgr.os.trans hb1.os,hgr.tape.trans hb1.tape,hgr.output.trans hb1.output,by have:=hgr.size;have:=hb1.size;omega,fun g hg hnF=>?_,?_⟩⟩
 ·have hne:i≠n:=fun e=>hxi (by rw [e])
  exact(h.nds i y hy hxi).map (fun t v xs ht' hr=>hrow t v xs (by omega) hr)
 ·rw [hgr.block g (Nat.lt_of_lt_of_le hg hb1.size) (fun e=>hnF (.inr (.inr (.inr (by rw [h0.2 g e.symm];rfl))))),hb1.block g hg]
 ·rintro y (e | e | e | e)
  ·exact .inl (.inl e)
  ·exact .inl (.inr (.inl e))
  ·exact .inl (.inr (.inr (.inl e)))
  ·unfold labPut at e
   by_cases e1:v'.ownBlock=some y
   ·rcases hat with e2 | e2
    ·exact .inl (.inr (.inr (.inr (by rw [h0.2 y (e2.symm.trans e1)];rfl))))
    ·rw [e2,hsz] at e1;have h8:=Option.some.inj e1;exact .inr (by omega)
   ·rw [if_neg e1] at e;exact .inl (.inr (.inr (.inr e)))
theorem setL_take5 {xs cs:List Value} {n:Nat} (hc:cs.length=5) (hl:n*5+5≤xs.length):((setL xs (n*5) cs).drop (n*5)).take 5=cs:=by
 apply List.ext_getElem?
 intro j
 rw [List.getElem?_take]
 by_cases hj:j<5
 ·rw [if_pos hj,List.getElem?_drop,setL_get _ _ _ _ (by omega),if_pos (by omega),Nat.add_sub_cancel_left]
 ·rw [if_neg hj,List.getElem?_eq_none (by omega)]
theorem setL_other5 {xs cs:List Value} {n i:Nat} (hc:cs.length=5) (hl:n*5+5≤xs.length) (hi:i≠n):((setL xs (n*5) cs).drop (i*5)).take 5=(xs.drop (i*5)).take 5:=by
 apply List.ext_getElem?
 intro j
 rw [List.getElem?_take,List.getElem?_take]
 by_cases hj:j<5
 ·rw [if_pos hj,if_pos hj,List.getElem?_drop,List.getElem?_drop,setL_get _ _ _ _ (by omega),if_neg (by omega)]
 ·rw [if_neg hj,if_neg hj]
theorem IM.putNode {n:Nat} {nd:GNode} {vk vi:Value} (h:IM W B s vn vs ncs lab (some n) st) (hn:n<st.nodes.length) {gn cap:Nat} (hvn:vn=.slice (some ⟨gn,0,none⟩) st.nodes.length cap)
  (h2:BRow W B lab (2*n+2) vk nd.keys) (h3:BRow W B lab (2*n+3) vi nd.items) :
  IM (W.setCells gn (n*5) [.int .i64 nd.kind,.string (mks nd.text),.bool nd.ord,vk,vi]) B s vn vs (setL ncs (n*5) [.int .i64 nd.kind,.string (mks nd.text),.bool nd.ord,vk,vi]) lab none { st with nodes:=st.nodes.set n nd } ∧
  PStep W (W.setCells gn (n*5) [.int .i64 nd.kind,.string (mks nd.text),.bool nd.ord,vk,vi]) (IF B vn vs lab) (IF B vn vs lab):=by
 have hl:=h.nlen
 have hob:vn.ownBlock=some gn:=by rw [hvn];rfl
 have hkeep:∀g,g≠gn→(W.setCells gn (n*5) [.int .i64 nd.kind,.string (mks nd.text),.bool nd.ord,vk,vi]).heap[g]? = W.heap[g]?:=fun g hg=>heap_setCells gn _ _ W hg
 have hB:B≠gn:=fun e=>h.nodNe (by rw [hob,e])
 have hrowNe:∀{e kk v m xs},W.ownsRow B e kk v m xs→e≠30→∀g,v.ownBlock=some g→g≠gn:=fun {e kk v m xs} ho hne g hg e2=>by
  rcases own_ne ho h.nod hne with e3 | e3
  ·rw [e3] at hg;cases hg
  ·exact e3 (by rw [hg,e2,hob])
 have hrow:∀{t v xs},BRow W B lab t v xs→BRow (W.setCells gn (n*5) [.int .i64 nd.kind,.string (mks nd.text),.bool nd.ord,vk,vi]) B lab t v xs:=fun hr=>⟨own_same hr.1 (fun g hg=>hkeep g (hrowNe hr.1 (by decide) g hg)),hr.2⟩
 obtain⟨q1,q2,q3⟩:=same_setCells gn [.int .i64 nd.kind,.string (mks nd.text),.bool nd.ord,vk,vi] (n*5) W
 refine⟨⟨(hkeep B hB).trans h.par,?_,?_,own_same h.spn (fun g hg=>hkeep g (hrowNe h.spn (by decide) g hg)),fun g hg=>by rw [size_setCells];exact h.labB g hg⟩,⟨q1,q2,q3,by rw [size_setCells];exact Nat.le_refl _,fun g _ hF=>hkeep g (fun e=>hF (.inr (.inl (by rw [hob,e])))),fun _ hf=>.inl hf⟩⟩
 ·rw [List.length_set]
  have h1:=h.nod
  rw [hvn] at h1 ⊢
  exact own_puts _ _ h1
 ·intro i y hy _
  have hlen:n*5+5≤ncs.length:=by rw [hl];omega
  rcases Nat.decEq i n with hne | rfl
  ·have hy:(st.nodes.set n nd)[i]? = some y:=hy
   rw [List.getElem?_set_ne (fun e=>hne e.symm)] at hy
   rw [setL_other5 rfl hlen hne]
   exact(h.nds i y hy (by intro e;exact hne (Option.some.inj e).symm)).map (fun _ _ _ _ hr=>hrow hr)
  ·have hy:(st.nodes.set i nd)[i]? = some y:=hy
   rw [List.getElem?_set_self hn] at hy
   obtain rfl:nd=y:=by simpa using hy
   rw [setL_take5 rfl hlen]
   exact⟨vk,vi,rfl,hrow h2,hrow h3⟩
theorem IM.spanTo (h:IM W B s vn vs ncs lab x st) {gs cap k:Nat} (hvs:vs=.slice (some ⟨gs,0,none⟩) st.spans.length cap) (hk:k<st.spans.length) (y:Int) :
  IM (W.setCell ⟨gs,k*9+4,none⟩ (.int .i64 y)) B s vn vs ncs lab x { st with spans:=st.spans.modify k (fun p=>{ p with to_:=y }) }∧PStep W (W.setCell ⟨gs,k*9+4,none⟩ (.int .i64 y)) (IF B vn vs lab) (IF B vn vs lab):=by
 have hob:vs.ownBlock=some gs:=by rw [hvs];rfl
 have hfar:∀{e kk v m xs},W.ownsRow B e kk v m xs→e≠72→v.ownBlock≠some gs:=fun {e kk v m xs} ho hne e2=>by
  rcases own_ne ho h.spn hne with e3 | e3
  ·rw [e3] at e2;cases e2
  ·exact e3 (e2.trans hob.symm)
 refine⟨⟨h.par.far (p:=⟨gs,k*9+4,none⟩) (fun e=>h.spnNe (by rw [hob];exact congrArg some e.symm)) _,own_far h.nod (p:=⟨gs,k*9+4,none⟩) (hfar h.nod (by decide)) _,fun i z hz hxi=>(h.nds i z hz hxi).map (fun _ _ _ _ hr=>hr.far (p:=⟨gs,k*9+4,none⟩) (hfar hr.1 (by decide)) _),?_,fun g hg=>by have:=h.labB g hg;simpa [World.setCell] using this⟩,cstep_set (.inr (.inr (.inl hob))) _ _⟩
 have h1:=h.spn
 rw [List.length_modify]
 rw [hvs] at h1 ⊢
 rw [←spans_set _ _ _ hk]
 exact own_put h1 _ _
end
end Go.Proofs.YtnnnagnjikdnnaaGreatDoor
namespace Go.Proofs.YtnnnagnjikdnnaaGreatDoor
open Go.RowKit
end Go.Proofs.YtnnnagnjikdnnaaGreatDoor
namespace Go.Proofs.YtnnnagnjikdnnaaGreatDoor
open Go.RowKit
end Go.Proofs.YtnnnagnjikdnnaaGreatDoor
namespace Go.Proofs.YtnnnagnjikdnnaaGreatDoor
open Go.RowKit
abbrev leafV (k:Int) (t:List Nat):Value:=.agg #[.int .i64 k,.string (mks t),.bool false,.slice none 0 0,.slice none 0 0]
end Go.Proofs.YtnnnagnjikdnnaaGreatDoor
namespace Go.Proofs.YtnnnagnjikdnnaaGreatDoor
open Go.RowKit
end Go.Proofs.YtnnnagnjikdnnaaGreatDoor
namespace Go.Proofs.YtnnnagnjikdnnaaGreatDoor
open Go.RowKit
end Go.Proofs.YtnnnagnjikdnnaaGreatDoor
namespace Go.Proofs.YtnnnagnjikdnnaaGreatDoor
open Go.RowKit
theorem LibH.hf {w w1:World} {B:Nat} (h:LibH w B) (k:HF w.heap.size B w w1):LibH w1 B:=fun w' hf=>h w' ⟨hf.os.trans k.os,hf.tape.trans k.tape,hf.output.trans k.output,Nat.le_trans k.size hf.size,fun j hj hB=>by
 rw [hf.keep j (Nat.lt_of_lt_of_le hj k.size) hB];exact k.keep j hj hB⟩
end Go.Proofs.YtnnnagnjikdnnaaGreatDoor
namespace Go.Proofs.YtnnnagnjikdnnaaGreatDoor
open Go.RowKit
end Go.Proofs.YtnnnagnjikdnnaaGreatDoor
