/- What the parser of json computes, as plain functions. -/
import Derived.Test.YtijoollonkibfaaGreatDoorMG
import Derived.Lib.IndexAny
import Derived.Test.YtijoollonkibfaaGreatDoorMParse
import Derived.Maps.OwnOps
import Derived.Maps.Views
import Derived.StringKeys
namespace Go.Proofs.YtijoollonkibfaaGreatDoor
open Go.RowKit
def isV (l:List JTok) (c:List Nat):Bool:=match l with | []=>false | t :: _=>decide (t.kind=1∧t.text=c)
def offV (en:Nat) (l:List JTok):Nat:=match l with | []=>en | t :: _=>t.from_
def hasDot (t:List Nat):Bool:=Lib.containsAny (u8s t) [46,101,69]
def scalarV (t:JTok):Option GNode:=
 if t.kind=2 then some ⟨5,t.text,false,[],[]⟩
 else if t.kind=4 then (if t.text=litNull then some ⟨0,[],false,[],[]⟩ else some ⟨1,t.text,false,[],[]⟩)
 else if hasDot t.text then (if (parseDV t.text).2=0 then some ⟨3,(parseDV t.text).1,false,[],[]⟩ else none)
 else (if (parR t.text 10).2=0 then some ⟨2,(parR t.text 10).1,false,[],[]⟩ else none)
abbrev PErr:=Nat×Nat
structure PLoop where
 st:PSt
 ks:List (List Nat)
 keys:List Int
 items:List Int
def keyV (en:Nat) (d:Nat) (x:PLoop) (s:JSpan):Except PErr (PLoop×JSpan):=
 match x.st.left with
 | []=>.error (en,4)
 | t :: r=>
  if t.kind≠2 then .error (t.from_,4)
  else if 32<d+1 then .error (t.from_,5)
  else if 4096≤x.st.nodes.length then .error (t.from_,7)
  else if t.text∈x.ks then .error (t.from_,8)
  else if isV r [58] then .ok (⟨⟨r.drop 1,x.st.nodes ++ [⟨5,t.text,false,[],[]⟩],x.st.spans⟩,x.ks ++ [t.text],x.keys ++ [(x.st.nodes.length:Int)],x.items⟩,{ s with kf:=t.from_,kt:=t.to_ })
  else .error (offV en r,4)
def commaV (en:Nat) (x:PLoop):Except PErr PLoop:=
 if x.items.length=0 then .ok x
 else if isV x.st.left [44] then .ok { x with st:={ x.st with left:=x.st.left.drop 1 } } else .error (offV en x.st.left,4)
mutual
def valueV (en:Nat):Nat→PSt→JSpan→Nat→Except PErr (Int×PSt)
 | 0,_,_,_=>.error (0,0)
 | f+1,st,s,d=>
  match st.left with
  | []=>.error (en,4)
  | t :: r=>
   if t.kind=1∧¬t.text = [91]∧¬t.text = [123] then .error (t.from_,4)
   else if 32<d then .error (t.from_,5)
   else if 4096≤st.nodes.length then .error (t.from_,7)
   else if t.kind=1 then
    match itemsV en f (decide (t.text = [123])) st.spans.length d ⟨⟨r,st.nodes ++ [⟨if t.text = [123] then 10 else 9,[],false,[],[]⟩],st.spans ++ [{ s with node:=st.nodes.length,from_:=t.from_,whole:=true }]⟩,[],[],[]⟩ with
    | .error e=>.error e
    | .ok x=>.ok (st.nodes.length,⟨x.st.left.drop 1,x.st.nodes.set st.nodes.length ⟨if t.text = [123] then 10 else 9,[],false,x.keys,x.items⟩,x.st.spans.modify st.spans.length (fun p=>{ p with to_:=(x.st.left.head?.map (·.to_)).getD 0 })⟩)
   else match scalarV t with
    | none=>.error (t.from_,12)
    | some nd=>.ok (st.nodes.length,⟨r,st.nodes ++ [nd],st.spans ++ [{ s with node:=st.nodes.length,from_:=t.from_,to_:=t.to_,whole:=true }]⟩)
def itemsV (en:Nat):Nat→Bool→Nat→Nat→PLoop→Except PErr PLoop
 | 0,_,_,_,_=>.error (0,0)
 | f+1,obj,k,d,x=>
  if isV x.st.left (if obj then [125] else [93]) then .ok x
  else match commaV en x with
  | .error e=>.error e
  | .ok y=>
   match (if obj then keyV en d y ⟨0,k,x.items.length,0,0,0,0,false,false⟩ else .ok (y,⟨0,k,x.items.length,0,0,0,0,false,false⟩)) with
   | .error e=>.error e
   | .ok (z,s)=>
    match valueV en f z.st s (d+1) with
    | .error e=>.error e
    | .ok (v,st)=>itemsV en f obj k d ⟨st,z.ks,z.keys,z.items ++ [v]⟩
end
def TokOK (t:JTok):Prop:=By t.text∧t.text.length≤4294967200∧(t.kind≠1→t.kind≠2→t.kind≠4→∀c∈t.text,c<128)∧t.from_≤65536∧t.to_≤65536
end Go.Proofs.YtijoollonkibfaaGreatDoor
namespace Go.Proofs.YtijoollonkibfaaGreatDoor
open Go.RowKit
def failE (x:PErr):Ending:=.panicked [{ v:=.iface 45 (.agg #[.int .i64 (x.1:Int),.int .i64 (x.2:Int)]),recovered:=false }]
theorem toksC_cons (t:JTok) (l:List JTok):toksC (t :: l)=tokC t ++ toksC l:=by simp [toksC]
section
variable {w:World} {B pb:Nat} {F:Nat→Prop} {k:PK} {A:Option Addr} {n c:Nat} {vn vs:Value} {ncs:List Value} {st:PSt}
theorem PMx.head (h:PMx w B pb F k A n c vn vs ncs st) {t:JTok} {r:List JTok} (hl:st.left=t :: r):∃g o,A=some ⟨g,o,none⟩∧w.cell? ⟨g,o,none⟩=some (.int .i64 (t.kind:Int))∧w.cell? ⟨g,o+1,none⟩=some (.int .i64 (t.from_:Int)) ∧
  w.cell? ⟨g,o+2,none⟩=some (.int .i64 (t.to_:Int))∧w.cell? ⟨g,o+3,none⟩=some (.string (mks t.text)):=by
 have ht:=h.tok
 rw [hl,toksC_cons] at ht
 obtain⟨ad,e,h0⟩:=ht 0 (.int .i64 (t.kind:Int)) rfl
 obtain⟨ad1,e1,h1⟩:=ht 1 (.int .i64 (t.from_:Int)) rfl
 obtain⟨ad2,e2,h2⟩:=ht 2 (.int .i64 (t.to_:Int)) rfl
 obtain⟨ad3,e3,h3⟩:=ht 3 (.string (mks t.text)) rfl
 obtain⟨⟨g,o,rfl⟩,_⟩:=h.tokA ad e
 subst e
 obtain rfl:=Option.some.inj e1
 obtain rfl:=Option.some.inj e2
 obtain rfl:=Option.some.inj e3
 rw [Addr.add_mid] at h0 h1 h2 h3
 exact⟨g,o,rfl,h0,h1,h2,h3⟩
end
set_option maxRecDepth 8000 in
set_option maxHeartbeats 2000000 in
theorem offset_any {w:World} {B pb:Nat} {F:Nat→Prop} {k:PK} {A:Option Addr} {n c:Nat} {vn vs:Value} {ncs:List Value} {st:PSt} (h:PMx w B pb F k A n c vn vs ncs st) :
  Calls Tryz.prog 28 #[.pointer (some ⟨pb,0,none⟩)] w fun e w'=>e=.returned (.int .i64 ((offV k.en st.left:Nat):Int))∧w=w':=by
 have c0:=h.par.cell' (i:=0) rfl
 have c1:=h.par.cell' (i:=1) rfl
 have hn:=h.len
 cases hl:st.left with
 | nil=>
  rw [hl] at hn
  subst hn
  clear hl
  go_enter Tryz.func28,Tryz.ntmps28
  go_wp2
  go_ret
  exact⟨rfl,rfl⟩
 | cons t r=>
  obtain⟨g,o,rfl,h0,h1,h2,h3⟩:=h.head hl
  rw [hl] at hn
  have hn0:0<n:=by rw [hn];simp
  have hn0':(0:Int)<n:=by omega
  have hn1:((n:Int) == 0)=false:=by simp;omega
  clear hl hn
  go_enter Tryz.func28,Tryz.ntmps28
  go_wp2
  go_ret
  exact⟨rfl,rfl⟩
set_option maxRecDepth 8000 in
set_option maxHeartbeats 4000000 in
theorem is_any {w:World} {B pb:Nat} {F:Nat→Prop} {k:PK} {A:Option Addr} {n c:Nat} {vn vs:Value} {ncs:List Value} {st:PSt} (h:PMx w B pb F k A n c vn vs ncs st) (hok:∀t∈st.left,TokOK t) (s:List Nat) (hs:By s) :
  Calls Tryz.prog 26 #[.pointer (some ⟨pb,0,none⟩),.string (mks s)] w fun e w'=>e=.returned (.bool (isV st.left s))∧w=w':=by
 have c0:=h.par.cell' (i:=0) rfl
 have hn:=h.len
 cases hl:st.left with
 | nil=>
  rw [hl] at hn
  subst hn
  clear hl
  go_enter Tryz.func26,Tryz.ntmps26
  go_wp2
  go_ret
  exact⟨rfl,rfl⟩
 | cons t r=>
  obtain⟨g,o,rfl,h0,h1,h2,h3⟩:=h.head hl
  have hok:=hok t (by rw [hl];simp)
  rw [hl] at hn
  have hn0:0<n:=by rw [hn];simp
  have hn0':(0:Int)<n:=by omega
  have hv:isV (t :: r) s=decide (t.kind=1∧t.text=s):=rfl
  rw [hv]
  have he:=eq_mks hok.1 hs
  clear hl hn hv
  by_cases hk:t.kind=1
  ·have hk':((t.kind:Int) == 1)=true:=by simp;omega
   have hd:decide (t.kind=1∧t.text=s)=decide (t.text=s):=by simp [hk]
   rw [hd]
   clear hd hk
   go_enter Tryz.func26,Tryz.ntmps26
   go_wp2
   go_ret
   exact⟨rfl,rfl⟩
  ·have hk':((t.kind:Int) == 1)=false:=by simp;omega
   have hd:decide (t.kind=1∧t.text=s)=false:=by simp [hk]
   rw [hd]
   clear hd hk he
   go_enter Tryz.func26,Tryz.ntmps26
   go_wp2
   go_ret
   exact⟨rfl,rfl⟩
set_option maxRecDepth 8000 in
set_option maxHeartbeats 2000000 in
theorem fail_any {w:World} {B pb:Nat} {F:Nat→Prop} {k:PK} {A:Option Addr} {n c:Nat} {vn vs:Value} {ncs:List Value} {st:PSt} (h:PMx w B pb F k A n c vn vs ncs st) (er:Nat) :
  Calls Tryz.prog 11 #[.pointer (some ⟨pb,0,none⟩),.int .i64 (er:Int)] w fun e w'=>e=failE (offV k.en st.left,er)∧w=w':=by
 have D:=Lib.hid (offset_any h)
 go_enter Tryz.func11,Tryz.ntmps11
 go_wp2_with (go_at_call 28;((with_reducible refine D.out.mono ?_));rintro e wn ⟨rfl,rfl⟩)
 exact⟨rfl,rfl,rfl⟩
theorem PMx.headR {w:World} {B pb:Nat} {F:Nat→Prop} {k:PK} {A:Option Addr} {n c:Nat} {vn vs:Value} {ncs:List Value} {st:PSt} (h:PMx w B pb F k A n c vn vs ncs st) {t:JTok} {r:List JTok} (hl:st.left=t :: r) :
  ∃g o,A=some ⟨g,o,none⟩∧w.rangeAt g o (tokC t):=by
 have ht:=h.tok
 rw [hl,toksC_cons] at ht
 obtain⟨ad,e,h0⟩:=ht 0 (.int .i64 (t.kind:Int)) rfl
 obtain⟨⟨g,o,rfl⟩,_⟩:=h.tokA ad e
 refine⟨g,o,e,fun j v hj=>?_⟩
 obtain⟨ad1,e1,h1⟩:=ht j v (by rw [List.getElem?_append_left (List.getElem?_eq_some_iff.1 hj).1];exact hj)
 subst e
 obtain rfl:=Option.some.inj e1
 rwa [Addr.add_mid] at h1
theorem PMx.tailRd {w:World} {B pb:Nat} {F:Nat→Prop} {k:PK} {A:Option Addr} {n c:Nat} {vn vs:Value} {ncs:List Value} {st:PSt} (h:PMx w B pb F k A n c vn vs ncs st) {t:JTok} {r:List JTok} (hl:st.left=t :: r) {g o:Nat} (hA:A=some ⟨g,o,none⟩) :
  Rd w (some (if c=1 then ⟨g,o,none⟩ else ⟨g,o+4,none⟩)) (toksC r):=by
 have ht:=h.tok
 rw [hl,toksC_cons] at ht
 by_cases hc:c=1
 ·have hn:=h.len
  have hnc:=h.nc
  rw [hl,List.length_cons] at hn
  have hr:r = []:=List.eq_nil_of_length_eq_zero (by omega)
  subst hr
  exact Rd.nil
 ·rw [if_neg hc]
  intro j u hj
  obtain⟨ad,e,hcell⟩:=ht (4+j) u (by rw [List.getElem?_append_right (by simp [tokC])];simpa [tokC] using hj)
  rw [hA] at e
  obtain rfl:=Option.some.inj e
  refine⟨_,rfl,?_⟩
  rw [Addr.add_mid] at hcell ⊢
  rw [Nat.add_assoc]
  exact hcell
def TakeR (w:World) (B pb:Nat) (F:Nat→Prop) (k:PK) (vn vs:Value) (ncs:List Value) (st:PSt) (t:JTok) (r:List JTok) (e:Ending) (w':World):Prop:=
 ∃A' n' c',e=.returned (.agg (tokC t).toArray)∧PMx w' B pb F k A' n' c' vn vs ncs { st with left:=r }∧PStep w w' F F
set_option maxRecDepth 8000 in
set_option maxHeartbeats 4000000 in
theorem take_any {w:World} {B pb:Nat} {F:Nat→Prop} {k:PK} {A:Option Addr} {n c:Nat} {vn vs:Value} {ncs:List Value} {st:PSt} (h:PMx w B pb F k A n c vn vs ncs st) {t:JTok} {r:List JTok} (hl:st.left=t :: r) :
  Calls Tryz.prog 31 #[.pointer (some ⟨pb,0,none⟩)] w (TakeR w B pb F k vn vs ncs st t r):=by
 obtain⟨g,o,rfl,hR⟩:=h.headR hl
 have htl:=h.tailRd hl rfl
 have hgl:g<w.heap.size:=h.tokLt _ rfl
 have hgF:¬F g:=(h.tokA _ rfl).2.1
 obtain⟨C,fz,hgb⟩:=(h.tokA _ rfl).2.2
 have hpl:=h.hi pb h.pF
 have hn:=h.len
 rw [hl] at hn
 have hn0:0<n:=by rw [hn];simp
 have hn0':(0:Int)<n:=by omega
 have hn1:(1:Int)≤n:=by omega
 have hnc:=h.nc
 have hcm:=h.cm
 unfold maxLen at hcm
 have HX:=Lib.hid (Arr.new w 67 zTok)
 have HBd:Below w.heap.size w (w.alloc (.cells #[.int .i64 0,.int .i64 0,.int .i64 0,.string ⟨#[]⟩] 67)):=(Below.refl _ _).alloc (Nat.le_refl _) _
 change Hid (Arr (w.alloc (.cells #[.int .i64 0,.int .i64 0,.int .i64 0,.string ⟨#[]⟩] 67)) w.heap.size 67 zTok) at HX
 have hlen:=h.len
 clear hn hlen
 go_enter Tryz.func31,Tryz.ntmps31
 go_upto_region 1 with(fail)
 have hlow:w.heap.size<(w.alloc (.cells #[.int .i64 0,.int .i64 0,.int .i64 0,.string ⟨#[]⟩] 67)).heap.size:=HX.out.lt
 have hW:=h.below HBd
 generalize (w.alloc (.cells #[.int .i64 0,.int .i64 0,.int .i64 0,.string ⟨#[]⟩] 67))=W at *
 have hRW:Hid (W.rangeAt g o (tokC t)):=fun j v hj=>(HBd.cell (p:=⟨g,o+j,none⟩) hgl).trans (hR j v hj)
 have X0:=Lib.hid (Arr.new W 67 zTok)
 have hX0:Below W.heap.size W (W.alloc (.cells #[.int .i64 0,.int .i64 0,.int .i64 0,.string ⟨#[]⟩] 67)):=(Below.refl _ _).alloc (Nat.le_refl _) _
 have c0:=hW.par.cell' (i:=0) rfl
 have htl':(tokC t).length=4:=rfl
 clear htl'
 go_upto_region 2 with(first | ((with_reducible show wpList _ _ _ (Oper.mk _ (Op.load 67 (Operand.tmp 8)) _ _ _ _ :: _) _ _);go_loud (refine wpList_load_mid rfl 67 (.tmp 8) rfl (g) (o) rfl (tokC t) _ (hRW.out) Tryz.underlying67 rfl Tryz.sz67 ?_)) | ((with_reducible show wpList _ _ _ (Oper.mk none (Op.store 67 (Operand.tmp 3) (Operand.tmp 9)) _ _ _ _ :: _) _ _);go_loud (refine wpList_sr rfl rfl 67 (.tmp 3) (.tmp 9) rfl (W.heap.size) (tokC t) rfl rfl 67 _ X0.out _ Tryz.sz67 (by first | rfl | simp) (by first | rfl | simp) (by first | rfl | simp [Value.oneCell']) ?_;intro w2 hr2 hg2 hz2)))
 clear c0
 have hb2:Below W.heap.size W w2:=Below.grown hX0 hg2 (by simp) (fun k e=>by have:=Option.some.inj e;omega)
 have hw2:=hW.below hb2
 have hlt2:W.heap.size<w2.heap.size:=hr2.out.lt
 have c0:=hw2.par.cell' (i:=0) rfl
 have f0:=hw2.par.frozen 0
 have hpl2:pb<W.heap.size:=Nat.lt_of_lt_of_le hpl HBd.size
 have hpne:pb≠W.heap.size:=by omega
 have hgne:g≠pb:=fun e=>hgF (by rw [e];exact h.pF)
 by_cases hc1:c=1
 ·rw [if_pos hc1] at htl
  go_upto_region 3 with(fail)
  have hp3:=hw2.par.store 0 (.slice (some ⟨g,o,none⟩) (n - 1) 0)
  have hw3:PMx (w2.setCell ⟨pb,0,none⟩ (.slice (some ⟨g,o,none⟩) (n - 1) 0)) B pb F k (some ⟨g,o,none⟩) (n - 1) 0 vn vs ncs { st with left:=r }:=
   hw2.put (by simp [World.setCell]) (fun i hi=>setCell_heap_ne _ _ _ hi) hp3 (by have:=h.len;rw [hl] at this;simp at this;show n - 1=r.length;omega) (by omega) (by unfold maxLen;omega)
    ((htl.keep HBd).keep hb2) (fun ad e=>by
     obtain rfl:=Option.some.inj e
     exact⟨⟨_,_,rfl⟩,hgF,C,fz,by rw [hb2.block g (by have:=HBd.size;show g<_;omega),HBd.block g hgl];exact hgb⟩)
    hw2.nod hw2.nodF hw2.nrd hw2.spn hw2.spnF
  have hr3:=Lib.hid (hr2.out.far (p:=⟨pb,0,none⟩) (by show W.heap.size≠pb;omega) (.slice (some ⟨g,o,none⟩) (n - 1) 0))
  have HX3:=Lib.hid (((HX.out.keep hb2).far (p:=⟨pb,0,none⟩) (by show w.heap.size≠pb;omega) (.slice (some ⟨g,o,none⟩) (n - 1) 0)))
  have hs3:PStep w (w2.setCell ⟨pb,0,none⟩ (.slice (some ⟨g,o,none⟩) (n - 1) 0)) F F:=by
   have hb:=HBd.trans (hb2.mono (by omega))
   exact⟨hb.os,hb.tape,hb.output,by simpa [World.setCell] using hb.size,fun i hi hF=>(setCell_heap_ne _ _ _ (fun e=>hF (by have:i=pb:=e;rw [this];exact h.pF))).trans (hb.block i hi),fun _ h=>.inl h⟩
  clear c0 f0 hp3
  generalize (w2.setCell ⟨pb,0,none⟩ (.slice (some ⟨g,o,none⟩) (n - 1) 0))=W3 at *
  go_wp2_with (first | ((with_reducible show wpList _ _ _ (Oper.mk _ (Op.load 67 (Operand.tmp 3)) _ _ _ _ :: _) _ _);go_loud (refine wpList_lr rfl 67 (.tmp 3) rfl (W.heap.size) (tokC t) rfl 67 hr3.out _ Tryz.underlying67 (by simp) _ Tryz.sz67 (by first | rfl | simp) ?_)) | ((with_reducible show wpList _ _ _ (Oper.mk none (Op.store 67 (Operand.tmp 2) (Operand.tmp 18)) _ _ _ _ :: _) _ _);go_loud (refine wpList_sr rfl rfl 67 (.tmp 2) (.tmp 18) rfl (w.heap.size) (tokC t) rfl rfl 67 _ HX3.out _ Tryz.sz67 (by first | rfl | simp) (by first | rfl | simp) (by first | rfl | simp [Value.oneCell']) ?_;intro w4 hr4 hg4 hz4)))
  have r0:=hr4.out.cell' (i:=0) rfl
  have r1:=hr4.out.cell' (i:=1) rfl
  have r2:=hr4.out.cell' (i:=2) rfl
  have r3:=hr4.out.cell' (i:=3) rfl
  refine bodyPost_ret (v:=.agg (tokC t).toArray) (by simp [results,Tryz.results31,go_sem,r0,r1,r2,r3];rfl) rfl ?_
  have hnF:¬F w.heap.size:=fun hf=>by have:=h.hi _ hf;omega
  refine⟨_,_,_,rfl,hw3.grown hg4 hnF (fun ad e=>by obtain rfl:=Option.some.inj e;show g≠w.heap.size;omega),?_⟩
  exact⟨hg4.os.trans hs3.os,hg4.tape.trans hs3.tape,hg4.output.trans hs3.output,Nat.le_trans hs3.size hg4.size,fun i hi hF=>(hg4.block i (Nat.lt_of_lt_of_le hi hs3.size) (by intro e;have:=Option.some.inj e;omega)).trans (hs3.keep i hi hF),fun _ h=>.inl h⟩
 ·rw [if_neg hc1] at htl
  go_upto_region 3 with(fail)
  have hp3:=hw2.par.store 0 (.slice (some ⟨g,o+4,none⟩) (n - 1) (c - 1))
  have hw3:PMx (w2.setCell ⟨pb,0,none⟩ (.slice (some ⟨g,o+4,none⟩) (n - 1) (c - 1))) B pb F k (some ⟨g,o+4,none⟩) (n - 1) (c - 1) vn vs ncs { st with left:=r }:=
   hw2.put (by simp [World.setCell]) (fun i hi=>setCell_heap_ne _ _ _ hi) hp3 (by have:=h.len;rw [hl] at this;simp at this;show n - 1=r.length;omega) (by omega) (by unfold maxLen;omega)
    ((htl.keep HBd).keep hb2) (fun ad e=>by
     obtain rfl:=Option.some.inj e
     exact⟨⟨_,_,rfl⟩,hgF,C,fz,by rw [hb2.block g (by have:=HBd.size;show g<_;omega),HBd.block g hgl];exact hgb⟩)
    hw2.nod hw2.nodF hw2.nrd hw2.spn hw2.spnF
  have hr3:=Lib.hid (hr2.out.far (p:=⟨pb,0,none⟩) (by show W.heap.size≠pb;omega) (.slice (some ⟨g,o+4,none⟩) (n - 1) (c - 1)))
  have HX3:=Lib.hid (((HX.out.keep hb2).far (p:=⟨pb,0,none⟩) (by show w.heap.size≠pb;omega) (.slice (some ⟨g,o+4,none⟩) (n - 1) (c - 1))))
  have hs3:PStep w (w2.setCell ⟨pb,0,none⟩ (.slice (some ⟨g,o+4,none⟩) (n - 1) (c - 1))) F F:=by
   have hb:=HBd.trans (hb2.mono (by omega))
   exact⟨hb.os,hb.tape,hb.output,by simpa [World.setCell] using hb.size,fun i hi hF=>(setCell_heap_ne _ _ _ (fun e=>hF (by have:i=pb:=e;rw [this];exact h.pF))).trans (hb.block i hi),fun _ h=>.inl h⟩
  clear c0 f0 hp3
  generalize (w2.setCell ⟨pb,0,none⟩ (.slice (some ⟨g,o+4,none⟩) (n - 1) (c - 1)))=W3 at *
  go_wp2_with (first | ((with_reducible show wpList _ _ _ (Oper.mk _ (Op.load 67 (Operand.tmp 3)) _ _ _ _ :: _) _ _);go_loud (refine wpList_lr rfl 67 (.tmp 3) rfl (W.heap.size) (tokC t) rfl 67 hr3.out _ Tryz.underlying67 (by simp) _ Tryz.sz67 (by first | rfl | simp) ?_)) | ((with_reducible show wpList _ _ _ (Oper.mk none (Op.store 67 (Operand.tmp 2) (Operand.tmp 18)) _ _ _ _ :: _) _ _);go_loud (refine wpList_sr rfl rfl 67 (.tmp 2) (.tmp 18) rfl (w.heap.size) (tokC t) rfl rfl 67 _ HX3.out _ Tryz.sz67 (by first | rfl | simp) (by first | rfl | simp) (by first | rfl | simp [Value.oneCell']) ?_;intro w4 hr4 hg4 hz4)))
  have r0:=hr4.out.cell' (i:=0) rfl
  have r1:=hr4.out.cell' (i:=1) rfl
  have r2:=hr4.out.cell' (i:=2) rfl
  have r3:=hr4.out.cell' (i:=3) rfl
  refine bodyPost_ret (v:=.agg (tokC t).toArray) (by simp [results,Tryz.results31,go_sem,r0,r1,r2,r3];rfl) rfl ?_
  have hnF:¬F w.heap.size:=fun hf=>by have:=h.hi _ hf;omega
  refine⟨_,_,_,rfl,hw3.grown hg4 hnF (fun ad e=>by obtain rfl:=Option.some.inj e;show g≠w.heap.size;omega),?_⟩
  exact⟨hg4.os.trans hs3.os,hg4.tape.trans hs3.tape,hg4.output.trans hs3.output,Nat.le_trans hs3.size hg4.size,fun i hi hF=>(hg4.block i (Nat.lt_of_lt_of_le hi hs3.size) (by intro e;have:=Option.some.inj e;omega)).trans (hs3.keep i hi hF),fun _ h=>.inl h⟩
end Go.Proofs.YtijoollonkibfaaGreatDoor
namespace Go.Proofs.YtijoollonkibfaaGreatDoor
open Go.RowKit
theorem Tryz.infoS40:(Tryz.prog.info? 40).map (fun i=>(i.zero,i.size,i.bytes))=some (some (.agg #[.int .i64 0,.string ⟨#[]⟩,.bool false,.slice none 0 0,.slice none 0 0]),5,80):=by kernel_rfl
theorem Tryz.infoS34:(Tryz.prog.info? 34).map (fun i=>(i.zero,i.size,i.bytes))=some (some (.agg #[.int .i64 0,.int .i64 0,.int .i64 0,.int .i64 0,.int .i64 0,.int .i64 0,.int .i64 0,.bool false,.bool false]),9,64):=by kernel_rfl
theorem Tryz.sz40:(Tryz.prog.info? 40).map (·.size)=some 5:=by kernel_rfl
theorem Tryz.sz34:(Tryz.prog.info? 34).map (·.size)=some 9:=by kernel_rfl
theorem Tryz.sz29:(Tryz.prog.info? 29).map (·.size)=some 6:=by kernel_rfl
def roomV (st:PSt) (d:Nat):Nat:=if 32<d then 5 else if 4096≤st.nodes.length then 7 else 0
def VoidR (w:World) (at_ er:Nat) (e:Ending) (w':World):Prop:=(if er=0 then e=.returned (.tuple #[]) else e=failE (at_,er))∧w=w'
theorem VoidR.ok {w:World} {a:Nat}:VoidR w a 0 (.returned (.tuple #[])) w:=⟨rfl,rfl⟩
theorem VoidR.bad {w:World} {a er:Nat} (h:er≠0):VoidR w a er (failE (a,er)) w:=⟨by rw [if_neg h],rfl⟩
theorem fail_h {w:World} {B pb:Nat} {F:Nat→Prop} {k:PK} {A:Option Addr} {n c:Nat} {vn vs:Value} {ncs:List Value} {st:PSt} (h:PMx w B pb F k A n c vn vs ncs st) (er:Nat) :
  Hid (Calls Tryz.prog 11 #[.pointer (some ⟨pb,0,none⟩),.int .i64 (er:Int)] w fun e w'=>e=failE (offV k.en st.left,er)∧w=w'):=fail_any h er
set_option maxRecDepth 8000 in
set_option maxHeartbeats 2000000 in
theorem room_any {w:World} {B pb:Nat} {F:Nat→Prop} {k:PK} {A:Option Addr} {n c:Nat} {vn vs:Value} {ncs:List Value} {st:PSt} (h:PMx w B pb F k A n c vn vs ncs st) (d:Nat) (hd:d≤1000) :
  Calls Tryz.prog 27 #[.pointer (some ⟨pb,0,none⟩),.int .i64 (d:Int)] w (VoidR w (offV k.en st.left) (roomV st d)):=by
 have D5:Hid (Calls Tryz.prog 11 #[.pointer (some ⟨pb,0,none⟩),.int .i64 5] w fun e w'=>e=failE (offV k.en st.left,5)∧w=w'):=fail_h h 5
 have D7:Hid (Calls Tryz.prog 11 #[.pointer (some ⟨pb,0,none⟩),.int .i64 7] w fun e w'=>e=failE (offV k.en st.left,7)∧w=w'):=fail_h h 7
 have c4:=h.par.cell' (i:=4) rfl
 obtain⟨An,cn,hvn,hnc,hcm⟩:=own_slice h.nod
 rw [hvn] at c4
 clear hvn
 generalize offV k.en st.left=at_ at *
 by_cases h1:32<d
 ·have hv:roomV st d=5:=by unfold roomV;rw [if_pos h1]
  rw [hv]
  have h1':(32:Int)<d:=by omega
  clear hv
  go_enter Tryz.func27,Tryz.ntmps27
  go_wp2_with (go_at_call 11;((with_reducible refine D5.out.mono ?_));rintro e wn ⟨he,rfl⟩;unfold failE at he;subst he)
  exact⟨rfl,VoidR.bad (er:=5) (by decide)⟩
 ·have h1':¬(32:Int)<d:=by omega
  by_cases h2:4096≤st.nodes.length
  ·have hv:roomV st d=7:=by unfold roomV;rw [if_neg h1,if_pos h2]
   rw [hv]
   have h2':(4096:Int)≤st.nodes.length:=by omega
   clear hv
   go_enter Tryz.func27,Tryz.ntmps27
   go_wp2_with (go_at_call 11;((with_reducible refine D7.out.mono ?_));rintro e wn ⟨he,rfl⟩;unfold failE at he;subst he)
   exact⟨rfl,VoidR.bad (er:=7) (by decide)⟩
  ·have hv:roomV st d=0:=by unfold roomV;rw [if_neg h1,if_neg h2]
   rw [hv]
   have h2':¬(4096:Int)≤st.nodes.length:=by omega
   clear hv
   go_enter Tryz.func27,Tryz.ntmps27
   go_wp2_with (fail)
   go_end0
   exact VoidR.ok
theorem intsRd_nil (w:World) (F:Nat→Prop):IntsRd w F none 0 []:=⟨rfl,Rd.nil,fun _ h=>by cases h⟩
def AddR (w:World) (B pb:Nat) (F:Nat→Prop) (k:PK) (A:Option Addr) (n c:Nat) (vs:Value) (st:PSt) (nd:GNode) (e:Ending) (w':World):Prop:=
 ∃F' vn' ncs',e=.returned (.int .i64 (st.nodes.length:Int))∧PMx w' B pb F' k A n c vn' vs ncs' { st with nodes:=st.nodes ++ [nd] }∧PStep w w' F F'∧(∀g,F g→F' g)
set_option maxRecDepth 8000 in
set_option maxHeartbeats 4000000 in
theorem add_any {w:World} {B pb:Nat} {F:Nat→Prop} {k:PK} {A:Option Addr} {n c:Nat} {vn vs:Value} {ncs:List Value} {st:PSt} (h:PMx w B pb F k A n c vn vs ncs st) (hm:st.nodes.length≤100000) (hBw:B≤w.heap.size) (kd:Int) (tx:List Nat) :
  Calls Tryz.prog 29 #[.pointer (some ⟨pb,0,none⟩),.agg #[.int .i64 kd,.string (mks tx),.bool false,.slice none 0 0,.slice none 0 0]] w (AddR w B pb F k A n c vs st ⟨kd,tx,false,[],[]⟩):=by
 have HX:=Lib.hid (Arr.new w 40 [.int .i64 kd,.string (mks tx),.bool false,.slice none 0 0,.slice none 0 0])
 have HBd:Below w.heap.size w (w.alloc (.cells #[.int .i64 kd,.string (mks tx),.bool false,.slice none 0 0,.slice none 0 0] 40)):=(Below.refl _ _).alloc (Nat.le_refl _) _
 change Hid (Arr (w.alloc (.cells #[.int .i64 kd,.string (mks tx),.bool false,.slice none 0 0,.slice none 0 0] 40)) w.heap.size 40 [.int .i64 kd,.string (mks tx),.bool false,.slice none 0 0,.slice none 0 0]) at HX
 go_enter Tryz.func29,Tryz.ntmps29
 go_upto_region 1 with(fail)
 have hlow:w.heap.size<(w.alloc (.cells #[.int .i64 kd,.string (mks tx),.bool false,.slice none 0 0,.slice none 0 0] 40)).heap.size:=HX.out.lt
 have hW:=h.below HBd
 generalize (w.alloc (.cells #[.int .i64 kd,.string (mks tx),.bool false,.slice none 0 0,.slice none 0 0] 40))=W at *
 have c4:=hW.par.cell' (i:=4) rfl
 have d4:=(hW.par.alloc (.cells #[.int .i64 kd,.string (mks tx),.bool false,.slice none 0 0,.slice none 0 0] 40)).cell' (i:=4) rfl
 have x0:=HX.out.cell' (i:=0) rfl
 have x1:=HX.out.cell' (i:=1) rfl
 have x2:=HX.out.cell' (i:=2) rfl
 have x3:=HX.out.cell' (i:=3) rfl
 have x4:=HX.out.cell' (i:=4) rfl
 have hPd:Arr W.drew pb 51 [.slice A n c,.int .i64 (k.en:Int),k.f,k.s,vn,k.r,vs,k.n]:=hW.par
 have hnpb:=own_arr hW.nod hW.par (by decide)
 have hownd:W.drew.ownsRow B 40 5 vn st.nodes.length ncs:=hW.nod
 go_region_law (refine step_apS rfl (.tmp 11) (.tmp 13) 23 rfl B 40 _ 5 _ Tryz.underlying23 Tryz.infoS40 rfl (by decide) _ st.nodes.length ncs rfl (hownd.alloc _) ⟨W.heap.size,0,none⟩ _ [.int .i64 kd,.string (mks tx),.bool false,.slice none 0 0,.slice none 0 0] rfl rfl (cells_new _ _ _) rfl (by unfold maxLen;omega) (by omega) (by simp;omega) ?_;intro v' w3 hown3 hgr3 hat3;obtain⟨A3,c3,rfl,hc3,hm3⟩:=own_slice hown3;have P3:=(hPd.alloc (.cells #[.int .i64 kd,.string (mks tx),.bool false,.slice none 0 0,.slice none 0 0] 40)).grown hgr3 (fun e=>hnpb e.symm);have p4:=P3.cell' (i:=4) rfl;have q4:=P3.frozen 4;have hgr3':(W.alloc (.cells #[.int .i64 kd,.string (mks tx),.bool false,.slice none 0 0,.slice none 0 0] 40)).drew.grownBy w3 vn.ownBlock:=hgr3;have hat3':(Value.slice A3 (st.nodes.length+1) c3).ownBlock=vn.ownBlock∨(Value.slice A3 (st.nodes.length+1) c3).ownBlock=some (W.alloc (.cells #[.int .i64 kd,.string (mks tx),.bool false,.slice none 0 0,.slice none 0 0] 40)).drew.heap.size:=hat3;clear hgr3 hat3)
 all_goals
  have hbw1:Below W.heap.size W (W.alloc (.cells #[.int .i64 kd,.string (mks tx),.bool false,.slice none 0 0,.slice none 0 0] 40)).drew:=((Below.refl _ _).alloc (Nat.le_refl _) _).drew
  have hnd:NodeRd W F [.int .i64 kd,.string (mks tx),.bool false,.slice none 0 0,.slice none 0 0] ⟨kd,tx,false,[],[]⟩:=⟨none,0,0,none,0,0,rfl,intsRd_nil _ _,intsRd_nil _ _⟩
  obtain⟨F',hP,hS,hF⟩:=hW.appendNode hbw1 hgr3' hown3 hat3' hnd
  have hc4:=hP.par.cell' (i:=4) rfl
  have hS2:PStep w (w3.setCell ⟨pb,4,none⟩ (.slice A3 (st.nodes.length+1) c3)) F F':=(PStep.of_below HBd).trans hS
  have hln:((st.nodes.length:Int)+1 - 1)=st.nodes.length:=by omega
  have hmn:(st.nodes.length:Int)≤100000:=by omega
  clear P3 p4 q4 c4 d4 x0 x1 x2 x3 x4 hPd hownd hgr3' hat3' hown3 hbw1 hnd hS hln HX
  generalize (w3.setCell ⟨pb,4,none⟩ (.slice A3 (st.nodes.length+1) c3))=W4 at *
  go_wp2
  go_ret
  exact⟨F',_,_,rfl,hP,hS2,hF⟩
end Go.Proofs.YtijoollonkibfaaGreatDoor
namespace Go.Proofs.YtijoollonkibfaaGreatDoor
open Go.RowKit
abbrev zNode:List Value:=[.int .i64 0,.string ⟨#[]⟩,.bool false,.slice none 0 0,.slice none 0 0]
def leafC (nd:GNode):List Value:=[.int .i64 nd.kind,.string (mks nd.text),.bool false,.slice none 0 0,.slice none 0 0]
def ScalR (w:World) (at_:Nat) (o:Option GNode) (e:Ending) (w':World):Prop:=
 Below w.heap.size w w'∧match o with
 | some nd=>e=.returned (.agg (leafC nd).toArray)
 | none=>e=failE (at_,12)
theorem parseI_h (l:List Nat) (hl:By l) (hn:l.length<4294967296):Hid (∀w,Calls Tryz.prog 52 #[.string (mks l),.int .i64 10] w fun e w'=>e=.returned (.tuple #[.string (mks (parR l 10).1),.int .i64 (parR l 10).2])∧Below w.heap.size w w'):=fun w=>parse_any l 10 w hl hn
theorem hasDot_h (l:List Nat) (hl:∀c∈l,c<128) (hn:l.length<4294967281):Hid (∀w,Calls Tryz.prog 53 #[.string (mks l),.string ⟨#[46,101,69]⟩] w fun e w'=>e=.returned (.bool (hasDot l))∧Below w.heap.size w w'):=fun w=>by
 refine(Tryz.strings_ContainsAny_laid (mks l) ⟨#[46,101,69]⟩ w (by rw [size_mks];exact hn) (by decide) ?_ ?_).mono ?_
 ·intro j b hb
  rw [data_mks] at hb
  obtain⟨c,hc,rfl⟩:=List.mem_map.1 (List.mem_of_getElem? hb)
  have:=hl c hc
  simp;omega
 ·intro j b hb
  have:=List.mem_of_getElem? hb
  simp at this
  rcases this with rfl | rfl | rfl <;> decide
 ·rintro e w' ⟨rfl,hb⟩
  rw [data_mks]
  exact⟨rfl,hb⟩
set_option maxRecDepth 8000 in
set_option maxHeartbeats 4000000 in
theorem scalar_any {w:World} {B pb:Nat} {F:Nat→Prop} {k:PK} {A:Option Addr} {n c:Nat} {vn vs:Value} {ncs:List Value} {st:PSt} (h:PMx w B pb F k A n c vn vs ncs st) (t:JTok) (hok:TokOK t) (hk1:t.kind≠1) (hw:LibOK w) :
  Calls Tryz.prog 30 #[.pointer (some ⟨pb,0,none⟩),.agg (tokC t).toArray] w (ScalR w (offV k.en st.left) (scalarV t)):=by
 have HT:=Lib.hid ((Arr.new w 67 (tokC t)).alloc (.cells #[.int .i64 0,.string ⟨#[]⟩,.bool false,.slice none 0 0,.slice none 0 0] 40))
 have hs1:(w.alloc (.cells (tokC t).toArray 67)).heap.size=w.heap.size+1:=by simp
 have HN0:=Arr.new (w.alloc (.cells (tokC t).toArray 67)) 40 zNode
 rw [hs1] at HN0
 have HN:=Lib.hid HN0
 have HBd:Below w.heap.size w ((w.alloc (.cells (tokC t).toArray 67)).alloc (.cells #[.int .i64 0,.string ⟨#[]⟩,.bool false,.slice none 0 0,.slice none 0 0] 40)):=((Below.refl _ _).alloc (Nat.le_refl _) _).alloc (by simp) _
 change Hid (Arr ((w.alloc (.cells (tokC t).toArray 67)).alloc (.cells #[.int .i64 0,.string ⟨#[]⟩,.bool false,.slice none 0 0,.slice none 0 0] 40)) (w.heap.size+1) 40 zNode) at HN
 clear HN0 hs1
 obtain⟨kd,fr,to_,tx⟩:=t
 obtain⟨hby,hln,hasc,_,_⟩:=hok
 simp only at hby hln hasc hk1
 have hv:scalarV ⟨kd,fr,to_,tx⟩=if kd=2 then some ⟨5,tx,false,[],[]⟩ else if kd=4 then (if tx=litNull then some ⟨0,[],false,[],[]⟩ else some ⟨1,tx,false,[],[]⟩)
  else if hasDot tx then (if (parseDV tx).2=0 then some ⟨3,(parseDV tx).1,false,[],[]⟩ else none) else (if (parR tx 10).2=0 then some ⟨2,(parR tx 10).1,false,[],[]⟩ else none):=rfl
 rw [hv]
 clear hv
 by_cases h2:kd=2
 ·rw [if_pos h2]
  have hk2:((kd:Int) == 2)=true:=by simp;omega
  clear h2
  go_enter Tryz.func30,Tryz.ntmps30
  go_upto_region 1 with(fail)
  generalize ((w.alloc (.cells (tokC ⟨kd,fr,to_,tx⟩).toArray 67)).alloc (.cells #[.int .i64 0,.string ⟨#[]⟩,.bool false,.slice none 0 0,.slice none 0 0] 40))=W at *
  change Hid (Arr W w.heap.size 67 [.int .i64 (kd:Int),.int .i64 (fr:Int),.int .i64 (to_:Int),.string (mks tx)]) at HT
  have hlow:w.heap.size+1<W.heap.size:=HN.out.lt
  have t0:=HT.out.cell' (i:=0) rfl
  have t3:=HT.out.cell' (i:=3) rfl
  go_wp2_with ((with_reducible show wpList _ _ _ (Oper.mk none (Op.store 40 (Operand.tmp 4) (Operand.tmp 14)) _ _ _ _ :: _) _ _);go_loud (refine wpList_sr rfl rfl 40 (.tmp 4) (.tmp 14) rfl (w.heap.size+1) [.int .i64 5,.string (mks tx),.bool false,.slice none 0 0,.slice none 0 0] rfl rfl 40 _ HN.out _ Tryz.sz40 (by first | rfl | simp) (by first | rfl | simp) (by first | rfl | simp [Value.oneCell']) ?_;intro w9 hr9 hg9 hz9))
  have r0:=hr9.out.cell' (i:=0) rfl
  have r1:=hr9.out.cell' (i:=1) rfl
  have r2:=hr9.out.cell' (i:=2) rfl
  have r3:=hr9.out.cell' (i:=3) rfl
  have r4:=hr9.out.cell' (i:=4) rfl
  refine bodyPost_ret (v:=.agg #[.int .i64 5,.string (mks tx),.bool false,.slice none 0 0,.slice none 0 0]) (by simp [results,Tryz.results30,go_sem,r0,r1,r2,r3,r4]) rfl ?_
  exact⟨HBd.grown hg9 HBd.size (fun k e=>by have:=Option.some.inj e;omega),rfl⟩
 ·rw [if_neg h2]
  have hk2:((kd:Int) == 2)=false:=by simp;omega
  by_cases h4:kd=4
  ·rw [if_pos h4]
   have hk4:((kd:Int) == 4)=true:=by simp;omega
   have i1:=toL_iff hby [110,117,108,108]
   clear h2 h4
   by_cases hnl:tx=litNull
   ·rw [if_pos hnl]
    have hq:((mks tx).toList == [110,117,108,108])=true:=beq_iff_eq.2 (i1.2 hnl)
    clear i1 hnl
    go_enter Tryz.func30,Tryz.ntmps30
    go_upto_region 1 with(fail)
    generalize ((w.alloc (.cells (tokC ⟨kd,fr,to_,tx⟩).toArray 67)).alloc (.cells #[.int .i64 0,.string ⟨#[]⟩,.bool false,.slice none 0 0,.slice none 0 0] 40))=W at *
    change Hid (Arr W w.heap.size 67 [.int .i64 (kd:Int),.int .i64 (fr:Int),.int .i64 (to_:Int),.string (mks tx)]) at HT
    have hlow:w.heap.size+1<W.heap.size:=HN.out.lt
    have t0:=HT.out.cell' (i:=0) rfl
    have t3:=HT.out.cell' (i:=3) rfl
    go_wp2_with ((with_reducible show wpList _ _ _ (Oper.mk none (Op.store 40 (Operand.tmp 4) (Operand.tmp 20)) _ _ _ _ :: _) _ _);go_loud (refine wpList_sr rfl rfl 40 (.tmp 4) (.tmp 20) rfl (w.heap.size+1) [.int .i64 0,.string ⟨#[]⟩,.bool false,.slice none 0 0,.slice none 0 0] rfl rfl 40 _ HN.out _ Tryz.sz40 (by first | rfl | simp) (by first | rfl | simp) (by first | rfl | simp [Value.oneCell']) ?_;intro w9 hr9 hg9 hz9))
    have r0:=hr9.out.cell' (i:=0) rfl
    have r1:=hr9.out.cell' (i:=1) rfl
    have r2:=hr9.out.cell' (i:=2) rfl
    have r3:=hr9.out.cell' (i:=3) rfl
    have r4:=hr9.out.cell' (i:=4) rfl
    refine bodyPost_ret (v:=.agg #[.int .i64 0,.string ⟨#[]⟩,.bool false,.slice none 0 0,.slice none 0 0]) (by simp [results,Tryz.results30,go_sem,r0,r1,r2,r3,r4]) rfl ?_
    exact⟨HBd.grown hg9 HBd.size (fun k e=>by have:=Option.some.inj e;omega),rfl⟩
   ·rw [if_neg hnl]
    have hq:((mks tx).toList == [110,117,108,108])=false:=beq_eq_false_iff_ne.2 (fun e=>hnl (i1.1 e))
    clear i1 hnl
    go_enter Tryz.func30,Tryz.ntmps30
    go_upto_region 1 with(fail)
    generalize ((w.alloc (.cells (tokC ⟨kd,fr,to_,tx⟩).toArray 67)).alloc (.cells #[.int .i64 0,.string ⟨#[]⟩,.bool false,.slice none 0 0,.slice none 0 0] 40))=W at *
    change Hid (Arr W w.heap.size 67 [.int .i64 (kd:Int),.int .i64 (fr:Int),.int .i64 (to_:Int),.string (mks tx)]) at HT
    have hlow:w.heap.size+1<W.heap.size:=HN.out.lt
    have t0:=HT.out.cell' (i:=0) rfl
    have t3:=HT.out.cell' (i:=3) rfl
    go_wp2_with ((with_reducible show wpList _ _ _ (Oper.mk none (Op.store 40 (Operand.tmp 4) (Operand.tmp 23)) _ _ _ _ :: _) _ _);go_loud (refine wpList_sr rfl rfl 40 (.tmp 4) (.tmp 23) rfl (w.heap.size+1) [.int .i64 1,.string (mks tx),.bool false,.slice none 0 0,.slice none 0 0] rfl rfl 40 _ HN.out _ Tryz.sz40 (by first | rfl | simp) (by first | rfl | simp) (by first | rfl | simp [Value.oneCell']) ?_;intro w9 hr9 hg9 hz9))
    have r0:=hr9.out.cell' (i:=0) rfl
    have r1:=hr9.out.cell' (i:=1) rfl
    have r2:=hr9.out.cell' (i:=2) rfl
    have r3:=hr9.out.cell' (i:=3) rfl
    have r4:=hr9.out.cell' (i:=4) rfl
    refine bodyPost_ret (v:=.agg #[.int .i64 1,.string (mks tx),.bool false,.slice none 0 0,.slice none 0 0]) (by simp [results,Tryz.results30,go_sem,r0,r1,r2,r3,r4]) rfl ?_
    exact⟨HBd.grown hg9 HBd.size (fun k e=>by have:=Option.some.inj e;omega),rfl⟩
  ·rw [if_neg h4]
   have hk4:((kd:Int) == 4)=false:=by simp;omega
   have DI:=parseI_h tx hby (by omega)
   have DH:=hasDot_h tx (hasc hk1 h2 h4) (by omega)
   have DP:=parseD_h tx hby (by omega)
   clear h2 h4 hasc hk1
   cases hdt:hasDot tx
   ·rw [if_neg (by simp)]
    rw [hdt] at DH
    clear hdt
    generalize parR tx 10=pv at *
    by_cases hp:pv.2=0
    ·rw [if_pos hp]
     have hp':(pv.2 != 0)=false:=by simp [hp]
     clear hp
     go_enter Tryz.func30,Tryz.ntmps30
     go_upto_region 1 with(fail)
     generalize ((w.alloc (.cells (tokC ⟨kd,fr,to_,tx⟩).toArray 67)).alloc (.cells #[.int .i64 0,.string ⟨#[]⟩,.bool false,.slice none 0 0,.slice none 0 0] 40))=W at *
     change Hid (Arr W w.heap.size 67 [.int .i64 (kd:Int),.int .i64 (fr:Int),.int .i64 (to_:Int),.string (mks tx)]) at HT
     have hlow:w.heap.size+1<W.heap.size:=HN.out.lt
     have t0:=HT.out.cell' (i:=0) rfl
     have t3:=HT.out.cell' (i:=3) rfl
     go_upto_region 13 with(first | (go_at_call 52;((with_reducible refine(DI.out _).mono ?_));rintro e w5 ⟨rfl,hb5⟩;have HT5:=HT.out.keep hb5;have t35:=HT5.cell' (i:=3) rfl) | (go_at_call 53;((with_reducible refine(DH.out _).mono ?_));rintro e w6 ⟨rfl,hb6⟩))
     have hN6:=Lib.hid ((HN.out.keep hb5).keep hb6)
     have hB6:=(HBd.trans (hb5.mono HBd.size)).trans (hb6.mono (HBd.trans (hb5.mono HBd.size)).size)
     go_wp2_with ((with_reducible show wpList _ _ _ (Oper.mk none (Op.store 40 (Operand.tmp 4) (Operand.tmp 45)) _ _ _ _ :: _) _ _);go_loud (refine wpList_sr rfl rfl 40 (.tmp 4) (.tmp 45) rfl (w.heap.size+1) [.int .i64 2,.string (mks pv.1),.bool false,.slice none 0 0,.slice none 0 0] rfl rfl 40 _ hN6.out _ Tryz.sz40 (by first | rfl | simp) (by first | rfl | simp) (by first | rfl | simp [Value.oneCell']) ?_;intro w9 hr9 hg9 hz9))
     have r0:=hr9.out.cell' (i:=0) rfl
     have r1:=hr9.out.cell' (i:=1) rfl
     have r2:=hr9.out.cell' (i:=2) rfl
     have r3:=hr9.out.cell' (i:=3) rfl
     have r4:=hr9.out.cell' (i:=4) rfl
     refine bodyPost_ret (v:=.agg #[.int .i64 2,.string (mks pv.1),.bool false,.slice none 0 0,.slice none 0 0]) (by simp [results,Tryz.results30,go_sem,r0,r1,r2,r3,r4]) rfl ?_
     exact⟨hB6.grown hg9 hB6.size (fun k e=>by have:=Option.some.inj e;omega),rfl⟩
    ·rw [if_neg hp]
     have hp':(pv.2 != 0)=true:=by simpa using hp
     clear hp
     go_enter Tryz.func30,Tryz.ntmps30
     go_upto_region 1 with(fail)
     generalize ((w.alloc (.cells (tokC ⟨kd,fr,to_,tx⟩).toArray 67)).alloc (.cells #[.int .i64 0,.string ⟨#[]⟩,.bool false,.slice none 0 0,.slice none 0 0] 40))=W at *
     change Hid (Arr W w.heap.size 67 [.int .i64 (kd:Int),.int .i64 (fr:Int),.int .i64 (to_:Int),.string (mks tx)]) at HT
     have hlow:w.heap.size+1<W.heap.size:=HN.out.lt
     have t0:=HT.out.cell' (i:=0) rfl
     have t3:=HT.out.cell' (i:=3) rfl
     have hPW:=h.below HBd
     go_upto_region 13 with(first | (go_at_call 52;((with_reducible refine(DI.out _).mono ?_));rintro e w5 ⟨rfl,hb5⟩;have HT5:=HT.out.keep hb5;have t35:=HT5.cell' (i:=3) rfl) | (go_at_call 53;((with_reducible refine(DH.out _).mono ?_));rintro e w6 ⟨rfl,hb6⟩))
     have hB6:=(HBd.trans (hb5.mono HBd.size)).trans (hb6.mono (HBd.trans (hb5.mono HBd.size)).size)
     have DF:Hid (Calls Tryz.prog 11 #[.pointer (some ⟨pb,0,none⟩),.int .i64 12] w6 fun e w'=>e=failE (offV k.en st.left,12)∧w6=w'):=fail_h ((hPW.below hb5).below hb6) 12
     generalize offV k.en st.left=at_ at *
     go_wp2_with (go_at_call 11;((with_reducible refine DF.out.mono ?_));rintro e wn ⟨he,rfl⟩;unfold failE at he;subst he)
     exact⟨rfl,hB6,rfl⟩
   ·rw [if_pos rfl]
    rw [hdt] at DH
    clear hdt
    generalize parR tx 10=pi at *
    generalize parseDV tx=pv at *
    by_cases hp:pv.2=0
    ·rw [if_pos hp]
     have hp':(pv.2 != 0)=false:=by simp [hp]
     clear hp
     go_enter Tryz.func30,Tryz.ntmps30
     go_upto_region 1 with(fail)
     generalize ((w.alloc (.cells (tokC ⟨kd,fr,to_,tx⟩).toArray 67)).alloc (.cells #[.int .i64 0,.string ⟨#[]⟩,.bool false,.slice none 0 0,.slice none 0 0] 40))=W at *
     change Hid (Arr W w.heap.size 67 [.int .i64 (kd:Int),.int .i64 (fr:Int),.int .i64 (to_:Int),.string (mks tx)]) at HT
     have hlow:w.heap.size+1<W.heap.size:=HN.out.lt
     have t0:=HT.out.cell' (i:=0) rfl
     have t3:=HT.out.cell' (i:=3) rfl
     have hok:=hw.keep HBd
     go_upto_region 13 with(first | (go_at_call 52;((with_reducible refine(DI.out _).mono ?_));rintro e w5 ⟨rfl,hb5⟩;have HT5:=HT.out.keep hb5;have t35:=HT5.cell' (i:=3) rfl;have hok5:=hok.keep hb5) | (go_at_call 53;((with_reducible refine(DH.out _).mono ?_));rintro e w6 ⟨rfl,hb6⟩;have HT6:=HT5.keep hb6;have t36:=HT6.cell' (i:=3) rfl;have hok6:=hok5.keep hb6) | (go_at_call 54;((with_reducible refine(DP.out _ hok6).mono ?_));rintro e w7 ⟨rfl,hb7⟩))
     have hN6:=Lib.hid (((HN.out.keep hb5).keep hb6).keep hb7)
     have hB5:=HBd.trans (hb5.mono HBd.size)
     have hB51:=hB5.trans (hb6.mono hB5.size)
     have hB6:=hB51.trans (hb7.mono hB51.size)
     go_wp2_with ((with_reducible show wpList _ _ _ (Oper.mk none (Op.store 40 (Operand.tmp 4) (Operand.tmp 45)) _ _ _ _ :: _) _ _);go_loud (refine wpList_sr rfl rfl 40 (.tmp 4) (.tmp 45) rfl (w.heap.size+1) [.int .i64 3,.string (mks pv.1),.bool false,.slice none 0 0,.slice none 0 0] rfl rfl 40 _ hN6.out _ Tryz.sz40 (by first | rfl | simp) (by first | rfl | simp) (by first | rfl | simp [Value.oneCell']) ?_;intro w9 hr9 hg9 hz9))
     have r0:=hr9.out.cell' (i:=0) rfl
     have r1:=hr9.out.cell' (i:=1) rfl
     have r2:=hr9.out.cell' (i:=2) rfl
     have r3:=hr9.out.cell' (i:=3) rfl
     have r4:=hr9.out.cell' (i:=4) rfl
     refine bodyPost_ret (v:=.agg #[.int .i64 3,.string (mks pv.1),.bool false,.slice none 0 0,.slice none 0 0]) (by simp [results,Tryz.results30,go_sem,r0,r1,r2,r3,r4]) rfl ?_
     exact⟨hB6.grown hg9 hB6.size (fun k e=>by have:=Option.some.inj e;omega),rfl⟩
    ·rw [if_neg hp]
     have hp':(pv.2 != 0)=true:=by simpa using hp
     clear hp
     go_enter Tryz.func30,Tryz.ntmps30
     go_upto_region 1 with(fail)
     generalize ((w.alloc (.cells (tokC ⟨kd,fr,to_,tx⟩).toArray 67)).alloc (.cells #[.int .i64 0,.string ⟨#[]⟩,.bool false,.slice none 0 0,.slice none 0 0] 40))=W at *
     change Hid (Arr W w.heap.size 67 [.int .i64 (kd:Int),.int .i64 (fr:Int),.int .i64 (to_:Int),.string (mks tx)]) at HT
     have hlow:w.heap.size+1<W.heap.size:=HN.out.lt
     have t0:=HT.out.cell' (i:=0) rfl
     have t3:=HT.out.cell' (i:=3) rfl
     have hok:=hw.keep HBd
     have hPW:=h.below HBd
     go_upto_region 13 with(first | (go_at_call 52;((with_reducible refine(DI.out _).mono ?_));rintro e w5 ⟨rfl,hb5⟩;have HT5:=HT.out.keep hb5;have t35:=HT5.cell' (i:=3) rfl;have hok5:=hok.keep hb5) | (go_at_call 53;((with_reducible refine(DH.out _).mono ?_));rintro e w6 ⟨rfl,hb6⟩;have HT6:=HT5.keep hb6;have t36:=HT6.cell' (i:=3) rfl;have hok6:=hok5.keep hb6) | (go_at_call 54;((with_reducible refine(DP.out _ hok6).mono ?_));rintro e w7 ⟨rfl,hb7⟩))
     have hB5:=HBd.trans (hb5.mono HBd.size)
     have hB51:=hB5.trans (hb6.mono hB5.size)
     have hB6:=hB51.trans (hb7.mono hB51.size)
     have DF:Hid (Calls Tryz.prog 11 #[.pointer (some ⟨pb,0,none⟩),.int .i64 12] w7 fun e w'=>e=failE (offV k.en st.left,12)∧w7=w'):=fail_h (((hPW.below hb5).below hb6).below hb7) 12
     generalize offV k.en st.left=at_ at *
     go_wp2_with (go_at_call 11;((with_reducible refine DF.out.mono ?_));rintro e wn ⟨he,rfl⟩;unfold failE at he;subst he)
     exact⟨rfl,hB6,rfl⟩
end Go.Proofs.YtijoollonkibfaaGreatDoor
namespace Go.Proofs.YtijoollonkibfaaGreatDoor
open Go.RowKit
def KeyMap (w:World) (b n:Nat) (ks:List (List Nat)):Prop:=
 ∃D:DataW Unit,w.ownsMap Tryz.prog 9 (plainElem Tryz.prog 4) b n D∧Maps.IsMap D∧∀key,By key→D.atKey (.string (u8s key)) (.lit (.bool false))=.lit (.bool (decide (key∈ks)))
theorem KeyMap.lt {w:World} {b n:Nat} {ks:List (List Nat)} (h:KeyMap w b n ks):b<w.heap.size:=by obtain⟨D,h1,_⟩:=h;exact h1.lt
theorem KeyMap.same {w w':World} {b n:Nat} {ks:List (List Nat)} (h:KeyMap w b n ks) (hs:w'.heap[b]? = w.heap[b]?):KeyMap w' b n ks:=by
 obtain⟨D,⟨es,clock,hb,hF,hn,hD⟩,h2,h3⟩:=h
 exact⟨D,⟨es,clock,hs.trans hb,hF,hn,hD⟩,h2,h3⟩
theorem KeyMap.made (w:World):KeyMap (w.alloc (.map #[] 0)) w.heap.size 0 []:=
 ⟨.map [],World.ownsMap_made w _ _ _,Maps.isMap_empty,fun key _=>by simp [DataW.atKey]⟩
theorem plainElem_bool_inv {P:Program} {e:TypeId} (he:P.underlying e=some .bool) {v:Value} {z:DataW Unit×List MemPlace} (h:plainElem P e v=some z):∃x,v=.bool x∧z=(.lit (.bool x),[]):=by
 unfold plainElem at h
 rw [he] at h
 cases v <;> simp at h
 exact⟨_,rfl,h.symm⟩
theorem key_lit (key:List Nat) (hl:key.length≤4294967296):keyOf Tryz.prog 9 (.string (mks key))=some (.string (u8s key)):=by
 rw [WideMaps.keyOf_string_mk Tryz.underlying9 (by rw [size_mks];unfold maxLen;omega),data_mks]
theorem u8s_inj {a b:List Nat} (ha:By a) (hb:By b) (h:u8s a=u8s b):a=b:=mks_inj ha hb (by unfold mks;unfold u8s at h;rw [h])
section
variable {w:World} {ops:Array Oper} {rest:List Oper} {o:Oper} {a:Act} {Q:Exit→Act→World→Prop}
theorem wpList_keyIn (hg:o.guard=none) (m x:Operand) (hop:o.op=Op.lookup 75 m x false) (b n:Nat) (ks:List (List Nat)) (hm:a.eval m=.map (some b)) (hown:KeyMap w b n ks) (key:List Nat) (hkb:By key) (hkl:key.length≤4294967296)
  (hx:a.eval x=.string (mks key)) (hK:wpList Tryz.prog ops Q rest (a.put o.dst (.bool (decide (key∈ks)))) w):wpList Tryz.prog ops Q (o :: rest) a w:=by
 obtain⟨D,h1,h2,h3⟩:=hown
 refine wpList_plain hg fun K' hK'=>?_
 have hz:(zeroValue 4).run Tryz.prog w=.ok (.bool false) w:=by kernel_rfl
 obtain⟨v,ps,hrun,hv⟩:=h1.lookup (Maps.string_keyed Tryz.underlying9) Tryz.underlying75 hz (plainElem_bool Tryz.underlying4 false) (key_lit key hkl)
 obtain⟨y,rfl,hy⟩:=plainElem_bool_inv Tryz.underlying4 hv
 rw [h3 key hkb] at hy
 simp only [Prod.mk.injEq,DataW.lit.injEq,Lit.bool.injEq] at hy
 rw [hy.1] at hK
 unfold Oper.wp
 simp [execOp,hop,hm,hx,hrun,Result.andThen]
 exact hK' _ _ hK
theorem wpList_keyPut (hg:o.guard=none) (hdst:o.dst=none) (m x v:Operand) (hop:o.op=Op.mapUpdate 75 m x v) (b n:Nat) (ks:List (List Nat)) (hm:a.eval m=.map (some b)) (hown:KeyMap w b n ks) (hn:n<4294967296) (key:List Nat) (hkb:By key) (hkl:key.length≤4294967296)
  (hx:a.eval x=.string (mks key)) (hv:a.eval v=.bool true) (hK:∀w',KeyMap w' b (n+1) (ks ++ [key])→w.grownBy w' (some b)→wpList Tryz.prog ops Q rest a w'):wpList Tryz.prog ops Q (o :: rest) a w:=by
 obtain⟨D,h1,h2,h3⟩:=hown
 have hput:a.put o.dst undef=a:=by rw [hdst];rfl
 refine wpList_mapUpdate_own w hg m x v 75 hop 9 4 (Maps.string_keyed Tryz.underlying9) Tryz.underlying75 _ b n D hm h1 (by unfold maxLen;omega) _ _ _ hx hv (key_lit key hkl) _ [] (plainElem_bool Tryz.underlying4 true) ?_
 rw [hput]
 intro w' h4 h5
 refine hK w' ⟨_,h4,h2.put _ _,fun k hk=>?_⟩ h5
 by_cases he:k=key
 ·subst he
  rw [Maps.atKey_put_same h2 (by simp [WideAt.IsKeyLit])]
  simp
 ·rw [Maps.atKey_put_other (by intro e;exact he (u8s_inj hk hkb (by simpa using e))),h3 k hk]
  congr 2
  rw [Bool.eq_iff_iff]
  simp [he]
end
end Go.Proofs.YtijoollonkibfaaGreatDoor
namespace Go.Proofs.YtijoollonkibfaaGreatDoor
open Go.RowKit
theorem own_put {w:World} {b:Nat} {e:TypeId} {k g n cap:Nat} {xs:List Value} (h:w.ownsRow b e k (.slice (some ⟨g,0,none⟩) n cap) n xs) (i:Nat) (u:Value):(w.setCell ⟨g,i,none⟩ u).ownsRow b e k (.slice (some ⟨g,0,none⟩) n cap) n (xs.set i u):=by
 refine⟨by rw [List.length_set];exact h.1,?_⟩
 rcases h.2 with⟨hv,_⟩ | ⟨g',cap',cur,hv,hb,hg,h1,h2,h3,h4⟩
 ·cases hv
 ·injection hv with hv1 _ hv3
  injection hv1 with hv1
  injection hv1 with hv1
  subst hv1
  subst hv3
  refine .inr ⟨g,cap,cur.setIfInBounds i u,rfl,hb,?_,h1,h2,by simpa using h3,?_⟩
  ·simp [World.setCell,Array.getElem?_modify,hg]
  ·rw [Array.toList_setIfInBounds,List.take_set,h4]
def setL (xs:List Value):Nat→List Value→List Value
 | _,[]=>xs
 | o,v :: r=>setL (xs.set o v) (o+1) r
theorem own_puts {b:Nat} {e:TypeId} {k g n cap:Nat}:∀(vs:List Value) (o:Nat) {w:World} {xs:List Value},w.ownsRow b e k (.slice (some ⟨g,0,none⟩) n cap) n xs→(w.setCells g o vs).ownsRow b e k (.slice (some ⟨g,0,none⟩) n cap) n (setL xs o vs)
 | [],_,_,_,h=>h
 | v :: r,o,_,_,h=>own_puts r (o+1) (own_put h o v)
theorem setL_len (vs:List Value):∀(o:Nat) (xs:List Value),(setL xs o vs).length=xs.length:=by
 induction vs with
 | nil=>intro o xs;rfl
 | cons v r ih=>intro o xs;rw [setL,ih,List.length_set]
theorem setL_get (vs:List Value):∀(o:Nat) (xs:List Value) (j:Nat),o+vs.length≤xs.length→(setL xs o vs)[j]? = if o≤j∧j<o+vs.length then vs[j - o]? else xs[j]?:=by
 induction vs with
 | nil=>intro o xs j _;rw [setL,if_neg (by rw [List.length_nil];omega)]
 | cons v r ih=>
  intro o xs j hl
  rw [List.length_cons] at hl ⊢
  rw [setL,ih (o+1) (xs.set o v) j (by rw [List.length_set];omega)]
  by_cases h0:j=o
  ·subst h0
   rw [if_neg (by omega),if_pos (by omega),List.getElem?_set_self (by omega),Nat.sub_self]
   rfl
  ·by_cases h1:o+1≤j∧j<o+1+r.length
   ·rw [if_pos h1,if_pos (by omega),show j - o=(j - (o+1))+1 by omega,List.getElem?_cons_succ]
   ·rw [if_neg h1,if_neg (by omega),List.getElem?_set_ne (by omega)]
theorem spans_set (l:List JSpan) (k:Nat) (x:Int) (hk:k<l.length):(spansC l).set (k*9+4) (.int .i64 x)=spansC (l.modify k (fun p=>{ p with to_:=x })):=by
 induction l generalizing k with
 | nil=>simp at hk
 | cons s t ih=>
  unfold spansC at ih ⊢
  cases k with
  | zero=>rw [List.modify_zero_cons,List.flatMap_cons,List.flatMap_cons,List.set_append_left _ _ (by simp [spanC])];rfl
  | succ k=>
   rw [List.modify_succ_cons,List.flatMap_cons,List.flatMap_cons,List.set_append_right _ _ (by simp [spanC];omega)]
   have:=ih k (by simpa using hk)
   rw [←this]
   congr 2
   simp [spanC];omega
theorem heap_setCells (g:Nat):∀(vs:List Value) (o:Nat) (w:World) {i:Nat},i≠g→(w.setCells g o vs).heap[i]? = w.heap[i]?
 | [],_,_,_,_=>rfl
 | v :: r,o,w,i,h=>(heap_setCells g r (o+1) _ h).trans (Below.heap_setCell w ⟨g,o,none⟩ v i h)
theorem size_setCells (g:Nat):∀(vs:List Value) (o:Nat) (w:World),(w.setCells g o vs).heap.size=w.heap.size
 | [],_,_=>rfl
 | v :: r,o,w=>(size_setCells g r (o+1) _).trans (by simp [World.setCell])
theorem same_setCells (g:Nat):∀(vs:List Value) (o:Nat) (w:World),(w.setCells g o vs).os=w.os∧(w.setCells g o vs).tape=w.tape∧(w.setCells g o vs).output=w.output
 | [],_,_=>⟨rfl,rfl,rfl⟩
 | v :: r,o,w=>same_setCells g r (o+1) (w.setCell ⟨g,o,none⟩ v)
theorem own_there {w:World} {b:Nat} {e:TypeId} {k g n cap:Nat} {xs:List Value} (h:w.ownsRow b e k (.slice (some ⟨g,0,none⟩) n cap) n xs) {o m:Nat} (ho:o+m≤n*k):w.there g o m:=by
 rcases h.2 with⟨hv,_⟩ | ⟨g',cap',cur,hv,hb,hg,h1,h2,h3,h4⟩
 ·cases hv
 ·injection hv with hv1 _ hv3
  injection hv1 with hv1
  injection hv1 with hv1
  subst hv1
  subst hv3
  intro j hj
  have hle:n*k≤cap*k:=Nat.mul_le_mul_right _ h1
  refine⟨?_,frozen_of_row w g (o+j) cur e hg⟩
  rw [cell_of_row w g (o+j) cur e (0,0) hg,Array.getElem?_eq_getElem (by omega)]
  rfl
theorem own_cell {w:World} {b:Nat} {e:TypeId} {k g n cap:Nat} {xs:List Value} (h:w.ownsRow b e k (.slice (some ⟨g,0,none⟩) n cap) n xs) {i:Nat} {u:Value} (hu:xs[i]? = some u):w.cell? ⟨g,i,none⟩=some u∧w.frozen? ⟨g,i,none⟩=false:=by
 have h1:=h.cells (g:=g) rfl i u hu
 rw [Addr.add_mid,Nat.zero_add] at h1
 have hl:=(List.getElem?_eq_some_iff.1 hu).1
 have h2:=own_there h (o:=i) (m:=1) (by have:=h.1;omega) 0 (by omega)
 exact⟨h1,h2.2⟩
section
variable {w:World} {B pb:Nat} {F:Nat→Prop} {k:PK} {A:Option Addr} {n c:Nat} {vn vs:Value} {ncs:List Value} {st:PSt}
theorem PMx.drewN (h:PMx w B pb F k A n c vn vs ncs st) (m:Nat):PMx (w.drewN m) B pb F k A n c vn vs ncs st:=h.kept (Nat.le_refl _) (fun _ _ _=>rfl) (fun _ _=>rfl)
theorem PMx.drew (h:PMx w B pb F k A n c vn vs ncs st):PMx w.drew B pb F k A n c vn vs ncs st:=h.kept (Nat.le_refl _) (fun _ _ _=>rfl) (fun _ _=>rfl)
theorem PStep.drew {w w':World} {F F':Nat→Prop} (h:PStep w w' F F'):PStep w w'.drew F F':=⟨h.os,h.tape,h.output,h.size,h.keep,h.new⟩
theorem PStep.drewN {w w':World} {F F':Nat→Prop} (h:PStep w w' F F') (m:Nat):PStep w (w'.drewN m) F F':=⟨h.os,h.tape,h.output,h.size,h.keep,h.new⟩
theorem PStep.refl (w:World) (F:Nat→Prop):PStep w w F F:=⟨rfl,rfl,rfl,Nat.le_refl _,fun _ _ _=>rfl,fun _ h=>.inl h⟩
theorem PStep.far {w w':World} {F F':Nat→Prop} (h:PStep w w' F F') {p:Addr} (hp:w.heap.size≤p.block∨F p.block) (u:Value):PStep w (w'.setCell p u) F F':=
 ⟨h.os,h.tape,h.output,by simpa [World.setCell] using h.size,fun i hi hF=>(setCell_heap_ne _ _ _ (by rintro rfl;rcases hp with h1 | h1;omega;exact hF h1)).trans (h.keep i hi hF),h.new⟩
theorem PStep.grown {w w' w2:World} {F F':Nat→Prop} (h:PStep w w' F F') {row:Option Nat} (hg:w'.grownBy w2 row) (hr:∀g,row=some g→w.heap.size≤g):PStep w w2 F F':=
 ⟨hg.os.trans h.os,hg.tape.trans h.tape,hg.output.trans h.output,Nat.le_trans h.size hg.size,fun i hi hF=>(hg.block i (Nat.lt_of_lt_of_le hi h.size) (by intro e;have:=hr i e.symm;omega)).trans (h.keep i hi hF),h.new⟩
theorem PStep.below' {w w' w2:World} {F F':Nat→Prop} (h:PStep w w' F F') (hb:Below w'.heap.size w' w2):PStep w w2 F F':=h.trans (PStep.of_below hb)
theorem PMx.far (h:PMx w B pb F k A n c vn vs ncs st) {p:Addr} (hF:¬F p.block) (hA:∀ad,A=some ad→ad.block≠p.block) (u:Value):PMx (w.setCell p u) B pb F k A n c vn vs ncs st:=
 h.kept (by simp [World.setCell]) (fun g _ hg=>setCell_heap_ne _ _ _ (by rintro rfl;exact hF hg)) (fun ad e=>setCell_heap_ne _ _ _ (hA ad e))
theorem PMx.spanTo (h:PMx w B pb F k A n c vn vs ncs st) {g m cap i:Nat} (hv:vs=.slice (some ⟨g,0,none⟩) m cap) (hi:i<st.spans.length) (x:Int) :
  PMx (w.setCell ⟨g,i*9+4,none⟩ (.int .i64 x)) B pb F k A n c vn vs ncs { st with spans:=st.spans.modify i (fun p=>{ p with to_:=x }) }:=by
 subst hv
 obtain⟨C,fz,hgb⟩:=own_kind h.spn (g:=g) rfl
 have hne:∀{i:Nat} {C':Array Value} {t:TypeId} {fz':Nat×Nat},w.heap[i]? = some (.cells C' t fz')→t≠34→i≠g:=fun hh ht e=>by subst e;exact ht (cells_kind hh hgb)
 have hm:m=st.spans.length:=by
  rcases h.spn.2 with⟨hv,_⟩ | ⟨_,_,_,hv,_⟩
  ·cases hv
  ·injection hv with _ hv2 _
 subst hm
 have hspn:=own_put h.spn (i*9+4) (.int .i64 x)
 rw [spans_set _ _ _ hi] at hspn
 exact {
  par:=h.par.far (hne h.par (by decide)) _
  pF:=h.pF
  lo:=h.lo
  hi:=fun i hi=>by have:=h.hi i hi;simpa [World.setCell] using this
  len:=h.len
  nc:=h.nc
  cm:=h.cm
  tok:=fun j u hj=>by
   obtain⟨ad,e,hc⟩:=h.tok j u hj
   obtain⟨_,_,C,fz,hbk⟩:=h.tokA ad e
   exact⟨ad,e,by rw [←hc];exact World.cell?_of_block (by rw [blk_add];exact setCell_heap_ne _ _ _ (hne hbk (by decide)))⟩
  tokA:=fun ad e=>by
   obtain⟨h0,h1,C,fz,hbk⟩:=h.tokA ad e
   exact⟨h0,h1,C,fz,by rw [setCell_heap_ne _ _ _ (hne hbk (by decide)),hbk]⟩
  nod:=own_far h.nod (by
   intro e
   obtain⟨C',fz',h'⟩:=own_kind h.nod e
   exact hne h' (by decide) rfl) _
  nodF:=h.nodF
  nrd:=h.nrd.keep (fun i C' fz' _ hb=>by rw [setCell_heap_ne _ _ _ (hne hb (by decide)),hb]) (fun _ h=>h)
  spn:=by
   rw [List.length_modify];exact hspn
  spnF:=h.spnF }
theorem NodesRd.put (h:NodesRd w F ncs st.nodes) {i:Nat} (hi:i<st.nodes.length) {cs:List Value} {nd:GNode} (hn:NodeRd w F cs nd):NodesRd w F (setL ncs (i*5) cs) (st.nodes.set i nd):=by
 have hl:cs.length=5:=by obtain⟨K,nk,ck,I,ni,ci,rfl,_⟩:=hn;rfl
 have hb:i*5+cs.length≤ncs.length:=by rw [h.1,hl];omega
 refine⟨by rw [setL_len,List.length_set];exact h.1,fun j x hj=>?_⟩
 have hj2:=(List.getElem?_eq_some_iff.1 hj).1
 rw [List.length_set] at hj2
 by_cases hij:j=i
 ·subst hij
  rw [List.getElem?_set_self hi] at hj
  obtain rfl:=Option.some.inj hj
  have e:((setL ncs (j*5) cs).drop (j*5)).take 5=cs:=by
   apply List.ext_getElem?
   intro q
   rw [List.getElem?_take]
   by_cases hq:q<5
   ·rw [if_pos hq,List.getElem?_drop,setL_get _ _ _ _ hb,if_pos (by omega)]
    congr 1;omega
   ·rw [if_neg hq,List.getElem?_eq_none (by omega)]
  rw [e];exact hn
 ·rw [List.getElem?_set_ne (by omega)] at hj
  have e:((setL ncs (i*5) cs).drop (j*5)).take 5=(ncs.drop (j*5)).take 5:=by
   apply List.ext_getElem?
   intro q
   rw [List.getElem?_take,List.getElem?_take]
   by_cases hq:q<5
   ·rw [if_pos hq,if_pos hq,List.getElem?_drop,List.getElem?_drop,setL_get _ _ _ _ hb,if_neg (by omega)]
   ·rw [if_neg hq,if_neg hq]
  rw [e];exact h.2 j x hj
theorem PMx.nodeSet (h:PMx w B pb F k A n c vn vs ncs st) {F':Nat→Prop} {g m cap i:Nat} (hv:vn=.slice (some ⟨g,0,none⟩) m cap) (hi:i<st.nodes.length) {cs:List Value} {nd:GNode} (hF:∀g,F g→F' g) (hlo:∀g,F' g→B≤g) (hhi:∀g,F' g→g<w.heap.size)
  (hA:∀ad,A=some ad→¬F' ad.block) (hn:NodeRd w F' cs nd):PMx (w.setCells g (i*5) cs) B pb F' k A n c vn vs (setL ncs (i*5) cs) { st with nodes:=st.nodes.set i nd }:=by
 subst hv
 obtain⟨C,fz,hgb⟩:=own_kind h.nod (g:=g) rfl
 have hne:∀{i:Nat} {C':Array Value} {t:TypeId} {fz':Nat×Nat},w.heap[i]? = some (.cells C' t fz')→t≠40→i≠g:=fun hh ht e=>by subst e;exact ht (cells_kind hh hgb)
 have hm:m=st.nodes.length:=by
  rcases h.nod.2 with⟨hv,_⟩ | ⟨_,_,_,hv,_⟩
  ·cases hv
  ·injection hv with _ hv2 _
 subst hm
 have hnod:=own_puts cs (i*5) h.nod
 exact {
  par:=(heap_setCells g cs _ w (hne h.par (by decide))).trans h.par
  pF:=hF _ h.pF
  lo:=hlo
  hi:=fun i hi=>by rw [size_setCells];exact hhi i hi
  len:=h.len
  nc:=h.nc
  cm:=h.cm
  tok:=fun j u hj=>by
   obtain⟨ad,e,hc⟩:=h.tok j u hj
   obtain⟨_,_,C,fz,hbk⟩:=h.tokA ad e
   exact⟨ad,e,by rw [←hc];exact World.cell?_of_block (by rw [blk_add];exact heap_setCells g cs _ w (hne hbk (by decide)))⟩
  tokA:=fun ad e=>by
   obtain⟨h0,h1,C,fz,hbk⟩:=h.tokA ad e
   exact⟨h0,hA ad e,C,fz,by rw [heap_setCells g cs _ w (hne hbk (by decide)),hbk]⟩
  nod:=by rw [List.length_set];exact hnod
  nodF:=fun g e=>hF g (h.nodF g e)
  nrd:=((h.nrd.keep (fun g C fz _ hb=>hb) hF).put hi hn).keep (fun i C' fz' _ hb=>by rw [heap_setCells g cs _ w (hne hb (by decide)),hb]) (fun _ h=>h)
  spn:=own_same h.spn (fun i e=>by
   obtain⟨C',fz',h'⟩:=own_kind h.spn e
   exact heap_setCells g cs _ w (hne h' (by decide)))
  spnF:=fun g e=>hF g (h.spnF g e) }
end
end Go.Proofs.YtijoollonkibfaaGreatDoor
namespace Go.Proofs.YtijoollonkibfaaGreatDoor
open Go.RowKit
def PInv (st:PSt):Prop:=st.nodes.length≤4096∧st.spans.length≤st.nodes.length
structure PSub (m:Nat) (st st':PSt):Prop where
 left:∃j,m≤j∧j≤st.left.length∧st'.left=st.left.drop j
 nodes:st.nodes.length≤st'.nodes.length
 spans:st.spans.length≤st'.spans.length
theorem PSub.refl (st:PSt):PSub 0 st st:=⟨⟨0,Nat.le_refl _,Nat.zero_le _,rfl⟩,Nat.le_refl _,Nat.le_refl _⟩
theorem PSub.trans {m n:Nat} {a b c:PSt} (h:PSub m a b) (k:PSub n b c):PSub (m+n) a c:=by
 obtain⟨⟨j,h1,h2,h3⟩,h4,h5⟩:=h
 obtain⟨⟨i,k1,k2,k3⟩,k4,k5⟩:=k
 rw [h3,List.length_drop] at k2
 exact⟨⟨j+i,by omega,by omega,by rw [k3,h3,List.drop_drop]⟩,by omega,by omega⟩
theorem PSub.mono {m n:Nat} {a b:PSt} (h:PSub m a b) (hn:n≤m):PSub n a b:=by
 obtain⟨⟨j,h1,h2,h3⟩,h4,h5⟩:=h
 exact⟨⟨j,by omega,h2,h3⟩,h4,h5⟩
theorem PSub.len {m:Nat} {a b:PSt} (h:PSub m a b):b.left.length+m≤a.left.length:=by
 obtain⟨⟨j,h1,h2,h3⟩,_⟩:=h
 rw [h3,List.length_drop];omega
theorem PSub.ok {m:Nat} {a b:PSt} (h:PSub m a b) (ha:∀t∈a.left,TokOK t):∀t∈b.left,TokOK t:=by
 obtain⟨⟨j,h1,h2,h3⟩,_⟩:=h
 intro t ht
 rw [h3] at ht
 exact ha t (List.mem_of_mem_drop ht)
theorem isV_cons {l:List JTok} {c:List Nat} (h:isV l c=true):∃t r,l=t :: r∧t.kind=1∧t.text=c:=by
 cases l with
 | nil=>simp [isV] at h
 | cons t r=>simp [isV] at h;exact⟨t,r,rfl,h⟩
theorem commaV_ok {en:Nat} {x y:PLoop} (h:commaV en x=.ok y):y.ks=x.ks∧y.keys=x.keys∧y.items=x.items∧y.st.nodes=x.st.nodes∧y.st.spans=x.st.spans∧PSub 0 x.st y.st:=by
 unfold commaV at h
 split at h
 ·injection h with h;subst h;exact⟨rfl,rfl,rfl,rfl,rfl,PSub.refl _⟩
 ·split at h
  ·rename_i hv
   obtain⟨t,r,hl,_⟩:=isV_cons hv
   injection h with h
   subst h
   exact⟨rfl,rfl,rfl,rfl,rfl,⟨1,by omega,by rw [hl];simp,rfl⟩,Nat.le_refl _,Nat.le_refl _⟩
  ·cases h
theorem keyV_ok {en d:Nat} {x y:PLoop} {s s':JSpan} (h:keyV en d x s=.ok (y,s')):∃t r r2 t2,x.st.left=t :: t2 :: r2∧r=t2 :: r2∧t.kind=2∧d+1≤32∧x.st.nodes.length<4096∧¬t.text∈x.ks∧isV r [58]=true ∧
  y=⟨⟨r2,x.st.nodes ++ [⟨5,t.text,false,[],[]⟩],x.st.spans⟩,x.ks ++ [t.text],x.keys ++ [(x.st.nodes.length:Int)],x.items⟩∧s' = { s with kf:=t.from_,kt:=t.to_ }:=by
 unfold keyV at h
 cases hl:x.st.left with
 | nil=>rw [hl] at h;cases h
 | cons t r=>
  rw [hl] at h
  simp only at h
  by_cases h1:t.kind≠2
  ·rw [if_pos h1] at h;cases h
  rw [if_neg h1] at h
  by_cases h2:32<d+1
  ·rw [if_pos h2] at h;cases h
  rw [if_neg h2] at h
  by_cases h3:4096≤x.st.nodes.length
  ·rw [if_pos h3] at h;cases h
  rw [if_neg h3] at h
  by_cases h4:t.text∈x.ks
  ·rw [if_pos h4] at h;cases h
  rw [if_neg h4] at h
  by_cases h5:isV r [58]=true
  ·rw [if_pos h5] at h
   obtain⟨t2,r2,rfl,_⟩:=isV_cons h5
   injection h with h
   injection h with h6 h7
   exact⟨t,_,r2,t2,rfl,rfl,by omega,by omega,by omega,h4,h5,h6.symm,h7.symm⟩
  ·rw [if_neg h5] at h;cases h
theorem keyV_sub {en d:Nat} {x y:PLoop} {s s':JSpan} (h:keyV en d x s=.ok (y,s')) (hi:PInv x.st):PInv y.st∧PSub 0 x.st y.st∧y.items=x.items:=by
 obtain⟨t,r,r2,t2,hl,_,_,_,hn,_,_,rfl,_⟩:=keyV_ok h
 refine⟨⟨by simp;omega,by have:=hi.2;simp;omega⟩,⟨⟨2,by omega,by rw [hl];simp,by rw [hl];rfl⟩,by simp,Nat.le_refl _⟩,rfl⟩
theorem val_ok (en:Nat) (f:Nat) :
  (∀st s d v st',PInv st→valueV en f st s d=.ok (v,st')→PInv st'∧PSub 1 st st') ∧
  (∀obj k d x y,PInv x.st→itemsV en f obj k d x=.ok y→PInv y.st∧PSub 0 x.st y.st∧isV y.st.left (if obj then [125] else [93])=true):=by
 induction f with
 | zero=>
  constructor
  ·intro st s d v st' _ h
   rw [valueV] at h
   cases h
  ·intro obj k d x y _ h
   rw [itemsV] at h
   cases h
 | succ f ih=>
  constructor
  ·intro st s d v st' hi h
   rw [valueV] at h
   cases hl:st.left with
   | nil=>rw [hl] at h;cases h
   | cons t r=>
    rw [hl] at h
    simp only at h
    split at h
    ·cases h
    split at h
    ·cases h
    split at h
    ·cases h
    rename_i hn
    split at h
    ·rename_i hk
     split at h
     ·cases h
     ·rename_i x hx
      have hi1:PInv (⟨r,st.nodes ++ [⟨if t.text = [123] then 10 else 9,[],false,[],[]⟩],st.spans ++ [{ s with node:=st.nodes.length,from_:=t.from_,whole:=true }]⟩:PSt):=⟨by simp;omega,by have:=hi.2;simp;omega⟩
      obtain⟨h1,h2,h3⟩:=ih.2 _ _ _ _ _ hi1 hx
      obtain⟨t2,r2,hl2,_⟩:=isV_cons h3
      injection h with h
      injection h with _ h
      subst h
      obtain⟨⟨j,j1,j2,j3⟩,hm1,hm2⟩:=h2
      simp only [List.length_append,List.length_singleton] at hm1 hm2
      simp only at j2 j3
      rw [hl2] at j3
      have hjl:j<r.length:=by
       rcases Nat.lt_or_ge j r.length with h | h
       ·exact h
       ·rw [List.drop_eq_nil_of_le h] at j3;cases j3
      refine⟨⟨by simp;exact h1.1,by simp;exact h1.2⟩,⟨⟨j+2,by omega,by rw [hl];simp;omega,?_⟩,by simp;omega,by simp;omega⟩⟩
      have e2:(t :: r).drop (j+2)=(r.drop j).drop 1:=by rw [List.drop_succ_cons,List.drop_drop]
      rw [hl,e2,←j3,←hl2]
    ·split at h
     ·cases h
     ·injection h with h
      injection h with _ h
      subst h
      exact⟨⟨by simp;omega,by have:=hi.2;simp;omega⟩,⟨⟨1,by omega,by rw [hl];simp,by rw [hl];rfl⟩,by simp,by simp⟩⟩
  ·intro obj k d x y hi h
   rw [itemsV] at h
   by_cases hc:isV x.st.left (if obj then [125] else [93])=true
   ·rw [if_pos hc] at h
    injection h with h
    subst h
    exact⟨hi,PSub.refl _,hc⟩
   ·rw [if_neg hc] at h
    cases hcm:commaV en x with
    | error e=>rw [hcm] at h;cases h
    | ok a=>
     rw [hcm] at h
     simp only at h
     obtain⟨a1,a2,a3,a4,a5,a6⟩:=commaV_ok hcm
     have hia:PInv a.st:=⟨by rw [a4];exact hi.1,by rw [a4,a5];exact hi.2⟩
     have key:∀(z:PLoop) (s:JSpan),PInv z.st→PSub 0 a.st z.st→(match valueV en f z.st s (d+1) with | .error e=>.error e | .ok (v,st)=>itemsV en f obj k d ⟨st,z.ks,z.keys,z.items ++ [v]⟩)=Except.ok y→PInv y.st∧PSub 0 x.st y.st∧isV y.st.left (if obj then [125] else [93])=true:=by
      intro z s hz hsz hh
      cases hv:valueV en f z.st s (d+1) with
      | error e=>rw [hv] at hh;cases hh
      | ok p=>
       obtain⟨v,st⟩:=p
       rw [hv] at hh
       simp only at hh
       obtain⟨b1,b2⟩:=ih.1 _ _ _ _ _ hz hv
       obtain⟨c1,c2,c3⟩:=ih.2 _ _ _ _ _ b1 hh
       exact⟨c1,((a6.trans hsz).trans (b2.trans c2)).mono (by omega),c3⟩
     cases obj with
     | false=>exact key a _ hia (PSub.refl _) h
     | true=>
      simp only [if_true] at h
      cases hk:keyV en d a ⟨0,k,x.items.length,0,0,0,0,false,false⟩ with
      | error e=>rw [hk] at h;cases h
      | ok p=>
       obtain⟨z,s⟩:=p
       rw [hk] at h
       obtain⟨k1,k2,_⟩:=keyV_sub hk hia
       exact key z s k1 k2 h
end Go.Proofs.YtijoollonkibfaaGreatDoor
