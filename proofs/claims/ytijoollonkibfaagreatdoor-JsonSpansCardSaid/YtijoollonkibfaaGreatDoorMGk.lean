/- Plain laws: what the scanner reads in a text of nested lists and maps around an inner text. No program is mentioned here. -/
import Derived.Test.YtijoollonkibfaaGreatDoorMO
import Derived.Test.YtijoollonkibfaaGreatDoorMGh
import Derived.Test.YtijoollonkibfaaGreatDoorMGg
import Derived.Test.YtijoollonkibfaaGreatDoorMGj
set_option linter.unusedVariables false
set_option linter.unusedSimpArgs false
set_option linter.defProp false
set_option linter.constructorNameAsVariable false
namespace Go.Proofs.YtijoollonkibfaaGreatDoor
open Go.RowKit
def shT (d:Nat) (t:JTok):JTok:={ t with from_:=t.from_+d,to_:=t.to_+d }
def tkL (o:Option (Nat×List Nat)) (a k:Nat):List JTok:=match o with | none=>[] | some p=>[⟨p.1,a,a+k,p.2⟩]
def ntL (o:Option (List Nat)) (a k:Nat):List JNote:=match o with | none=>[] | some p=>[⟨a,a+k,p⟩]
/-! ### The brackets -/
def openL:Bool→List Nat | true=>[123,34,107,34,58] | false=>[91]
def preL (sh:List Bool):List Nat:=sh.flatMap openL
def closeL:Bool→Nat | true=>125 | false=>93
def endL (sh:List Bool):List Nat:=(sh.map closeL).reverse
def openT (a:Nat):Bool→List JTok | true=>[⟨1,a,a+1,[123]⟩,⟨2,a+1,a+4,[107]⟩,⟨1,a+4,a+5,[58]⟩] | false=>[⟨1,a,a+1,[91]⟩]
def preT:Nat→List Bool→List JTok | _,[]=>[] | a,b :: sh=>openT a b ++ preT (a+(openL b).length) sh
def endT:Nat→List Nat→List JTok | _,[]=>[] | a,c :: cs=>⟨1,a,a+1,[c]⟩ :: endT (a+1) cs
def nestL (sh:List Bool) (inner:List Nat):List Nat:=preL sh ++ (inner ++ 10 :: endL sh)
end Go.Proofs.YtijoollonkibfaaGreatDoor
namespace Go.Proofs.YtijoollonkibfaaGreatDoor
open Go.RowKit
theorem val_more {en f:Nat} {st st':PSt} {s:JSpan} {d:Nat} {v:Int} (hi:PInv st) (h:valueV en f st s d=.ok (v,st')):v=(st.nodes.length:Int)∧st.nodes.length+1≤st'.nodes.length:=by
 cases f with
 | zero=>rw [valueV] at h;cases h
 | succ f=>
  rw [valueV] at h
  cases hl:st.left with
  | nil=>rw [hl] at h;cases h
  | cons t r=>
   rw [hl] at h
   simp only at h
   split at h
   ·cases h
   split at h
   ·cases h
   split at h
   ·cases h
   rename_i hn
   split at h
   ·split at h
    ·cases h
    ·rename_i x hx
     have hi1:PInv (⟨r,st.nodes ++ [⟨if t.text = [123] then 10 else 9,[],false,[],[]⟩],st.spans ++ [{ s with node:=st.nodes.length,from_:=t.from_,whole:=true }]⟩:PSt):=⟨by simp;omega,by have:=hi.2;simp;omega⟩
     obtain⟨_,h2,_⟩:=(val_ok en f).2 _ _ _ _ _ hi1 hx
     have h3:=h2.nodes
     simp only [List.length_append,List.length_singleton] at h3
     injection h with h
     injection h with h4 h
     subst h
     exact⟨h4.symm,by simp;omega⟩
   ·split at h
    ·cases h
    ·injection h with h
     injection h with h4 h
     subst h
     exact⟨h4.symm,by simp⟩
inductive InnT (toks:List JTok) (nd:GNode):Prop
 | leaf (t:JTok):toks = [t]→t.kind≠1→scalarV t=some nd→InnT toks nd
 | list (t t2:JTok):toks = [t,t2]→t.kind=1→t.text = [91]→t2.kind=1→t2.text = [93]→nd=⟨9,[],false,[],[]⟩→InnT toks nd
 | map (t t2:JTok):toks = [t,t2]→t.kind=1→t.text = [123]→t2.kind=1→t2.text = [125]→nd=⟨10,[],false,[],[]⟩→InnT toks nd
def Begs (t:JTok):Prop:=¬(t.kind=1∧¬t.text = [91]∧¬t.text = [123])
theorem InnT.head {toks:List JTok} {nd:GNode} (h:InnT toks nd):∃t r,toks=t :: r∧Begs t:=by
 cases h with
 | leaf t h1 h2 h3=>exact⟨t,[],h1,fun h=>h2 h.1⟩
 | list t t2 h1 h2 h3 h4 h5 h6=>exact⟨t,[t2],h1,fun h=>h.2.1 h3⟩
 | map t t2 h1 h2 h3 h4 h5 h6=>exact⟨t,[t2],h1,fun h=>h.2.2 h3⟩
theorem isV_yes {t:JTok} {r:List JTok} {c:List Nat} (h1:t.kind=1) (h2:t.text=c):isV (t :: r) c=true:=decide_eq_true ⟨h1,h2⟩
theorem isV_no {t:JTok} {r:List JTok} {c:List Nat} (h:¬(t.kind=1∧t.text=c)):isV (t :: r) c=false:=decide_eq_false h
theorem Begs.no {t:JTok} (h:Begs t) {c:Nat} (hc:c=93∨c=125) (r:List JTok):isV (t :: r) [c]=false:=isV_no fun hh=>h ⟨hh.1,by rw [hh.2];intro e;injection e with e;omega,by rw [hh.2];intro e;injection e with e;omega⟩
theorem set_snoc (N:List GNode) (a b:GNode) (r:List GNode):(N ++ a :: r).set N.length b=N ++ b :: r:=by
 rw [List.set_append_right (h:=Nat.le_refl _),Nat.sub_self];rfl
theorem InnT.value {toks:List JTok} {nd:GNode} (h:InnT toks nd) (en f:Nat) (N:List GNode) (S:List JSpan) (s:JSpan) (d:Nat) (rest:List JTok) (hd:d≤32) (hN:N.length<4096) :
  ∃S',valueV en (f+2) ⟨toks ++ rest,N,S⟩ s d=.ok ((N.length:Int),⟨rest,N ++ [nd],S'⟩):=by
 cases h with
 | leaf t h1 h2 h3=>
  subst h1
  rw [List.singleton_append,valueV]
  simp only
  rw [if_neg (fun h=>h2 h.1),if_neg (by omega),if_neg (by omega),if_neg h2,h3]
  exact⟨_,rfl⟩
 | list t t2 h1 h2 h3 h4 h5 h6=>
  subst h1
  rw [List.cons_append,valueV]
  simp only
  rw [if_neg (fun h=>h.2.1 h3),if_neg (by omega),if_neg (by omega),if_pos h2,h3,itemsV]
  have e1:decide (([91]:List Nat) = [123])=false:=by decide
  have e2:(if ([91]:List Nat) = [123] then (10:Int) else 9)=9:=by decide
  rw [e1,e2]
  simp only
  rw [if_pos (by simp only [Bool.false_eq_true,if_false];exact isV_yes h4 h5)]
  simp only
  rw [set_snoc,h6]
  exact⟨_,rfl⟩
 | map t t2 h1 h2 h3 h4 h5 h6=>
  subst h1
  rw [List.cons_append,valueV]
  simp only
  rw [if_neg (fun h=>h.2.2 h3),if_neg (by omega),if_neg (by omega),if_pos h2,h3,itemsV]
  have e1:decide (([123]:List Nat) = [123])=true:=by decide
  have e2:(if ([123]:List Nat) = [123] then (10:Int) else 9)=10:=by decide
  rw [e1,e2]
  simp only
  rw [if_pos (by simp only [if_true];exact isV_yes h4 h5)]
  simp only
  rw [set_snoc,h6]
  exact⟨_,rfl⟩
/-! ### The nested value -/
def nestN:Nat→List Bool→GNode→List GNode
 | _,[],nd=>[nd]
 | b,false :: sh,nd=>⟨9,[],false,[],[((b+1:Nat):Int)]⟩ :: nestN (b+1) sh nd
 | b,true :: sh,nd=>⟨10,[],false,[((b+1:Nat):Int)],[((b+2:Nat):Int)]⟩ :: ⟨5,[107],false,[],[]⟩ :: nestN (b+2) sh nd
end Go.Proofs.YtijoollonkibfaaGreatDoor
namespace Go.Proofs.YtijoollonkibfaaGreatDoor
open Go.RowKit
def kindJ (k:Int):Prop:=k=0∨k=1∨k=2∨k=3∨k=5∨k=9∨k=10
structure NodeJ (N:List GNode) (i:Nat) (nd:GNode):Prop where
 kind:kindJ nd.kind
 tx:By nd.text
 len:nd.text.length≤4294967200
 leaf:nd.kind≠9→nd.kind≠10→nd.keys = []∧nd.items = []
 ref:∀y∈refs nd,(i:Int)<y∧y<(N.length:Int)
 key:∀y∈nd.keys,∃nk:GNode,N[y.toNat]? = some nk∧nk.kind=5
def JG (N:List GNode):Prop:=∀(i:Nat) (nd:GNode),N[i]? = some nd→NodeJ N i nd
def Ext (N N':List GNode):Prop:=∀(j:Nat) (nk:GNode),N[j]? = some nk→N'[j]? = some nk
theorem Ext.refl (N:List GNode):Ext N N:=fun _ _ h=>h
theorem Ext.trans {a b c:List GNode} (h:Ext a b) (k:Ext b c):Ext a c:=fun j nk e=>k j nk (h j nk e)
theorem Ext.app (N M:List GNode):Ext N (N ++ M):=fun j nk h=>by
 rw [List.getElem?_append_left (List.getElem?_eq_some_iff.1 h).1];exact h
theorem Ext.len {a b:List GNode} (h:Ext a b):a.length≤b.length:=by
 by_cases e:a.length=0
 ·omega
 ·have h1:=h (a.length - 1) _ (List.getElem?_eq_getElem (by omega))
  have:=(List.getElem?_eq_some_iff.1 h1).1
  omega
theorem NodeJ.ext {N N':List GNode} {i:Nat} {nd:GNode} (h:NodeJ N i nd) (he:Ext N N'):NodeJ N' i nd:=
 ⟨h.kind,h.tx,h.len,h.leaf,fun y hy=>⟨(h.ref y hy).1,by have:=(h.ref y hy).2;have:=he.len;omega⟩,fun y hy=>by
  obtain⟨nk,h1,h2⟩:=h.key y hy
  exact⟨nk,he _ _ h1,h2⟩⟩
theorem JG.snoc {N:List GNode} (h:JG N) {nd:GNode} (hk:kindJ nd.kind) (ht:By nd.text) (hl:nd.text.length≤4294967200) (h1:nd.keys = []) (h2:nd.items = []):JG (N ++ [nd]):=fun i x hx=>by
 by_cases hi:i<N.length
 ·rw [List.getElem?_append_left hi] at hx
  exact(h i x hx).ext (Ext.app _ _)
 ·have hlt:=(List.getElem?_eq_some_iff.1 hx).1
  rw [List.length_append,List.length_singleton] at hlt
  have:i=N.length:=by omega
  subst this
  rw [List.getElem?_append_right (Nat.le_refl _),Nat.sub_self] at hx
  have:nd=x:=by simpa using hx
  subst this
  exact⟨hk,ht,hl,fun _ _=>⟨h1,h2⟩,fun y hy=>by unfold refs at hy;rw [h1,h2] at hy;simp at hy,fun y hy=>by rw [h1] at hy;simp at hy⟩
theorem parR_by (l:List Nat):By (parR l 10).1∧(parR l 10).1.length≤500:=by
 have nil:By ([]:List Nat)∧([]:List Nat).length≤500:=⟨By.nil,by simp⟩
 unfold parR
 split
 ·split
  ·exact nil
  ·unfold pB
   split
   ·split
    ·unfold tS
     split
     ·rename_i h
      simp only at h ⊢
      unfold ntx
      split
      ·exact⟨by intro c hc;simp at hc;omega,by simp⟩
      ·refine⟨By.append ?_ ?_,?_⟩
       ·split
        ·intro c hc;simp at hc;omega
        ·exact By.nil
       ·intro c hc
        rw [List.mem_reverse] at hc
        unfold asc at hc
        obtain⟨y,hy,rfl⟩:=List.mem_map.1 hc
        have:=ten_dg _ y hy
        omega
       ·rw [List.length_append,List.length_reverse]
        have:(asc (dg (hor (10:Int).toNat digV (lead 48 (parB l).2)))).length=(dg (hor (10:Int).toNat digV (lead 48 (parB l).2))).length:=by unfold asc;exact List.length_map ..
        split <;> simp only [List.length_singleton,List.length_nil] <;> omega
     ·exact nil
    ·exact nil
   ·exact nil
 ·exact nil
theorem text_ok {t:JTok} (ht:TokOK t) {nd:GNode} (h:scalarV t=some nd):kindJ nd.kind∧By nd.text∧nd.text.length≤4294967200:=by
 obtain⟨h1,h2,_⟩:=ht
 unfold scalarV at h
 split at h
 ·obtain rfl:=Option.some.inj h;exact⟨by simp [kindJ],h1,h2⟩
 split at h
 ·split at h
  ·obtain rfl:=Option.some.inj h;exact⟨by simp [kindJ],By.nil,by simp⟩
  ·obtain rfl:=Option.some.inj h;exact⟨by simp [kindJ],h1,h2⟩
 split at h
 ·split at h
  ·rename_i hp
   obtain rfl:=Option.some.inj h
   refine⟨by simp [kindJ],?_⟩
   show By (parseDV t.text).1∧(parseDV t.text).1.length≤_
   cases hn:numeralV t.text with
   | none=>rw [parseDV_none hn];exact⟨By.nil,by simp⟩
   | some x=>
    have hx:=numeralV_ok hn
    rw [parseDV_some hn]
    unfold resV
    split
    ·refine⟨textV_by hx.1,?_⟩
     rename_i hlim
     have hlen:x.2.1.length≤400:=by
      unfold limV at hlim
      split at hlim
      ·cases hlim
      ·omega
     unfold textV
     have e1:=coefL_len x.1 x.2.1
     have e2:=itoaL_len x.2.2 (by have:=hx.2.2.1;omega) (by have:=hx.2.2.2;omega)
     simp only [List.length_append,List.length_singleton]
     omega
    ·exact⟨By.nil,by simp⟩
  ·cases h
 ·split at h
  ·rename_i hp
   obtain rfl:=Option.some.inj h
   refine⟨by simp [kindJ],?_⟩
   exact⟨(parR_by t.text).1,by have:=(parR_by t.text).2;show(parR t.text 10).1.length≤_;omega⟩
  ·cases h
def ColJ (N:List GNode) (k0:Nat) (keys items:List Int):Prop:=
 (∀y∈keys,((k0:Int)<y∧y<(N.length:Int))∧∃nk:GNode,N[y.toNat]? = some nk∧nk.kind=5)∧∀y∈items,(k0:Int)<y∧y<(N.length:Int)
theorem ColJ.ext {N N':List GNode} {k0:Nat} {ks is_:List Int} (h:ColJ N k0 ks is_) (he:Ext N N'):ColJ N' k0 ks is_:=
 ⟨fun y hy=>⟨⟨(h.1 y hy).1.1,by have:=(h.1 y hy).1.2;have:=he.len;omega⟩,by obtain⟨nk,h1,h2⟩:=(h.1 y hy).2;exact⟨nk,he _ _ h1,h2⟩⟩,fun y hy=>⟨(h.2 y hy).1,by have:=(h.2 y hy).2;have:=he.len;omega⟩⟩
theorem json_nodes (en f:Nat) :
  (∀st s d v st',(∀t∈st.left,TokOK t)→PInv st→JG st.nodes→valueV en f st s d=.ok (v,st')→JG st'.nodes∧Ext st.nodes st'.nodes) ∧
  (∀obj k d x y k0,(∀t∈x.st.left,TokOK t)→PInv x.st→JG x.st.nodes→k0<x.st.nodes.length→ColJ x.st.nodes k0 x.keys x.items→itemsV en f obj k d x=.ok y→JG y.st.nodes∧Ext x.st.nodes y.st.nodes∧ColJ y.st.nodes k0 y.keys y.items):=by
 induction f with
 | zero=>
  constructor
  ·intro st s d v st' _ _ _ h;rw [valueV] at h;cases h
  ·intro obj k d x y k0 _ _ _ _ _ h;rw [itemsV] at h;cases h
 | succ f ih=>
  constructor
  ·intro st s d v st' ht hi hg h
   rw [valueV] at h
   cases hl:st.left with
   | nil=>rw [hl] at h;cases h
   | cons t r=>
    rw [hl] at h
    simp only at h
    split at h
    ·cases h
    split at h
    ·cases h
    split at h
    ·cases h
    rename_i hn
    have htr:∀t'∈r,TokOK t':=fun t' h'=>ht t' (by rw [hl];simp [h'])
    split at h
    ·split at h
     ·cases h
     ·rename_i x hx
      have hi1:PInv (⟨r,st.nodes ++ [⟨if t.text = [123] then 10 else 9,[],false,[],[]⟩],st.spans ++ [{ s with node:=st.nodes.length,from_:=t.from_,whole:=true }]⟩:PSt):=⟨by simp;omega,by have:=hi.2;simp;omega⟩
      have hk910:(if t.text = [123] then (10:Int) else 9)=10∨(if t.text = [123] then (10:Int) else 9)=9:=by split <;> simp
      obtain⟨g1,g2,g3⟩:=ih.2 _ _ _ _ _ st.nodes.length htr hi1 (hg.snoc (by rcases hk910 with e | e <;> simp [kindJ,e]) By.nil (by simp) rfl rfl) (by simp) ⟨by simp,by simp⟩ hx
      injection h with h
      injection h with _ h
      subst h
      simp only at g1 g2 g3 ⊢
      have hpl:x.st.nodes[st.nodes.length]? = some ⟨if t.text = [123] then 10 else 9,[],false,[],[]⟩:=g2 _ _ (by simp)
      have hlt:=(List.getElem?_eq_some_iff.1 hpl).1
      have hset:∀(nd':GNode) (j:Nat) (nk:GNode),x.st.nodes[j]? = some nk→nk.kind=5→(x.st.nodes.set st.nodes.length nd')[j]? = some nk:=by
       intro nd' j nk hj h5
       rw [List.getElem?_set]
       by_cases e:st.nodes.length=j
       ·exfalso
        subst e
        rw [hpl] at hj
        obtain rfl:=Option.some.inj hj
        rcases hk910 with e | e <;> simp only [e] at h5 <;> omega
       ·rw [if_neg e];exact hj
      refine⟨fun i nd hnd=>?_,fun j nk hj=>?_⟩
      ·rw [List.getElem?_set] at hnd
       by_cases e:st.nodes.length=i
       ·rw [if_pos e,if_pos hlt] at hnd
        obtain rfl:=Option.some.inj hnd
        subst e
        refine⟨by rcases hk910 with e | e <;> simp [kindJ,e],By.nil,by simp,fun h9 h10=>?_,fun y hy=>?_,fun y hy=>?_⟩
        ·exfalso;rcases hk910 with e | e
         ·exact h10 e
         ·exact h9 e
        ·rw [List.length_set]
         rcases List.mem_append.1 hy with h1 | h1
         ·exact(g3.1 y h1).1
         ·exact g3.2 y h1
        ·obtain⟨nk,n1,n2⟩:=(g3.1 y hy).2
         exact⟨nk,hset _ _ _ n1 n2,n2⟩
       ·rw [if_neg e] at hnd
        have:=g1 i nd hnd
        exact⟨this.kind,this.tx,this.len,this.leaf,fun y hy=>by rw [List.length_set];exact this.ref y hy,fun y hy=>by obtain⟨nk,n1,n2⟩:=this.key y hy;exact⟨nk,hset _ _ _ n1 n2,n2⟩⟩
      ·have hjl:=(List.getElem?_eq_some_iff.1 hj).1
       rw [List.getElem?_set,if_neg (by omega)]
       exact g2 _ _ (Ext.app _ _ _ _ hj)
    ·split at h
     ·cases h
     ·rename_i nd hnd
      injection h with h
      injection h with _ h
      subst h
      obtain⟨k1,k2,k3⟩:=text_ok (ht t (by rw [hl];simp)) hnd
      exact⟨hg.snoc k1 k2 k3 (scalarV_no hnd).1 (scalarV_no hnd).2,Ext.app _ _⟩
  ·intro obj k d x y k0 ht hi hg hk0 hcol h
   rw [itemsV] at h
   by_cases hc:isV x.st.left (if obj then [125] else [93])=true
   ·rw [if_pos hc] at h
    injection h with h
    subst h
    exact⟨hg,Ext.refl _,hcol⟩
   ·rw [if_neg hc] at h
    cases hcm:commaV en x with
    | error e=>rw [hcm] at h;cases h
    | ok a=>
     rw [hcm] at h
     simp only at h
     obtain⟨a1,a2,a3,a4,a5,a6⟩:=commaV_ok hcm
     have hia:PInv a.st:=⟨by rw [a4];exact hi.1,by rw [a4,a5];exact hi.2⟩
     have hta:=a6.ok ht
     have key:∀(z:PLoop) (s:JSpan),(∀t∈z.st.left,TokOK t)→PInv z.st→JG z.st.nodes→k0<z.st.nodes.length→ColJ z.st.nodes k0 z.keys z.items→Ext x.st.nodes z.st.nodes→(match valueV en f z.st s (d+1) with | .error e=>.error e | .ok (v,st)=>itemsV en f obj k d ⟨st,z.ks,z.keys,z.items ++ [v]⟩)=Except.ok y→JG y.st.nodes∧Ext x.st.nodes y.st.nodes∧ColJ y.st.nodes k0 y.keys y.items:=by
      intro z s hzt hz hzg hz0 hzc hze hh
      cases hv:valueV en f z.st s (d+1) with
      | error e=>rw [hv] at hh;cases hh
      | ok p=>
       obtain⟨v,st⟩:=p
       rw [hv] at hh
       simp only at hh
       obtain⟨b1,b2⟩:=(val_ok en f).1 _ _ _ _ _ hz hv
       obtain⟨b3,b4⟩:=val_more hz hv
       obtain⟨b5,b6⟩:=ih.1 _ _ _ _ _ hzt hz hzg hv
       have hcv:=hzc.ext b6
       obtain⟨c1,c2,c3⟩:=ih.2 _ _ _ _ _ k0 (b2.ok hzt) b1 b5 (by simp only;omega) ⟨hcv.1,fun q hq=>by
        rcases List.mem_append.1 hq with h1 | h1
        ·exact hcv.2 q h1
        ·have:q=v:=by simpa using h1
         subst this
         rw [b3];simp only;omega⟩ hh
       exact⟨c1,hze.trans (b6.trans c2),c3⟩
     cases obj with
     | false=>exact key a _ hta hia (by rw [a4];exact hg) (by rw [a4];exact hk0) (by rw [a4,a2,a3];exact hcol) (by rw [a4];exact Ext.refl _) h
     | true=>
      simp only [if_true] at h
      cases hk:keyV en d a ⟨0,k,x.items.length,0,0,0,0,false,false⟩ with
      | error e=>rw [hk] at h;cases h
      | ok p=>
       obtain⟨z,s⟩:=p
       rw [hk] at h
       obtain⟨k1,k2,_⟩:=keyV_sub hk hia
       obtain⟨t,r,r2,t2,hl,_,_,_,hn4,_,_,rfl,_⟩:=keyV_ok hk
       have htt:=hta t (by rw [hl];simp)
       have hcx:=hcol.ext (Ext.app x.st.nodes [⟨5,t.text,false,[],[]⟩])
       refine key _ s (k2.ok hta) k1 ?_ ?_ ?_ ?_ h
       ·rw [a4];exact hg.snoc (by simp [kindJ]) htt.1 htt.2.1 rfl rfl
       ·rw [a4];simp;omega
       ·rw [a4,a2,a3]
        refine⟨fun q hq=>?_,hcx.2⟩
        rcases List.mem_append.1 hq with h1 | h1
        ·exact hcx.1 q h1
        ·have:q=(x.st.nodes.length:Int):=by simpa using h1
         subst this
         refine⟨⟨by omega,by simp;omega⟩,⟨5,t.text,false,[],[]⟩,?_,rfl⟩
         rw [Int.toNat_natCast];simp
       ·rw [a4];exact Ext.app _ _
theorem parseJ_JG {s:List Nat} (hs:By s) {D:JDoc} (h:parseJ s=.ok D):JG D.nodes∧0<D.nodes.length∧D.nodes.length≤4096:=by
 unfold parseJ at h
 split at h
 ·cases h
 split at h
 ·cases h
 rename_i v st hv
 split at h
 ·injection h with h
  subst h
  have hi0:PInv (⟨(scanV s).toks,[],[]⟩:PSt):=⟨by simp,by simp⟩
  obtain⟨h1,h2⟩:=(json_nodes _ _).1 _ _ _ _ _ (scanV_toks s hs).1 hi0 (fun i nd hnd=>by simp at hnd) hv
  have h3:=((val_ok _ _).1 _ _ _ _ _ hi0 hv).1
  have h4:=(val_more hi0 hv).2
  exact⟨h1,by simp at h4 ⊢;omega,h3.1⟩
 ·cases h
end Go.Proofs.YtijoollonkibfaaGreatDoor
namespace Go.Proofs.YtijoollonkibfaaGreatDoor
open Go.RowKit
theorem ndAt_of {N:List GNode} {i:Nat} {nd:GNode} (h:N[i]? = some nd):ndAt N i=nd:=by
 unfold ndAt;rw [List.getD_eq_getElem?_getD,h];rfl
theorem JG.at_ {N:List GNode} (h:JG N) {i:Nat} (hi:i<N.length):NodeJ N i (ndAt N i):=h i _ (ndAt_get hi)
theorem JG.idx {N:List GNode} (h:JG N):Idx N:=fun i hi x hx=>by
 have:=(h.at_ hi).ref x hx
 omega
theorem JG.ranks {N:List GNode} (h:JG N):Ranks N (fun x=>N.length - x.toNat):=fun x hx y hy=>by
 obtain⟨h1,h2⟩:=hx
 have:=(h.at_ (i:=x.toNat) (by omega)).ref y hy
 show N.length - y.toNat<N.length - x.toNat
 omega
theorem endT_dag {nodes:List GNode} {s:TS} (h:DI nodes [] s) (hall:∀x,InN nodes.length x→0≤gI s.inn x) (hT:TOK nodes.length s) (hn:nodes.length≤65536):EndT nodes s:=by
 have hsl:s.sizes.length≤65536:=by have:=hT.sz;have:=hT.cn;omega
 refine⟨h.ln,fun i hi=>?_,fun c=>?_,hsl⟩
 ·have hx:InN nodes.length (i:Int):=⟨by omega,by omega⟩
  have h1:=hall (i:Int) hx
  have h2:=(h.dn (i:Int) hx h1).1
  unfold gI at h1 h2
  rw [Int.toNat_natCast] at h1 h2
  exact⟨h1,h2⟩
 ·by_cases hc:c<s.sizes.length
  ·rw [h.one c hc];omega
  ·rw [List.getD_eq_getElem?_getD,List.getElem?_eq_none (by omega)];simp
theorem JG.dp {N:List GNode} (h:JG N) (hn:N.length≤4096) {root:Int} (hr:InN N.length root) (hall:∀i,i<N.length→Reach N root.toNat i):∃s,compV N root=some s∧EndT N s:=by
 obtain⟨s,e,d,hin⟩:=compV_dag h.idx h.ranks hr (by show N.length - root.toNat≤N.length;omega) hall
 refine⟨s,e,endT_dag d hin ?_ (by omega)⟩
 refine TOK.visit h.idx _ root _ s hr ?_ (TOK.start _) e
 show(List.replicate N.length (0:Int)).getD _ _=0
 rw [List.getD_eq_getElem?_getD,List.getElem?_replicate];split <;> rfl
theorem reach_of {N:List GNode} (hI:Idx N) {root:Int} (hr:0≤root∧root<(N.length:Int)) (h:(List.range N.length).all (okN N root)=true):∀i,i<N.length→Reach N root.toNat i:=fun i hi=>by
 rw [List.all_eq_true] at h
 have:=h i (List.mem_range.2 hi)
 unfold okN at this
 rw [Bool.and_eq_true] at this
 exact(reached_iff hI hr i).1 this.1
theorem JG.chk {N:List GNode} (h:JG N) (h0:0<N.length) (h1:N.length≤4096) (hb:NB 65536 N):ChkOK N 0 where
 n0:=h0
 n1:=h1
 nl:=fun i hi=>hb _ (ndAt_mem hi)
 tw:={
  leaf:=fun i hi x hx=>by
   obtain⟨nk,k1,k2⟩:=(h.at_ hi).key x hx
   rw [ndAt_of k1]
   exact(h _ _ k1).leaf (by omega) (by omega)
  by_:=fun i hi=>(h.at_ hi).tx
  wf:=fun i hi=>by
   have:=(h.at_ hi).kind
   unfold kindJ at this
   rcases this with e | e | e | e | e | e | e <;> rw [e] <;> decide
  len:=fun i hi=>by
   have:=(h.at_ hi).len
   rw [size_mks];unfold maxLen;omega }
 sc:=fun i hi=>by
  have hk:=(h.at_ hi).kind
  have ht:=(h.at_ hi).tx
  have hl:=(h.at_ hi).len
  generalize ndAt N i=nd at *
  unfold kindJ at hk
  refine⟨by omega,fun h9 h10=>?_⟩
  unfold scV
  rcases hk with e | e | e | e | e | e | e
  ·rw [e];exact scal_null _
  ·rw [e];exact scal_bool _ ht
  ·rw [e];exact scal_int _ ht
  ·rw [e];exact scal_dec _ ht (by omega)
  ·rw [e];exact scal_text _ (by omega)
  ·exact absurd e h9
  ·exact absurd e h10
 dp:=fun hi ha=>by
  obtain⟨hr,hI⟩:=idx_of hi
  exact h.dp h1 hr (reach_of hI hr ha)
/-! ### Nested values -/
def lenN:List Bool→Nat | []=>1 | false :: sh=>lenN sh+1 | true :: sh=>lenN sh+2
def hgt:List Bool→List Int | []=>[1] | false :: sh=>((sh.length:Int)+2) :: hgt sh | true :: sh=>((sh.length:Int)+2) :: 1 :: hgt sh
end Go.Proofs.YtijoollonkibfaaGreatDoor
