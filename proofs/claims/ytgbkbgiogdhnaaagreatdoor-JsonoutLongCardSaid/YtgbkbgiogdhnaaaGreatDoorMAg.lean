/- The parser of json in memory: what its block, its tokens, its nodes and its spans read as; what a step leaves. -/
import Derived.Test.YtgbkbgiogdhnaaaGreatDoorMAf
import Derived.Recover
import Derived.Test.YtgbkbgiogdhnaaaGreatDoorMAd
import Derived.Test.YtgbkbgiogdhnaaaGreatDoorMAb
import Derived.Lib.IndexAny
set_option linter.unusedVariables false
set_option linter.unusedSimpArgs false
set_option linter.defProp false
set_option linter.constructorNameAsVariable false
namespace Go.Proofs.YtgbkbgiogdhnaaaGreatDoor
open Go.RowKit
structure JSpan where
 node:Int
 parent:Int
 entry:Int
 from_:Int
 to_:Int
 kf:Int
 kt:Int
 alias_:Bool
 whole:Bool
structure PSt where
 left:List JTok
 nodes:List GNode
 spans:List JSpan
def spanC (s:JSpan):List Value:=[.int .i64 s.node,.int .i64 s.parent,.int .i64 s.entry,.int .i64 s.from_,.int .i64 s.to_,.int .i64 s.kf,.int .i64 s.kt,.bool s.alias_,.bool s.whole]
def spansC (l:List JSpan):List Value:=l.flatMap spanC
def IntsRd (w:World) (F:Nat→Prop) (A:Option Addr) (n:Nat) (xs:List Int):Prop:=
 n=xs.length∧Rd w A (I64 xs)∧∀ad,A=some ad→F ad.block∧∃C fz,w.heap[ad.block]? = some (.cells C 3 fz)
def NodeRd (w:World) (F:Nat→Prop) (cs:List Value) (nd:GNode):Prop:=
 ∃K nk ck I ni ci,cs = [.int .i64 nd.kind,.string (mks nd.text),.bool nd.ord,.slice K nk ck,.slice I ni ci]∧IntsRd w F K nk nd.keys∧IntsRd w F I ni nd.items
def NodesRd (w:World) (F:Nat→Prop) (ncs:List Value) (nodes:List GNode):Prop:=
 ncs.length=nodes.length*5∧∀i nd,nodes[i]? = some nd→NodeRd w F ((ncs.drop (i*5)).take 5) nd
structure PK where
 en:Nat
 f:Value
 s:Value
 r:Value
 n:Value
structure PMx (w:World) (B pb:Nat) (F:Nat→Prop) (k:PK) (A:Option Addr) (n c:Nat) (vn vs:Value) (ncs:List Value) (st:PSt):Prop where
 par:Arr w pb 84 [.slice A n c,.int .i64 (k.en:Int),k.f,k.s,vn,k.r,vs,k.n]
 pF:F pb
 lo:∀g,F g→B≤g
 hi:∀g,F g→g<w.heap.size
 len:n=st.left.length
 nc:n≤c
 cm:c≤maxLen
 tok:Rd w A (toksC st.left)
 tokA:∀ad,A=some ad→(∃g o,ad=⟨g,o,none⟩)∧¬F ad.block∧∃C fz,w.heap[ad.block]? = some (.cells C 118 fz)
 nod:w.ownsRow B 43 5 vn st.nodes.length ncs
 nodF:∀g,vn.ownBlock=some g→F g
 nrd:NodesRd w F ncs st.nodes
 spn:w.ownsRow B 87 9 vs st.spans.length (spansC st.spans)
 spnF:∀g,vs.ownBlock=some g→F g
def PM (w:World) (B pb:Nat) (F:Nat→Prop) (k:PK) (st:PSt):Prop:=∃A n c vn vs ncs,PMx w B pb F k A n c vn vs ncs st
structure PStep (w w':World) (F F':Nat→Prop):Prop where
 os:w'.os=w.os
 tape:w'.tape=w.tape
 output:w'.output=w.output
 size:w.heap.size≤w'.heap.size
 keep:∀k,k<w.heap.size→¬F k→w'.heap[k]? = w.heap[k]?
 new:∀k,F' k→F k∨w.heap.size≤k
theorem PStep.trans {a b c:World} {F F1 F2:Nat→Prop} (h:PStep a b F F1) (k:PStep b c F1 F2):PStep a c F F2 where
 os:=k.os.trans h.os
 tape:=k.tape.trans h.tape
 output:=k.output.trans h.output
 size:=Nat.le_trans h.size k.size
 keep:=fun i hi hn=>(k.keep i (Nat.lt_of_lt_of_le hi h.size) (fun hf=>by
  rcases h.new i hf with h1 | h1
  ·exact hn h1
  ·omega)).trans (h.keep i hi hn)
 new:=fun i hi=>by
  rcases k.new i hi with h1 | h1
  ·exact h.new i h1
  ·exact .inr (Nat.le_trans h.size h1)
theorem PStep.of_below {w w':World} {F:Nat→Prop} (h:Below w.heap.size w w'):PStep w w' F F:=
 ⟨h.os,h.tape,h.output,h.size,fun k hk _=>h.block k hk,fun _ hk=>.inl hk⟩
theorem PStep.below {w w':World} {F F':Nat→Prop} {B:Nat} (h:PStep w w' F F') (hF:∀g,F g→B≤g) (hB:B≤w.heap.size):Below B w w':=
 ⟨h.os,h.tape,h.output,h.size,fun k hk=>h.keep k (by omega) (fun hf=>by have:=hF k hf;omega)⟩
theorem PStep.arr {w w':World} {F F':Nat→Prop} {g:Nat} {t:TypeId} {xs:List Value} (h:PStep w w' F F') (ha:Arr w g t xs) (hg:¬F g):Arr w' g t xs:=(h.keep g ha.lt hg).trans ha
theorem PStep.out {w w':World} {F F':Nat→Prop} {g:Nat} (h:PStep w w' F F') (hl:g<w.heap.size) (hg:¬F g):¬F' g:=fun hf=>by
 rcases h.new g hf with h1 | h1
 ·exact hg h1
 ·omega
def IntsKept (w w':World) (F:Nat→Prop):Prop:=∀k C fz,F k→w.heap[k]? = some (.cells C 3 fz)→w'.heap[k]? = some (.cells C 3 fz)
theorem IntsRd.keep {w w':World} {F F':Nat→Prop} {A:Option Addr} {n:Nat} {xs:List Int} (h:IntsRd w F A n xs) (hk:IntsKept w w' F) (hF:∀g,F g→F' g):IntsRd w' F' A n xs:=by
 refine⟨h.1,?_,fun ad e=>?_⟩
 ·intro j u hj
  obtain⟨ad,e,hc⟩:=h.2.1 j u hj
  obtain⟨hf,C,fz,hb⟩:=h.2.2 ad e
  refine⟨ad,e,?_⟩
  rw [←hc]
  exact World.cell?_of_block (by rw [blk_add,hk _ C fz hf hb,hb])
 ·obtain⟨hf,C,fz,hb⟩:=h.2.2 ad e
  exact⟨hF _ hf,C,fz,hk _ C fz hf hb⟩
theorem NodeRd.keep {w w':World} {F F':Nat→Prop} {cs:List Value} {nd:GNode} (h:NodeRd w F cs nd) (hk:IntsKept w w' F) (hF:∀g,F g→F' g):NodeRd w' F' cs nd:=by
 obtain⟨K,nk,ck,I,ni,ci,rfl,h1,h2⟩:=h
 exact⟨K,nk,ck,I,ni,ci,rfl,h1.keep hk hF,h2.keep hk hF⟩
theorem NodesRd.keep {w w':World} {F F':Nat→Prop} {ncs:List Value} {nodes:List GNode} (h:NodesRd w F ncs nodes) (hk:IntsKept w w' F) (hF:∀g,F g→F' g):NodesRd w' F' ncs nodes:=
 ⟨h.1,fun i nd hi=>(h.2 i nd hi).keep hk hF⟩
theorem NodesRd.snoc {w:World} {F:Nat→Prop} {ncs cs:List Value} {nodes:List GNode} {nd:GNode} (h:NodesRd w F ncs nodes) (hn:NodeRd w F cs nd):NodesRd w F (ncs ++ cs) (nodes ++ [nd]):=by
 have hl:cs.length=5:=by obtain⟨K,nk,ck,I,ni,ci,rfl,_⟩:=hn;rfl
 refine⟨by rw [List.length_append,List.length_append,h.1,hl];simp;omega,fun i x hi=>?_⟩
 by_cases hlt:i<nodes.length
 ·rw [List.getElem?_append_left hlt] at hi
  have h1:=h.2 i x hi
  rw [List.drop_append_of_le_length (by rw [h.1];omega),List.take_append_of_le_length (by rw [List.length_drop,h.1];omega)]
  exact h1
 ·have hi2:=(List.getElem?_eq_some_iff.1 hi).1
  have:i=nodes.length:=by simp at hi2;omega
  subst this
  have e:x=nd:=by simpa using hi.symm
  subst e
  rw [←h.1,List.drop_left,List.take_of_length_le (by omega)]
  exact hn
theorem IntsKept.of_below {w w':World} {F:Nat→Prop} (h:Below w.heap.size w w'):IntsKept w w' F:=fun k C fz _ hb=>by
 rw [h.block k (Array.getElem?_eq_some_iff.1 hb).1,hb]
theorem PMx.kept {w w':World} {B pb:Nat} {F:Nat→Prop} {k:PK} {A:Option Addr} {n c:Nat} {vn vs:Value} {ncs:List Value} {st:PSt} (h:PMx w B pb F k A n c vn vs ncs st) (hs:w.heap.size≤w'.heap.size)
  (hk:∀g,g<w.heap.size→F g→w'.heap[g]? = w.heap[g]?) (hA:∀ad,A=some ad→w'.heap[ad.block]? = w.heap[ad.block]?):PMx w' B pb F k A n c vn vs ncs st where
 par:=(hk pb (h.hi pb h.pF) h.pF).trans h.par
 pF:=h.pF
 lo:=h.lo
 hi:=fun g hg=>Nat.lt_of_lt_of_le (h.hi g hg) hs
 len:=h.len
 nc:=h.nc
 cm:=h.cm
 tok:=fun j u hj=>by
  obtain⟨ad,e,hc⟩:=h.tok j u hj
  exact⟨ad,e,by rw [←hc];exact World.cell?_of_block (by rw [blk_add];exact hA ad e)⟩
 tokA:=fun ad e=>by
  obtain⟨h0,h1,C,fz,h2⟩:=h.tokA ad e
  exact⟨h0,h1,C,fz,by rw [hA ad e,h2]⟩
 nod:=own_same h.nod (fun g hg=>hk g (h.nod.lt g hg).2 (h.nodF g hg))
 nodF:=h.nodF
 nrd:=h.nrd.keep (fun g C fz hF hb=>by rw [hk g (h.hi g hF) hF,hb]) (fun _ h=>h)
 spn:=own_same h.spn (fun g hg=>hk g (h.spn.lt g hg).2 (h.spnF g hg))
 spnF:=h.spnF
theorem PMx.tokLt {w:World} {B pb:Nat} {F:Nat→Prop} {k:PK} {A:Option Addr} {n c:Nat} {vn vs:Value} {ncs:List Value} {st:PSt} (h:PMx w B pb F k A n c vn vs ncs st):∀ad,A=some ad→ad.block<w.heap.size:=fun ad e=>by
 obtain⟨_,_,C,fz,h2⟩:=h.tokA ad e
 exact(Array.getElem?_eq_some_iff.1 h2).1
theorem PMx.below {w w':World} {B pb:Nat} {F:Nat→Prop} {k:PK} {A:Option Addr} {n c:Nat} {vn vs:Value} {ncs:List Value} {st:PSt} (h:PMx w B pb F k A n c vn vs ncs st) (hb:Below w.heap.size w w'):PMx w' B pb F k A n c vn vs ncs st:=
 h.kept hb.size (fun g hg _=>hb.block g hg) (fun ad e=>hb.block _ (h.tokLt ad e))
theorem PMx.grown {w w':World} {B pb:Nat} {F:Nat→Prop} {k:PK} {A:Option Addr} {n c:Nat} {vn vs:Value} {ncs:List Value} {st:PSt} (h:PMx w B pb F k A n c vn vs ncs st) {g:Nat} (hg:w.grownBy w' (some g)) (hF:¬F g) (hA:∀ad,A=some ad→ad.block≠g):PMx w' B pb F k A n c vn vs ncs st:=
 h.kept hg.size (fun i hi hf=>hg.block i hi (by intro e;have:=Option.some.inj e;subst this;exact hF hf)) (fun ad e=>hg.block _ (h.tokLt ad e) (by intro e';exact hA ad e (Option.some.inj e')))
theorem setCell_heap_ne (w:World) (p:Addr) (u:Value) {g:Nat} (h:g≠p.block):(w.setCell p u).heap[g]? = w.heap[g]?:=Below.heap_setCell w p u g h
theorem PMx.put {w w':World} {B pb:Nat} {F:Nat→Prop} {k:PK} {A A':Option Addr} {n n' c c':Nat} {vn vs vn' vs':Value} {ncs ncs':List Value} {st st':PSt} (h:PMx w B pb F k A n c vn vs ncs st)
  (hs:w.heap.size=w'.heap.size) (hk:∀g,g≠pb→w'.heap[g]? = w.heap[g]?)
  (hp:Arr w' pb 84 [.slice A' n' c',.int .i64 (k.en:Int),k.f,k.s,vn',k.r,vs',k.n])
  (h1:n'=st'.left.length) (h2:n'≤c') (h3:c'≤maxLen) (h4:Rd w A' (toksC st'.left)) (h5:∀ad,A'=some ad→(∃g o,ad=⟨g,o,none⟩)∧¬F ad.block∧∃C fz,w.heap[ad.block]? = some (.cells C 118 fz))
  (h6:w.ownsRow B 43 5 vn' st'.nodes.length ncs') (h7:∀g,vn'.ownBlock=some g→F g) (h8:NodesRd w F ncs' st'.nodes) (h9:w.ownsRow B 87 9 vs' st'.spans.length (spansC st'.spans)) (h10:∀g,vs'.ownBlock=some g→F g) :
  PMx w' B pb F k A' n' c' vn' vs' ncs' st':=by
 have hpn:∀{C:Array Value} {t:TypeId} {fz:Nat×Nat},w.heap[pb]? = some (.cells C t fz)→t=84:=fun hh=>by
  have:=h.par
  unfold Arr at this
  rw [this] at hh
  injection hh with e1
  injection e1 with _ e2
  exact e2.symm
 have hne:∀{g:Nat} {C:Array Value} {t:TypeId} {fz:Nat×Nat},w.heap[g]? = some (.cells C t fz)→t≠84→g≠pb:=fun hh ht e=>by subst e;exact ht (hpn hh)
 exact {
  par:=hp
  pF:=h.pF
  lo:=h.lo
  hi:=fun g hg=>by rw [←hs];exact h.hi g hg
  len:=h1
  nc:=h2
  cm:=h3
  tok:=fun j u hj=>by
   obtain⟨ad,e,hc⟩:=h4 j u hj
   obtain⟨_,_,C,fz,hb⟩:=h5 ad e
   exact⟨ad,e,by rw [←hc];exact World.cell?_of_block (by rw [blk_add];exact hk _ (hne hb (by decide)))⟩
  tokA:=fun ad e=>by
   obtain⟨h0,h1,C,fz,hb⟩:=h5 ad e
   exact⟨h0,h1,C,fz,by rw [hk _ (hne hb (by decide)),hb]⟩
  nod:=own_same h6 (fun g hg=>hk g (by
   rcases h6.2 with⟨rfl,_⟩ | ⟨g',cap,cur,rfl,_,hgg,_⟩
   ·simp [Value.ownBlock] at hg
   ·simp only [Value.ownBlock,Option.some.injEq] at hg;subst hg;exact hne hgg (by decide)))
  nodF:=h7
  nrd:=h8.keep (fun g C fz _ hb=>by rw [hk g (hne hb (by decide)),hb]) (fun _ h=>h)
  spn:=own_same h9 (fun g hg=>hk g (by
   rcases h9.2 with⟨rfl,_⟩ | ⟨g',cap,cur,rfl,_,hgg,_⟩
   ·simp [Value.ownBlock] at hg
   ·simp only [Value.ownBlock,Option.some.injEq] at hg;subst hg;exact hne hgg (by decide)))
  spnF:=h10 }
end Go.Proofs.YtgbkbgiogdhnaaaGreatDoor
namespace Go.Proofs.YtgbkbgiogdhnaaaGreatDoor
open Go.RowKit
def pB (neg:Bool) (bs:Nat) (b:List Nat):List Nat×Int:=
 if b.all (fun c=>decide (digV c<bs))=true then (if (lead 48 b).length≤1600 then (tS (neg,hor bs digV (lead 48 b)),tE (neg,hor bs digV (lead 48 b))) else ([],6)) else ([],3)
def parB (s:List Nat):Bool×List Nat:=match s with | 43 :: b=>(false,b) | 45 :: b=>(true,b) | b=>(false,b)
def parR (s:List Nat) (base:Int):List Nat×Int:=if knownB base=true then (if (parB s).2 = [] then ([],3) else pB (parB s).1 base.toNat (parB s).2) else ([],1)
end Go.Proofs.YtgbkbgiogdhnaaaGreatDoor
namespace Go.Proofs.YtgbkbgiogdhnaaaGreatDoor
open Go.RowKit
def isV (l:List JTok) (c:List Nat):Bool:=match l with | []=>false | t :: _=>decide (t.kind=1∧t.text=c)
def offV (en:Nat) (l:List JTok):Nat:=match l with | []=>en | t :: _=>t.from_
def hasDot (t:List Nat):Bool:=Lib.containsAny (u8s t) [46,101,69]
def scalarV (t:JTok):Option GNode:=
 if t.kind=2 then some ⟨5,t.text,false,[],[]⟩
 else if t.kind=4 then (if t.text=litNull then some ⟨0,[],false,[],[]⟩ else some ⟨1,t.text,false,[],[]⟩)
 else if hasDot t.text then (if (parseDV t.text).2=0 then some ⟨3,(parseDV t.text).1,false,[],[]⟩ else none)
 else (if (parR t.text 10).2=0 then some ⟨2,(parR t.text 10).1,false,[],[]⟩ else none)
abbrev PErr:=Nat×Nat
structure PLoop where
 st:PSt
 ks:List (List Nat)
 keys:List Int
 items:List Int
def keyV (en:Nat) (d:Nat) (x:PLoop) (s:JSpan):Except PErr (PLoop×JSpan):=
 match x.st.left with
 | []=>.error (en,4)
 | t :: r=>
  if t.kind≠2 then .error (t.from_,4)
  else if 32<d+1 then .error (t.from_,5)
  else if 4096≤x.st.nodes.length then .error (t.from_,7)
  else if t.text∈x.ks then .error (t.from_,8)
  else if isV r [58] then .ok (⟨⟨r.drop 1,x.st.nodes ++ [⟨5,t.text,false,[],[]⟩],x.st.spans⟩,x.ks ++ [t.text],x.keys ++ [(x.st.nodes.length:Int)],x.items⟩,{ s with kf:=t.from_,kt:=t.to_ })
  else .error (offV en r,4)
def commaV (en:Nat) (x:PLoop):Except PErr PLoop:=
 if x.items.length=0 then .ok x
 else if isV x.st.left [44] then .ok { x with st:={ x.st with left:=x.st.left.drop 1 } } else .error (offV en x.st.left,4)
mutual
def valueV (en:Nat):Nat→PSt→JSpan→Nat→Except PErr (Int×PSt)
 | 0,_,_,_=>.error (0,0)
 | f+1,st,s,d=>
  match st.left with
  | []=>.error (en,4)
  | t :: r=>
   if t.kind=1∧¬t.text = [91]∧¬t.text = [123] then .error (t.from_,4)
   else if 32<d then .error (t.from_,5)
   else if 4096≤st.nodes.length then .error (t.from_,7)
   else if t.kind=1 then
    match itemsV en f (decide (t.text = [123])) st.spans.length d ⟨⟨r,st.nodes ++ [⟨if t.text = [123] then 10 else 9,[],false,[],[]⟩],st.spans ++ [{ s with node:=st.nodes.length,from_:=t.from_,whole:=true }]⟩,[],[],[]⟩ with
    | .error e=>.error e
    | .ok x=>.ok (st.nodes.length,⟨x.st.left.drop 1,x.st.nodes.set st.nodes.length ⟨if t.text = [123] then 10 else 9,[],false,x.keys,x.items⟩,x.st.spans.modify st.spans.length (fun p=>{ p with to_:=(x.st.left.head?.map (·.to_)).getD 0 })⟩)
   else match scalarV t with
    | none=>.error (t.from_,12)
    | some nd=>.ok (st.nodes.length,⟨r,st.nodes ++ [nd],st.spans ++ [{ s with node:=st.nodes.length,from_:=t.from_,to_:=t.to_,whole:=true }]⟩)
def itemsV (en:Nat):Nat→Bool→Nat→Nat→PLoop→Except PErr PLoop
 | 0,_,_,_,_=>.error (0,0)
 | f+1,obj,k,d,x=>
  if isV x.st.left (if obj then [125] else [93]) then .ok x
  else match commaV en x with
  | .error e=>.error e
  | .ok y=>
   match (if obj then keyV en d y ⟨0,k,x.items.length,0,0,0,0,false,false⟩ else .ok (y,⟨0,k,x.items.length,0,0,0,0,false,false⟩)) with
   | .error e=>.error e
   | .ok (z,s)=>
    match valueV en f z.st s (d+1) with
    | .error e=>.error e
    | .ok (v,st)=>itemsV en f obj k d ⟨st,z.ks,z.keys,z.items ++ [v]⟩
end
def TokOK (t:JTok):Prop:=By t.text∧t.text.length≤4294967200∧(t.kind≠1→t.kind≠2→t.kind≠4→∀c∈t.text,c<128)∧t.from_≤65536∧t.to_≤65536
end Go.Proofs.YtgbkbgiogdhnaaaGreatDoor
namespace Go.Proofs.YtgbkbgiogdhnaaaGreatDoor
open Go.RowKit
theorem u8s_getD (l:List Nat) (i:Nat):((u8s l).getD i 0).toNat=l.getD i 0 % 256:=by
 unfold u8s
 rw [List.getD_eq_getElem?_getD,List.getD_eq_getElem?_getD,List.getElem?_map]
 cases l[i]? with
 | none=>rfl
 | some c=>simp
theorem decL_N (l:List Nat):decL l=Lib.decodeN l.length (l.getD 0 0 % 256) (l.getD 1 0 % 256) (l.getD 2 0 % 256) (l.getD 3 0 % 256):=by
 unfold decL
 rw [Lib.decodeL_N,u8s_getD,u8s_getD,u8s_getD,u8s_getD]
 congr 1
 unfold u8s
 exact List.length_map ..
theorem decN1 (n n' b0 b1 b2 b3 c1 c2 c3:Nat) (h:b1 / 64≠2) (h':c1 / 64≠2):Lib.decodeN n' b0 c1 c2 c3=Lib.decodeN n b0 b1 b2 b3∧(Lib.decodeN n b0 b1 b2 b3).2≤1:=by
 by_cases h0:b0<128
 ·rw [Lib.decodeN_ascii _ _ _ _ _ h0,Lib.decodeN_ascii _ _ _ _ _ h0];exact⟨rfl,Nat.le_refl _⟩
 ·rw [Lib.decodeN_alone _ _ _ _ _ (by omega) (.inr h),Lib.decodeN_alone _ _ _ _ _ (by omega) (.inr h')];exact⟨rfl,Nat.le_refl _⟩
set_option maxRecDepth 100000 in
set_option maxHeartbeats 4000000 in
theorem decN2 (n n' b0 b1 b2 b3 c2 c3:Nat) (hn:2≤n) (hn':2≤n') (h:b2 / 64≠2) (h':c2 / 64≠2):Lib.decodeN n' b0 b1 c2 c3=Lib.decodeN n b0 b1 b2 b3∧(Lib.decodeN n b0 b1 b2 b3).2≤2:=by
 unfold Lib.decodeN
 have e1:(1<n)=True:=eq_true (by omega)
 have e2:(1<n')=True:=eq_true (by omega)
 have e3:(b2 / 64=2)=False:=eq_false h
 have e4:(c2 / 64=2)=False:=eq_false h'
 simp only [e1,e2,e3,e4,and_false,true_and,false_and,if_false]
 (repeat' split) <;> first | simp | exact⟨rfl,by simp⟩
set_option maxRecDepth 100000 in
set_option maxHeartbeats 4000000 in
theorem decN3 (n n' b0 b1 b2 b3 c3:Nat) (hn:3≤n) (hn':3≤n') (h:b3 / 64≠2) (h':c3 / 64≠2):Lib.decodeN n' b0 b1 b2 c3=Lib.decodeN n b0 b1 b2 b3∧(Lib.decodeN n b0 b1 b2 b3).2≤3:=by
 unfold Lib.decodeN
 have e1:(1<n)=True:=eq_true (by omega)
 have e2:(1<n')=True:=eq_true (by omega)
 have e5:(2<n)=True:=eq_true (by omega)
 have e6:(2<n')=True:=eq_true (by omega)
 have e3:(b3 / 64=2)=False:=eq_false h
 have e4:(c3 / 64=2)=False:=eq_false h'
 simp only [e1,e2,e3,e4,e5,e6,and_false,true_and,if_false]
 (repeat' split) <;> first | simp | exact⟨rfl,by simp⟩
set_option maxRecDepth 100000 in
set_option maxHeartbeats 4000000 in
theorem decN4 (n n' b0 b1 b2 b3:Nat) (hn:4≤n) (hn':4≤n'):Lib.decodeN n' b0 b1 b2 b3=Lib.decodeN n b0 b1 b2 b3∧(Lib.decodeN n b0 b1 b2 b3).2≤4:=by
 unfold Lib.decodeN
 have e1:(1<n)=True:=eq_true (by omega)
 have e2:(1<n')=True:=eq_true (by omega)
 have e3:(2<n)=True:=eq_true (by omega)
 have e4:(2<n')=True:=eq_true (by omega)
 have e5:(3<n)=True:=eq_true (by omega)
 have e6:(3<n')=True:=eq_true (by omega)
 simp only [e1,e2,e3,e4,e5,e6,true_and]
 (repeat' split) <;> first | simp | exact⟨rfl,by simp⟩
theorem decL_local {r x y:List Nat} (hr:r≠[]) (hx:x.getD 0 0<128) (hy:y.getD 0 0<128):decL (r ++ y)=decL (r ++ x)∧(decL (r ++ x)).2≤r.length:=by
 rw [decL_N,decL_N]
 match r,hr with
 | [a],_=>
  simp only [List.cons_append,List.nil_append,List.getD_cons_succ,List.getD_cons_zero,List.length_cons]
  exact decN1 _ _ _ _ _ _ _ _ _ (by omega) (by omega)
 | [a,b],_=>
  simp only [List.cons_append,List.nil_append,List.getD_cons_succ,List.getD_cons_zero,List.length_cons]
  exact decN2 _ _ _ _ _ _ _ _ (by omega) (by omega) (by omega) (by omega)
 | [a,b,c],_=>
  simp only [List.cons_append,List.nil_append,List.getD_cons_succ,List.getD_cons_zero,List.length_cons]
  exact decN3 _ _ _ _ _ _ _ (by omega) (by omega) (by omega) (by omega)
 | a :: b :: c :: d :: t,_=>
  simp only [List.cons_append,List.getD_cons_succ,List.getD_cons_zero,List.length_cons]
  have:=decN4 ((t ++ x).length+1+1+1+1) ((t ++ y).length+1+1+1+1) (a % 256) (b % 256) (c % 256) (d % 256) (by omega) (by omega)
  exact⟨this.1,by omega⟩
theorem idxB_at {c:Nat} {l:List Nat} {n:Nat} (h:idxB c l=some n):n<l.length∧l.getD n 0=c:=by
 induction l generalizing n with
 | nil=>cases h
 | cons a l ih=>
  unfold idxB at h
  split at h
  ·rename_i e;cases h;exact⟨by simp,e⟩
  ·cases h1:idxB c l with
   | none=>rw [h1] at h;cases h
   | some m=>rw [h1] at h;cases h;have:=ih h1;exact⟨by simp;omega,this.2⟩
end Go.Proofs.YtgbkbgiogdhnaaaGreatDoor
