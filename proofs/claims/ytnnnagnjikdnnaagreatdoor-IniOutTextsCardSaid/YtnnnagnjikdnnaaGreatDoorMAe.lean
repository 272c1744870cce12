/- graph.Check in plain words: references in range, marks of what is reached, counts. No program is mentioned here. -/
import Derived.Test.YtnnnagnjikdnnaaGreatDoorMAd
import Derived.Test.YtnnnagnjikdnnaaGreatDoorMAc
import Derived.Test.YtnnnagnjikdnnaaGreatDoorMAa
import Derived.Lib.IndexAny
import Derived.Maps.OwnOps
import Derived.Maps.Views
import Derived.StringKeys
set_option linter.unusedVariables false
set_option linter.unusedSimpArgs false
set_option linter.defProp false
set_option linter.constructorNameAsVariable false
namespace Go.Proofs.YtnnnagnjikdnnaaGreatDoor
def inB (n:Nat) (x:Int):Bool:=decide (0≤x) && decide (x<(n:Int))
theorem inB_iff {n:Nat} {x:Int}:inB n x=true↔0≤x∧x<n:=by unfold inB;simp
def ndAt (nodes:List GNode) (i:Nat):GNode:=nodes.getD i ⟨0,[],false,[],[]⟩
def refs (nd:GNode):List Int:=nd.keys ++ nd.items
def inAll (n:Nat) (nd:GNode):Bool:=nd.keys.all (inB n) && nd.items.all (inB n)
def indicesV (nodes:List GNode) (root:Int):Bool:=inB nodes.length root && nodes.all (inAll nodes.length)
def Idx (nodes:List GNode):Prop:=∀i,i<nodes.length→∀x∈refs (ndAt nodes i),0≤x∧x<(nodes.length:Int)
theorem ndAt_get {nodes:List GNode} {i:Nat} (h:i<nodes.length):nodes[i]? = some (ndAt nodes i):=by
 unfold ndAt;rw [List.getD_eq_getElem?_getD,List.getElem?_eq_getElem h];rfl
theorem ndAt_mem {nodes:List GNode} {i:Nat} (h:i<nodes.length):ndAt nodes i∈nodes:=List.mem_of_getElem? (ndAt_get h)
theorem idx_of {nodes:List GNode} {root:Int} (h:indicesV nodes root=true):(0≤root∧root<(nodes.length:Int))∧Idx nodes:=by
 unfold indicesV at h
 rw [Bool.and_eq_true,List.all_eq_true] at h
 refine⟨inB_iff.1 h.1,fun i hi x hx=>?_⟩
 have h1:=h.2 _ (ndAt_mem hi)
 unfold inAll at h1
 rw [Bool.and_eq_true,List.all_eq_true,List.all_eq_true] at h1
 unfold refs at hx
 rcases List.mem_append.1 hx with hx | hx
 ·exact inB_iff.1 (h1.1 x hx)
 ·exact inB_iff.1 (h1.2 x hx)
/-! ### Marks -/
def runG {σ:Type} (g:Int→σ→Option σ):List Int→σ→Option σ
 | [],m=>some m
 | x :: xs,m=>match g x m with | none=>none | some m'=>runG g xs m'
def visitV (nodes:List GNode):Nat→Int→List Bool→Option (List Bool)
 | 0,_,_=>none
 | f+1,at_,m=>
  if inB nodes.length at_ then
   if m.getD at_.toNat false then some m
   else match runG (visitV nodes f) (ndAt nodes at_.toNat).keys (m.set at_.toNat true) with
    | none=>none
    | some m1=>runG (visitV nodes f) (ndAt nodes at_.toNat).items m1
  else none
theorem runG_append {σ:Type} (g:Int→σ→Option σ) (a b:List Int) (m:σ):runG g (a ++ b) m=(runG g a m).bind (runG g b):=by
 induction a generalizing m with
 | nil=>rfl
 | cons x a ih=>
  simp only [List.cons_append,runG]
  cases g x m with
  | none=>rfl
  | some m'=>exact ih m'
theorem visitV_refs (nodes:List GNode) (f:Nat) (at_:Int) (m:List Bool) (h:inB nodes.length at_=true) :
  visitV nodes (f+1) at_ m=if m.getD at_.toNat false then some m else runG (visitV nodes f) (refs (ndAt nodes at_.toNat)) (m.set at_.toNat true):=by
 rw [visitV,if_pos h]
 unfold refs
 rw [runG_append]
 cases runG (visitV nodes f) (ndAt nodes at_.toNat).keys (m.set at_.toNat true) <;> rfl
inductive Reach (nodes:List GNode) (a:Nat):Nat→Prop
 | refl:Reach nodes a a
 | step {b:Nat} {x:Int}:Reach nodes a b→b<nodes.length→x∈refs (ndAt nodes b)→Reach nodes a x.toNat
theorem Reach.trans {nodes:List GNode} {a b c:Nat} (h:Reach nodes a b) (k:Reach nodes b c):Reach nodes a c:=by
 induction k with
 | refl=>exact h
 | step _ hl hx ih=>exact ih.step hl hx
def lack (m:List Bool):Nat:=m.count false
theorem lack_set {m:List Bool} {i:Nat} (h:m.getD i false=false) (hi:i<m.length):lack (m.set i true)+1=lack m:=by
 unfold lack
 induction m generalizing i with
 | nil=>simp at hi
 | cons b m ih=>
  cases i with
  | zero=>
   have:b=false:=by simpa using h
   subst this
   simp
  | succ i=>
   have:=ih (i:=i) (by simpa using h) (by simpa using hi)
   simp only [List.set_cons_succ,List.count_cons]
   omega
theorem getD_set {α:Type} {m:List α} {i j:Nat} {b d:α} (hi:i<m.length):(m.set i b).getD j d=if i=j then b else m.getD j d:=by
 rw [List.getD_eq_getElem?_getD,List.getElem?_set,List.getD_eq_getElem?_getD]
 by_cases h:i=j
 ·subst h;simp [hi]
 ·simp [h]
structure VisR (nodes:List GNode) (from_:Nat→Prop) (m m':List Bool):Prop where
 len:m'.length=m.length
 keep:∀i,m.getD i false=true→m'.getD i false=true
 new:∀i,m'.getD i false=true→m.getD i false=true∨∃a,from_ a∧Reach nodes a i
 shut:∀i,i<nodes.length→m'.getD i false=true→m.getD i false=true∨∀x∈refs (ndAt nodes i),m'.getD x.toNat false=true
 from':∀a,from_ a→m'.getD a false=true
 less:lack m'≤lack m
theorem VisR.nil (nodes:List GNode) (m:List Bool):VisR nodes (fun _=>False) m m:=
 ⟨rfl,fun _ h=>h,fun _ h=>.inl h,fun _ _ h=>.inl h,fun _ h=>h.elim,Nat.le_refl _⟩
theorem VisR.trans {nodes:List GNode} {A B:Nat→Prop} {m m1 m2:List Bool} (h:VisR nodes A m m1) (k:VisR nodes B m1 m2):VisR nodes (fun a=>A a∨B a) m m2 where
 len:=k.len.trans h.len
 keep:=fun i hi=>k.keep i (h.keep i hi)
 new:=fun i hi=>by
  rcases k.new i hi with h1 | ⟨a,ha,hr⟩
  ·rcases h.new i h1 with h2 | ⟨a,ha,hr⟩
   ·exact .inl h2
   ·exact .inr ⟨a,.inl ha,hr⟩
  ·exact .inr ⟨a,.inr ha,hr⟩
 shut:=fun i hl hi=>by
  rcases k.shut i hl hi with h1 | h1
  ·rcases h.shut i hl h1 with h2 | h2
   ·exact .inl h2
   ·exact .inr fun x hx=>k.keep _ (h2 x hx)
  ·exact .inr h1
 from':=fun a ha=>ha.elim (fun h1=>k.keep a (h.from' a h1)) (k.from' a)
 less:=Nat.le_trans k.less h.less
theorem runG_vis {nodes:List GNode} {g:Int→List Bool→Option (List Bool)} {n:Nat} (hg:∀x m,(0≤x∧x<(nodes.length:Int))→m.length=nodes.length→lack m≤n→∃m',g x m=some m'∧VisR nodes (fun a=>a=x.toNat) m m')
  (xs:List Int) (hx:∀x∈xs,0≤x∧x<(nodes.length:Int)) (m:List Bool) (hl:m.length=nodes.length) (hn:lack m≤n):∃m',runG g xs m=some m'∧VisR nodes (fun a=>∃x∈xs,a=x.toNat) m m':=by
 induction xs generalizing m with
 | nil=>
  refine⟨m,rfl,?_⟩
  have:(fun a=>∃x∈([]:List Int),a=x.toNat)=fun _:Nat=>False:=by funext a;simp
  rw [this]
  exact VisR.nil nodes m
 | cons x xs ih=>
  obtain⟨m1,h1,r1⟩:=hg x m (hx x (by simp)) hl hn
  obtain⟨m2,h2,r2⟩:=ih (fun y hy=>hx y (by simp [hy])) m1 (r1.len.trans hl) (Nat.le_trans r1.less hn)
  refine⟨m2,by rw [runG,h1];exact h2,?_⟩
  have e:(fun a=>∃y∈x :: xs,a=y.toNat)=fun a=>a=x.toNat∨∃y∈xs,a=y.toNat:=by funext a;simp
  rw [e]
  exact r1.trans r2
theorem visitV_vis {nodes:List GNode} (hI:Idx nodes) (f:Nat):∀(x:Int) (m:List Bool),(0≤x∧x<(nodes.length:Int))→m.length=nodes.length→lack m<f→∃m',visitV nodes f x m=some m'∧VisR nodes (fun a=>a=x.toNat) m m':=by
 induction f with
 | zero=>intro x m _ _ h;omega
 | succ f ih=>
  intro x m hx hl hn
  rw [visitV_refs nodes f x m (inB_iff.2 hx)]
  by_cases hm:m.getD x.toNat false=true
  ·rw [if_pos hm]
   refine⟨m,rfl,rfl,fun _ h=>h,fun _ h=>.inl h,fun _ _ h=>.inl h,fun a h=>by rw [h];exact hm,Nat.le_refl _⟩
  ·rw [if_neg hm]
   have hm':m.getD x.toNat false=false:=by simpa using hm
   have hlt:x.toNat<m.length:=by omega
   have hk:=lack_set hm' hlt
   obtain⟨m',h1,r⟩:=runG_vis (n:=f - 1) (fun y m0 hy hl0 hn0=>ih y m0 hy hl0 (by omega)) (refs (ndAt nodes x.toNat)) (fun y hy=>hI x.toNat (by omega) y hy) (m.set x.toNat true) (by rw [List.length_set];exact hl) (by omega)
   refine⟨m',h1,?_⟩
   have hat:m'.getD x.toNat false=true:=r.keep _ (by rw [getD_set hlt,if_pos rfl])
   refine⟨by rw [r.len,List.length_set],fun i hi=>r.keep i (by rw [getD_set hlt];split <;> simp_all),fun i hi=>?_,fun i hil hi=>?_,fun a h=>by rw [h];exact hat,by have:=r.less;omega⟩
   ·rcases r.new i hi with h2 | ⟨a,⟨y,hy,ha⟩,hr⟩
    ·rw [getD_set hlt] at h2
     by_cases e:x.toNat=i
     ·exact .inr ⟨x.toNat,rfl,by rw [e];exact .refl⟩
     ·rw [if_neg e] at h2;exact .inl h2
    ·refine .inr ⟨x.toNat,rfl,?_⟩
     subst ha
     exact(Reach.refl.step (by omega) hy).trans hr
   ·rcases r.shut i hil hi with h2 | h2
    ·rw [getD_set hlt] at h2
     by_cases e:x.toNat=i
     ·subst e
      exact .inr fun y hy=>r.from' _ ⟨y,hy,rfl⟩
     ·rw [if_neg e] at h2;exact .inl h2
    ·exact .inr h2
def Closed (nodes:List GNode) (m:List Bool):Prop:=∀i,i<nodes.length→m.getD i false=true→∀x∈refs (ndAt nodes i),m.getD x.toNat false=true
theorem VisR.closed {nodes:List GNode} {A:Nat→Prop} {m m':List Bool} (h:VisR nodes A m m') (hc:Closed nodes m):Closed nodes m':=fun i hl hi=>by
 rcases h.shut i hl hi with h1 | h1
 ·exact fun x hx=>h.keep _ (hc i hl h1 x hx)
 ·exact h1
theorem VisR.reach {nodes:List GNode} {A:Nat→Prop} {m m':List Bool} (h:VisR nodes A m m') (hc:Closed nodes m) (i:Nat):m'.getD i false=true↔m.getD i false=true∨∃a,A a∧Reach nodes a i:=by
 refine⟨h.new i,fun h1=>?_⟩
 rcases h1 with h1 | ⟨a,ha,hr⟩
 ·exact h.keep i h1
 ·have:=h.closed hc
  induction hr with
  | refl=>exact h.from' a ha
  | step _ hl hx ih=>exact this _ hl ih _ hx
def reachedV (nodes:List GNode) (at_:Int) (m:List Bool):List Bool:=(visitV nodes (nodes.length+1) at_ m).getD []
theorem lack_le (m:List Bool):lack m≤m.length:=List.count_le_length
theorem reachedV_ok {nodes:List GNode} (hI:Idx nodes) {at_:Int} {m:List Bool} (hx:0≤at_∧at_<(nodes.length:Int)) (hl:m.length=nodes.length) :
  visitV nodes (nodes.length+1) at_ m=some (reachedV nodes at_ m)∧VisR nodes (fun a=>a=at_.toNat) m (reachedV nodes at_ m):=by
 obtain⟨m',h,r⟩:=visitV_vis hI (nodes.length+1) at_ m hx hl (by have:=lack_le m;omega)
 unfold reachedV
 rw [h]
 exact⟨rfl,r⟩
def noMarks (n:Nat):List Bool:=List.replicate n false
theorem noMarks_get (n i:Nat):(noMarks n).getD i false=false:=by
 unfold noMarks
 rw [List.getD_eq_getElem?_getD,List.getElem?_replicate]
 split <;> rfl
theorem noMarks_closed (nodes:List GNode) (n:Nat):Closed nodes (noMarks n):=fun i _ h=>by rw [noMarks_get] at h;cases h
theorem reached_iff {nodes:List GNode} (hI:Idx nodes) {at_:Int} (hx:0≤at_∧at_<(nodes.length:Int)) (i:Nat) :
  (reachedV nodes at_ (noMarks nodes.length)).getD i false=true↔Reach nodes at_.toNat i:=by
 rw [(reachedV_ok hI hx (by simp [noMarks])).2.reach (noMarks_closed _ _) i,noMarks_get]
 simp
/-! ### Counts -/
def bump (l:List Int) (x:Int):List Int:=l.set x.toNat (l.getD x.toNat 0+1)
def countsV (nodes:List GNode) (root:Int):List Int:=(nodes.flatMap refs).foldl bump (bump (List.replicate nodes.length 0) root)
theorem bump_len (l:List Int) (x:Int):(bump l x).length=l.length:=by simp [bump]
theorem bumps_len (xs:List Int) (l:List Int):(xs.foldl bump l).length=l.length:=by
 induction xs generalizing l with
 | nil=>rfl
 | cons x xs ih=>rw [List.foldl_cons,ih,bump_len]
def cnt (nodes:List GNode) (root:Int) (i:Nat):Nat:=(root :: nodes.flatMap refs).count (i:Int)
/-! ### The nodes of keys -/
def inKeysV (nodes:List GNode):List Bool:=(nodes.flatMap GNode.keys).foldl (fun m k=>reachedV nodes k m) (noMarks nodes.length)
theorem inKeys_fold {nodes:List GNode} (hI:Idx nodes) (ks:List Int) (hk:∀k∈ks,0≤k∧k<(nodes.length:Int)) (m:List Bool) (hl:m.length=nodes.length) (hc:Closed nodes m) :
  (ks.foldl (fun m k=>reachedV nodes k m) m).length=nodes.length∧∀i,(ks.foldl (fun m k=>reachedV nodes k m) m).getD i false=true↔m.getD i false=true∨∃k∈ks,Reach nodes k.toNat i:=by
 induction ks generalizing m with
 | nil=>exact⟨hl,fun i=>by simp⟩
 | cons k ks ih=>
  have r:=(reachedV_ok hI (hk k (by simp)) hl).2
  obtain⟨h1,h2⟩:=ih (fun y hy=>hk y (by simp [hy])) (reachedV nodes k m) (r.len.trans hl) (r.closed hc)
  refine⟨h1,fun i=>?_⟩
  rw [List.foldl_cons,h2 i,r.reach hc i]
  constructor
  ·rintro((h | ⟨a,rfl,h⟩) | ⟨x,hx,h⟩)
   ·exact .inl h
   ·exact .inr ⟨k,by simp,h⟩
   ·exact .inr ⟨x,by simp [hx],h⟩
  ·rintro(h | ⟨x,hx,h⟩)
   ·exact .inl (.inl h)
   ·rcases List.mem_cons.1 hx with rfl | hx
    ·exact .inl (.inr ⟨_,rfl,h⟩)
    ·exact .inr ⟨x,hx,h⟩
end Go.Proofs.YtnnnagnjikdnnaaGreatDoor
namespace Go.Proofs.YtnnnagnjikdnnaaGreatDoor
open Go.RowKit
inductive CR (α:Type) where
 | ok (a:α)
 | err (at_ e:Nat)
 | no
structure CH where
 at_:Nat
 major:Nat
 info:Nat
 arg:Nat
structure CSt where
 i:Nat
 nodes:List GNode
 spans:List JSpan
 shared:List Int
 marks:List Int
def CR.bind {α β:Type} (x:CR α) (f:α→CR β):CR β:=match x with
 | .ok a=>f a
 | .err a e=>.err a e
 | .no=>.no
def hdC (s:List Nat) (i:Nat):CR (CH×Nat):=
 match s[i]? with
 | none=>.err s.length 4
 | some c=>
  if c % 32<24 then .ok (⟨i,c / 32,c % 32,c % 32⟩,i+1)
  else if c % 32<28 then
   if s.length - (i+1)<2 ^ (c % 32 - 24) then .err s.length 4
   else .ok (⟨i,c / 32,c % 32,hor 256 id ((s.drop (i+1)).take (2 ^ (c % 32 - 24)))⟩,i+1+2 ^ (c % 32 - 24))
  else if c % 32<31∨c / 32=0∨c / 32=1∨c / 32=6 then .err i 4
  else .ok (⟨i,c / 32,c % 32,c % 32⟩,i+1)
def CH.tag (h:CH) (n:Nat):Bool:=h.major == 6 && h.arg == n
def CH.ends (h:CH):Bool:=h.major == 7 && h.info == 31
def runC (s:List Nat) (h:CH) (i:Nat):CR (List Nat×Nat):=
 if h.arg > s.length - i then .err s.length 4
 else if h.major=3∧checkV ((s.drop i).take h.arg)≠none then .err h.at_ 11
 else .ok ((s.drop i).take h.arg,i+h.arg)
def partsC (s:List Nat) (major:Nat):Nat→Nat→List Nat→CR (List Nat×Nat)
 | 0,_,_=>.no
 | f+1,i,acc=>(hdC s i).bind fun(x,i1)=>
  if x.ends then .ok (acc,i1)
  else if x.major≠major∨x.info=31 then .err x.at_ 4
  else (runC s x i1).bind fun(t,i2)=>partsC s major f i2 (acc ++ t)
def textC (s:List Nat) (h:CH) (i:Nat):CR (List Nat×Nat):=if h.info≠31 then runC s h i else partsC s h.major (s.length+1) i []
def intC (h:CH):List Nat:=tS (sigN (h.major == 1) (h.arg+h.major))
def simpleC (h:CH):CR GNode:=
 if h.info=20 then .ok ⟨1,[102,97,108,115,101],false,[],[]⟩
 else if h.info=21 then .ok ⟨1,[116,114,117,101],false,[],[]⟩
 else if h.info=22 then .ok ⟨0,[],false,[],[]⟩
 else if h.info=25∨h.info=26∨h.info=27 then .no
 else if h.info=31 then .err h.at_ 4
 else .err h.at_ 10
def scalarC (s:List Nat) (h:CH) (i:Nat):CR (GNode×Nat):=
 if h.major≤1 then .ok (⟨2,intC h,false,[],[]⟩,i)
 else if h.major=2 then (textC s h i).bind fun(t,i1)=>.ok (⟨6,t,false,[],[]⟩,i1)
 else if h.major=3 then (textC s h i).bind fun(t,i1)=>.ok (⟨5,t,false,[],[]⟩,i1)
 else if h.major=7 then (simpleC h).bind fun n=>.ok (n,i)
 else if h.arg=0∨h.arg=2∨h.arg=3∨h.arg=4 then .no
 else .err h.at_ 10
def addC (st:CSt) (nd:GNode) (at_ depth:Nat):CR (Nat×CSt):=
 if depth > 32 then .err at_ 5
 else if st.nodes.length ≥ 4096 then .err at_ 7
 else .ok (st.nodes.length,{ st with nodes:=st.nodes ++ [nd] })
def aliasC (s:List Nat) (h:CH) (st:CSt):CR (Int×CSt):=
 (hdC s st.i).bind fun(x,i1)=>
  if x.major≠0 then .err h.at_ 10
  else match st.shared[x.arg]? with
   | none=>.err h.at_ 24
   | some v=>.ok (v,{ st with i:=i1 })
def keyC (s:List Nat) (h:CH) (n depth:Nat) (st:CSt):CR CSt:=
 if h.major=4∨h.major=5∨h.tag 28∨h.tag 29∨h.tag 1147 then .err h.at_ 16
 else (scalarC s h st.i).bind fun(x,i1)=>
  (addC { st with i:=i1 } x h.at_ depth).bind fun(k,st1)=>
   if (ndAt st1.nodes n).keys.any (fun y=>(ndAt st1.nodes y.toNat).kind == x.kind && (ndAt st1.nodes y.toNat).text == x.text) then .err h.at_ 8
   else .ok { st1 with nodes:=st1.nodes.set n { ndAt st1.nodes n with keys:=(ndAt st1.nodes n).keys ++ [(k:Int)] } }
mutual
def valueC (s:List Nat):Nat→CH→JSpan→Nat→CSt→CR (Int×CSt)
 | 0,_,_,_,_=>.no
 | f+1,h,sp,depth,st=>
  let me:=st.spans.length
  let sp1:={ sp with from_:=(h.at_:Int),whole:=true }
  let st1:={ st with spans:=st.spans ++ [sp1] }
  let lab:=if h.tag 28 then (st.shared.length:Int) else -1
  let st2:=if h.tag 28 then { st1 with shared:=st1.shared ++ [-1],marks:=st1.marks ++ [(h.at_:Int)] } else st1
  let hd:CR (CH×Nat):=if h.tag 28 then hdC s st.i else .ok (h,st.i)
  hd.bind fun(h2,i2)=>
   if h.tag 28 && (h2.tag 28 || h2.tag 29) then .err h2.at_ 10
   else
    let st3:={ st2 with i:=i2 }
    let r:=if h2.tag 29 then (aliasC s h2 st3).bind fun(n,st4)=>.ok (n,{ st4 with spans:=st4.spans.modify me fun x=>{ x with alias_:=true } })
     else defineC s f h2 h.at_ me depth lab st3
    r.bind fun(n,st4)=>.ok (n,{ st4 with spans:=st4.spans.modify me fun x=>{ x with node:=n,to_:=(st4.i:Int) } })
def defineC (s:List Nat):Nat→CH→Nat→Nat→Nat→Int→CSt→CR (Int×CSt)
 | 0,_,_,_,_,_,_=>.no
 | f+1,h,fr,span,depth,lab,st=>
  let nd:CR (GNode×Nat):=if h.major=4 then .ok (⟨9,[],false,[],[]⟩,st.i) else if h.major=5 then .ok (⟨10,[],false,[],[]⟩,st.i) else if h.tag 1147 then .no else scalarC s h st.i
  nd.bind fun(x,i1)=>
   (addC { st with i:=i1 } x fr depth).bind fun(n,st1)=>
    let st2:=if 0≤lab then { st1 with shared:=st1.shared.set lab.toNat (n:Int) } else st1
    if x.kind=9∨x.kind=10 then (contentC s f h n span (depth+1) 0 st2).bind fun st3=>.ok ((n:Int),st3)
    else .ok ((n:Int),st2)
def contentC (s:List Nat):Nat→CH→Nat→Nat→Nat→Nat→CSt→CR CSt
 | 0,_,_,_,_,_,_=>.no
 | f+1,h,n,span,depth,k,st=>
  if h.info=31∨k<h.arg then
   (hdC s st.i).bind fun(x,i1)=>
    if h.info=31∧x.ends then .ok { st with i:=i1 }
    else
     let sp:JSpan:=⟨0,span,k,0,0,0,0,false,false⟩
     let r:CR (CH×JSpan×CSt):=if h.major=5 then
       (keyC s x n depth { st with i:=i1 }).bind fun st1=>
        (hdC s st1.i).bind fun(y,i2)=>.ok (y,{ sp with kf:=(x.at_:Int),kt:=(st1.i:Int) },{ st1 with i:=i2 })
      else .ok (x,sp,{ st with i:=i1 })
     r.bind fun(y,sp2,st2)=>
      (valueC s f y sp2 depth st2).bind fun(item,st3)=>
       contentC s f h n span depth (k+1) { st3 with nodes:=st3.nodes.set n { ndAt st3.nodes n with items:=(ndAt st3.nodes n).items ++ [item] } }
  else .ok st
end
end Go.Proofs.YtnnnagnjikdnnaaGreatDoor
namespace Go.Proofs.YtnnnagnjikdnnaaGreatDoor
open Go.RowKit
def pB (neg:Bool) (bs:Nat) (b:List Nat):List Nat×Int:=
 if b.all (fun c=>decide (digV c<bs))=true then (if (lead 48 b).length≤1600 then (tS (neg,hor bs digV (lead 48 b)),tE (neg,hor bs digV (lead 48 b))) else ([],6)) else ([],3)
def parB (s:List Nat):Bool×List Nat:=match s with | 43 :: b=>(false,b) | 45 :: b=>(true,b) | b=>(false,b)
def parR (s:List Nat) (base:Int):List Nat×Int:=if knownB base=true then (if (parB s).2 = [] then ([],3) else pB (parB s).1 base.toNat (parB s).2) else ([],1)
end Go.Proofs.YtnnnagnjikdnnaaGreatDoor
namespace Go.Proofs.YtnnnagnjikdnnaaGreatDoor
open Go.RowKit
def isV (l:List JTok) (c:List Nat):Bool:=match l with | []=>false | t :: _=>decide (t.kind=1∧t.text=c)
def offV (en:Nat) (l:List JTok):Nat:=match l with | []=>en | t :: _=>t.from_
def hasDot (t:List Nat):Bool:=Lib.containsAny (u8s t) [46,101,69]
def scalarV (t:JTok):Option GNode:=
 if t.kind=2 then some ⟨5,t.text,false,[],[]⟩
 else if t.kind=4 then (if t.text=litNull then some ⟨0,[],false,[],[]⟩ else some ⟨1,t.text,false,[],[]⟩)
 else if hasDot t.text then (if (parseDV t.text).2=0 then some ⟨3,(parseDV t.text).1,false,[],[]⟩ else none)
 else (if (parR t.text 10).2=0 then some ⟨2,(parR t.text 10).1,false,[],[]⟩ else none)
abbrev PErr:=Nat×Nat
structure PLoop where
 st:PSt
 ks:List (List Nat)
 keys:List Int
 items:List Int
def keyV (en:Nat) (d:Nat) (x:PLoop) (s:JSpan):Except PErr (PLoop×JSpan):=
 match x.st.left with
 | []=>.error (en,4)
 | t :: r=>
  if t.kind≠2 then .error (t.from_,4)
  else if 32<d+1 then .error (t.from_,5)
  else if 4096≤x.st.nodes.length then .error (t.from_,7)
  else if t.text∈x.ks then .error (t.from_,8)
  else if isV r [58] then .ok (⟨⟨r.drop 1,x.st.nodes ++ [⟨5,t.text,false,[],[]⟩],x.st.spans⟩,x.ks ++ [t.text],x.keys ++ [(x.st.nodes.length:Int)],x.items⟩,{ s with kf:=t.from_,kt:=t.to_ })
  else .error (offV en r,4)
def commaV (en:Nat) (x:PLoop):Except PErr PLoop:=
 if x.items.length=0 then .ok x
 else if isV x.st.left [44] then .ok { x with st:={ x.st with left:=x.st.left.drop 1 } } else .error (offV en x.st.left,4)
mutual
def valueV (en:Nat):Nat→PSt→JSpan→Nat→Except PErr (Int×PSt)
 | 0,_,_,_=>.error (0,0)
 | f+1,st,s,d=>
  match st.left with
  | []=>.error (en,4)
  | t :: r=>
   if t.kind=1∧¬t.text = [91]∧¬t.text = [123] then .error (t.from_,4)
   else if 32<d then .error (t.from_,5)
   else if 4096≤st.nodes.length then .error (t.from_,7)
   else if t.kind=1 then
    match itemsV en f (decide (t.text = [123])) st.spans.length d ⟨⟨r,st.nodes ++ [⟨if t.text = [123] then 10 else 9,[],false,[],[]⟩],st.spans ++ [{ s with node:=st.nodes.length,from_:=t.from_,whole:=true }]⟩,[],[],[]⟩ with
    | .error e=>.error e
    | .ok x=>.ok (st.nodes.length,⟨x.st.left.drop 1,x.st.nodes.set st.nodes.length ⟨if t.text = [123] then 10 else 9,[],false,x.keys,x.items⟩,x.st.spans.modify st.spans.length (fun p=>{ p with to_:=(x.st.left.head?.map (·.to_)).getD 0 })⟩)
   else match scalarV t with
    | none=>.error (t.from_,12)
    | some nd=>.ok (st.nodes.length,⟨r,st.nodes ++ [nd],st.spans ++ [{ s with node:=st.nodes.length,from_:=t.from_,to_:=t.to_,whole:=true }]⟩)
def itemsV (en:Nat):Nat→Bool→Nat→Nat→PLoop→Except PErr PLoop
 | 0,_,_,_,_=>.error (0,0)
 | f+1,obj,k,d,x=>
  if isV x.st.left (if obj then [125] else [93]) then .ok x
  else match commaV en x with
  | .error e=>.error e
  | .ok y=>
   match (if obj then keyV en d y ⟨0,k,x.items.length,0,0,0,0,false,false⟩ else .ok (y,⟨0,k,x.items.length,0,0,0,0,false,false⟩)) with
   | .error e=>.error e
   | .ok (z,s)=>
    match valueV en f z.st s (d+1) with
    | .error e=>.error e
    | .ok (v,st)=>itemsV en f obj k d ⟨st,z.ks,z.keys,z.items ++ [v]⟩
end
def TokOK (t:JTok):Prop:=By t.text∧t.text.length≤4294967200∧(t.kind≠1→t.kind≠2→t.kind≠4→∀c∈t.text,c<128)∧t.from_≤65536∧t.to_≤65536
end Go.Proofs.YtnnnagnjikdnnaaGreatDoor
namespace Go.Proofs.YtnnnagnjikdnnaaGreatDoor
open Go.RowKit
section
variable {w:World} {B pb:Nat} {F:Nat→Prop} {k:PK} {A:Option Addr} {n c:Nat} {vn vs:Value} {ncs:List Value} {st:PSt}
end
end Go.Proofs.YtnnnagnjikdnnaaGreatDoor
namespace Go.Proofs.YtnnnagnjikdnnaaGreatDoor
open Go.RowKit
theorem Tryz.infoS30:(Tryz.prog.info? 30).map (fun i=>(i.zero,i.size,i.bytes))=some (some (.agg #[.int .i64 0,.string ⟨#[]⟩,.bool false,.slice none 0 0,.slice none 0 0]),5,80):=by kernel_rfl
theorem Tryz.infoS72:(Tryz.prog.info? 72).map (fun i=>(i.zero,i.size,i.bytes))=some (some (.agg #[.int .i64 0,.int .i64 0,.int .i64 0,.int .i64 0,.int .i64 0,.int .i64 0,.int .i64 0,.bool false,.bool false]),9,64):=by kernel_rfl
end Go.Proofs.YtnnnagnjikdnnaaGreatDoor
namespace Go.Proofs.YtnnnagnjikdnnaaGreatDoor
open Go.RowKit
end Go.Proofs.YtnnnagnjikdnnaaGreatDoor
namespace Go.Proofs.YtnnnagnjikdnnaaGreatDoor
open Go.RowKit
def KeyMap (w:World) (b n:Nat) (ks:List (List Nat)):Prop:=
 ∃D:DataW Unit,w.ownsMap Tryz.prog 9 (plainElem Tryz.prog 4) b n D∧Maps.IsMap D∧∀key,By key→D.atKey (.string (u8s key)) (.lit (.bool false))=.lit (.bool (decide (key∈ks)))
theorem KeyMap.lt {w:World} {b n:Nat} {ks:List (List Nat)} (h:KeyMap w b n ks):b<w.heap.size:=by obtain⟨D,h1,_⟩:=h;exact h1.lt
theorem KeyMap.same {w w':World} {b n:Nat} {ks:List (List Nat)} (h:KeyMap w b n ks) (hs:w'.heap[b]? = w.heap[b]?):KeyMap w' b n ks:=by
 obtain⟨D,⟨es,clock,hb,hF,hn,hD⟩,h2,h3⟩:=h
 exact⟨D,⟨es,clock,hs.trans hb,hF,hn,hD⟩,h2,h3⟩
theorem KeyMap.made (w:World):KeyMap (w.alloc (.map #[] 0)) w.heap.size 0 []:=
 ⟨.map [],World.ownsMap_made w _ _ _,Maps.isMap_empty,fun key _=>by simp [DataW.atKey]⟩
section
variable {w:World} {ops:Array Oper} {rest:List Oper} {o:Oper} {a:Act} {Q:Exit→Act→World→Prop}
end
end Go.Proofs.YtnnnagnjikdnnaaGreatDoor
namespace Go.Proofs.YtnnnagnjikdnnaaGreatDoor
open Go.RowKit
theorem own_put {w:World} {b:Nat} {e:TypeId} {k g n cap:Nat} {xs:List Value} (h:w.ownsRow b e k (.slice (some ⟨g,0,none⟩) n cap) n xs) (i:Nat) (u:Value):(w.setCell ⟨g,i,none⟩ u).ownsRow b e k (.slice (some ⟨g,0,none⟩) n cap) n (xs.set i u):=by
 refine⟨by rw [List.length_set];exact h.1,?_⟩
 rcases h.2 with⟨hv,_⟩ | ⟨g',cap',cur,hv,hb,hg,h1,h2,h3,h4⟩
 ·cases hv
 ·injection hv with hv1 _ hv3
  injection hv1 with hv1
  injection hv1 with hv1
  subst hv1
  subst hv3
  refine .inr ⟨g,cap,cur.setIfInBounds i u,rfl,hb,?_,h1,h2,by simpa using h3,?_⟩
  ·simp [World.setCell,Array.getElem?_modify,hg]
  ·rw [Array.toList_setIfInBounds,List.take_set,h4]
def setL (xs:List Value):Nat→List Value→List Value
 | _,[]=>xs
 | o,v :: r=>setL (xs.set o v) (o+1) r
theorem own_puts {b:Nat} {e:TypeId} {k g n cap:Nat}:∀(vs:List Value) (o:Nat) {w:World} {xs:List Value},w.ownsRow b e k (.slice (some ⟨g,0,none⟩) n cap) n xs→(w.setCells g o vs).ownsRow b e k (.slice (some ⟨g,0,none⟩) n cap) n (setL xs o vs)
 | [],_,_,_,h=>h
 | v :: r,o,_,_,h=>own_puts r (o+1) (own_put h o v)
theorem setL_len (vs:List Value):∀(o:Nat) (xs:List Value),(setL xs o vs).length=xs.length:=by
 induction vs with
 | nil=>intro o xs;rfl
 | cons v r ih=>intro o xs;rw [setL,ih,List.length_set]
theorem setL_get (vs:List Value):∀(o:Nat) (xs:List Value) (j:Nat),o+vs.length≤xs.length→(setL xs o vs)[j]? = if o≤j∧j<o+vs.length then vs[j - o]? else xs[j]?:=by
 induction vs with
 | nil=>intro o xs j _;rw [setL,if_neg (by rw [List.length_nil];omega)]
 | cons v r ih=>
  intro o xs j hl
  rw [List.length_cons] at hl ⊢
  rw [setL,ih (o+1) (xs.set o v) j (by rw [List.length_set];omega)]
  by_cases h0:j=o
  ·subst h0
   rw [if_neg (by omega),if_pos (by omega),List.getElem?_set_self (by omega),Nat.sub_self]
   rfl
  ·by_cases h1:o+1≤j∧j<o+1+r.length
   ·rw [if_pos h1,if_pos (by omega),show j - o=(j - (o+1))+1 by omega,List.getElem?_cons_succ]
   ·rw [if_neg h1,if_neg (by omega),List.getElem?_set_ne (by omega)]
theorem spans_set (l:List JSpan) (k:Nat) (x:Int) (hk:k<l.length):(spansC l).set (k*9+4) (.int .i64 x)=spansC (l.modify k (fun p=>{ p with to_:=x })):=by
 induction l generalizing k with
 | nil=>simp at hk
 | cons s t ih=>
  unfold spansC at ih ⊢
  cases k with
  | zero=>rw [List.modify_zero_cons,List.flatMap_cons,List.flatMap_cons,List.set_append_left _ _ (by simp [spanC])];rfl
  | succ k=>
   rw [List.modify_succ_cons,List.flatMap_cons,List.flatMap_cons,List.set_append_right _ _ (by simp [spanC];omega)]
   have:=ih k (by simpa using hk)
   rw [←this]
   congr 2
   simp [spanC];omega
theorem heap_setCells (g:Nat):∀(vs:List Value) (o:Nat) (w:World) {i:Nat},i≠g→(w.setCells g o vs).heap[i]? = w.heap[i]?
 | [],_,_,_,_=>rfl
 | v :: r,o,w,i,h=>(heap_setCells g r (o+1) _ h).trans (Below.heap_setCell w ⟨g,o,none⟩ v i h)
theorem size_setCells (g:Nat):∀(vs:List Value) (o:Nat) (w:World),(w.setCells g o vs).heap.size=w.heap.size
 | [],_,_=>rfl
 | v :: r,o,w=>(size_setCells g r (o+1) _).trans (by simp [World.setCell])
theorem same_setCells (g:Nat):∀(vs:List Value) (o:Nat) (w:World),(w.setCells g o vs).os=w.os∧(w.setCells g o vs).tape=w.tape∧(w.setCells g o vs).output=w.output
 | [],_,_=>⟨rfl,rfl,rfl⟩
 | v :: r,o,w=>same_setCells g r (o+1) (w.setCell ⟨g,o,none⟩ v)
theorem own_there {w:World} {b:Nat} {e:TypeId} {k g n cap:Nat} {xs:List Value} (h:w.ownsRow b e k (.slice (some ⟨g,0,none⟩) n cap) n xs) {o m:Nat} (ho:o+m≤n*k):w.there g o m:=by
 rcases h.2 with⟨hv,_⟩ | ⟨g',cap',cur,hv,hb,hg,h1,h2,h3,h4⟩
 ·cases hv
 ·injection hv with hv1 _ hv3
  injection hv1 with hv1
  injection hv1 with hv1
  subst hv1
  subst hv3
  intro j hj
  have hle:n*k≤cap*k:=Nat.mul_le_mul_right _ h1
  refine⟨?_,frozen_of_row w g (o+j) cur e hg⟩
  rw [cell_of_row w g (o+j) cur e (0,0) hg,Array.getElem?_eq_getElem (by omega)]
  rfl
theorem own_cell {w:World} {b:Nat} {e:TypeId} {k g n cap:Nat} {xs:List Value} (h:w.ownsRow b e k (.slice (some ⟨g,0,none⟩) n cap) n xs) {i:Nat} {u:Value} (hu:xs[i]? = some u):w.cell? ⟨g,i,none⟩=some u∧w.frozen? ⟨g,i,none⟩=false:=by
 have h1:=h.cells (g:=g) rfl i u hu
 rw [Addr.add_mid,Nat.zero_add] at h1
 have hl:=(List.getElem?_eq_some_iff.1 hu).1
 have h2:=own_there h (o:=i) (m:=1) (by have:=h.1;omega) 0 (by omega)
 exact⟨h1,h2.2⟩
section
variable {w:World} {B pb:Nat} {F:Nat→Prop} {k:PK} {A:Option Addr} {n c:Nat} {vn vs:Value} {ncs:List Value} {st:PSt}
theorem PStep.drew {w w':World} {F F':Nat→Prop} (h:PStep w w' F F'):PStep w w'.drew F F':=⟨h.os,h.tape,h.output,h.size,h.keep,h.new⟩
theorem PStep.drewN {w w':World} {F F':Nat→Prop} (h:PStep w w' F F') (m:Nat):PStep w (w'.drewN m) F F':=⟨h.os,h.tape,h.output,h.size,h.keep,h.new⟩
theorem PStep.refl (w:World) (F:Nat→Prop):PStep w w F F:=⟨rfl,rfl,rfl,Nat.le_refl _,fun _ _ _=>rfl,fun _ h=>.inl h⟩
theorem PStep.far {w w':World} {F F':Nat→Prop} (h:PStep w w' F F') {p:Addr} (hp:w.heap.size≤p.block∨F p.block) (u:Value):PStep w (w'.setCell p u) F F':=
 ⟨h.os,h.tape,h.output,by simpa [World.setCell] using h.size,fun i hi hF=>(setCell_heap_ne _ _ _ (by rintro rfl;rcases hp with h1 | h1;omega;exact hF h1)).trans (h.keep i hi hF),h.new⟩
theorem PStep.grown {w w' w2:World} {F F':Nat→Prop} (h:PStep w w' F F') {row:Option Nat} (hg:w'.grownBy w2 row) (hr:∀g,row=some g→w.heap.size≤g):PStep w w2 F F':=
 ⟨hg.os.trans h.os,hg.tape.trans h.tape,hg.output.trans h.output,Nat.le_trans h.size hg.size,fun i hi hF=>(hg.block i (Nat.lt_of_lt_of_le hi h.size) (by intro e;have:=hr i e.symm;omega)).trans (h.keep i hi hF),h.new⟩
theorem PStep.below' {w w' w2:World} {F F':Nat→Prop} (h:PStep w w' F F') (hb:Below w'.heap.size w' w2):PStep w w2 F F':=h.trans (PStep.of_below hb)
theorem NodesRd.put (h:NodesRd w F ncs st.nodes) {i:Nat} (hi:i<st.nodes.length) {cs:List Value} {nd:GNode} (hn:NodeRd w F cs nd):NodesRd w F (setL ncs (i*5) cs) (st.nodes.set i nd):=by
 have hl:cs.length=5:=by obtain⟨K,nk,ck,I,ni,ci,rfl,_⟩:=hn;rfl
 have hb:i*5+cs.length≤ncs.length:=by rw [h.1,hl];omega
 refine⟨by rw [setL_len,List.length_set];exact h.1,fun j x hj=>?_⟩
 have hj2:=(List.getElem?_eq_some_iff.1 hj).1
 rw [List.length_set] at hj2
 by_cases hij:j=i
 ·subst hij
  rw [List.getElem?_set_self hi] at hj
  obtain rfl:=Option.some.inj hj
  have e:((setL ncs (j*5) cs).drop (j*5)).take 5=cs:=by
   apply List.ext_getElem?
   intro q
   rw [List.getElem?_take]
   by_cases hq:q<5
   ·rw [if_pos hq,List.getElem?_drop,setL_get _ _ _ _ hb,if_pos (by omega)]
    congr 1;omega
   ·rw [if_neg hq,List.getElem?_eq_none (by omega)]
  rw [e];exact hn
 ·rw [List.getElem?_set_ne (by omega)] at hj
  have e:((setL ncs (i*5) cs).drop (j*5)).take 5=(ncs.drop (j*5)).take 5:=by
   apply List.ext_getElem?
   intro q
   rw [List.getElem?_take,List.getElem?_take]
   by_cases hq:q<5
   ·rw [if_pos hq,if_pos hq,List.getElem?_drop,List.getElem?_drop,setL_get _ _ _ _ hb,if_neg (by omega)]
   ·rw [if_neg hq,if_neg hq]
  rw [e];exact h.2 j x hj
end
end Go.Proofs.YtnnnagnjikdnnaaGreatDoor
namespace Go.Proofs.YtnnnagnjikdnnaaGreatDoor
open Go.RowKit
structure PSub (m:Nat) (st st':PSt):Prop where
 left:∃j,m≤j∧j≤st.left.length∧st'.left=st.left.drop j
 nodes:st.nodes.length≤st'.nodes.length
 spans:st.spans.length≤st'.spans.length
theorem PSub.refl (st:PSt):PSub 0 st st:=⟨⟨0,Nat.le_refl _,Nat.zero_le _,rfl⟩,Nat.le_refl _,Nat.le_refl _⟩
theorem PSub.trans {m n:Nat} {a b c:PSt} (h:PSub m a b) (k:PSub n b c):PSub (m+n) a c:=by
 obtain⟨⟨j,h1,h2,h3⟩,h4,h5⟩:=h
 obtain⟨⟨i,k1,k2,k3⟩,k4,k5⟩:=k
 rw [h3,List.length_drop] at k2
 exact⟨⟨j+i,by omega,by omega,by rw [k3,h3,List.drop_drop]⟩,by omega,by omega⟩
theorem PSub.mono {m n:Nat} {a b:PSt} (h:PSub m a b) (hn:n≤m):PSub n a b:=by
 obtain⟨⟨j,h1,h2,h3⟩,h4,h5⟩:=h
 exact⟨⟨j,by omega,h2,h3⟩,h4,h5⟩
theorem PSub.len {m:Nat} {a b:PSt} (h:PSub m a b):b.left.length+m≤a.left.length:=by
 obtain⟨⟨j,h1,h2,h3⟩,_⟩:=h
 rw [h3,List.length_drop];omega
theorem PSub.ok {m:Nat} {a b:PSt} (h:PSub m a b) (ha:∀t∈a.left,TokOK t):∀t∈b.left,TokOK t:=by
 obtain⟨⟨j,h1,h2,h3⟩,_⟩:=h
 intro t ht
 rw [h3] at ht
 exact ha t (List.mem_of_mem_drop ht)
end Go.Proofs.YtnnnagnjikdnnaaGreatDoor
namespace Go.Proofs.YtnnnagnjikdnnaaGreatDoor
open Go.RowKit
def LibAt (B:Nat) (w:World):Prop:=∃W0,LibOK W0∧W0.heap.size=B∧Below B W0 w
theorem LibAt.ok {B:Nat} {w:World} (h:LibAt B w):LibOK w:=by obtain⟨W0,h1,rfl,h2⟩:=h;exact h1.keep h2
theorem LibAt.size {B:Nat} {w:World} (h:LibAt B w):B≤w.heap.size:=by obtain⟨W0,h1,rfl,h2⟩:=h;exact h2.size
theorem LibAt.step {B:Nat} {w w':World} (h:LibAt B w) (hb:Below B w w'):LibAt B w':=by obtain⟨W0,h1,h3,h2⟩:=h;exact⟨W0,h1,h3,h2.trans hb⟩
end Go.Proofs.YtnnnagnjikdnnaaGreatDoor
namespace Go.Proofs.YtnnnagnjikdnnaaGreatDoor
open Go.RowKit
section
variable {w:World} {B pb:Nat} {F:Nat→Prop} {k:PK} {A:Option Addr} {n c:Nat} {vn vs:Value} {ncs:List Value} {st:PSt}
end
end Go.Proofs.YtnnnagnjikdnnaaGreatDoor
namespace Go.Proofs.YtnnnagnjikdnnaaGreatDoor
open Go.RowKit
end Go.Proofs.YtnnnagnjikdnnaaGreatDoor
namespace Go.Proofs.YtnnnagnjikdnnaaGreatDoor
open Go.RowKit
section
variable {P:Program} {w:World} {ops:Array Oper} {o:Oper} {a:Act} {K:Act→World→Prop} {Q:Exit→Act→World→Prop} {E:Prop}
end
end Go.Proofs.YtnnnagnjikdnnaaGreatDoor
