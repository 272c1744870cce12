/- Plain laws: what the parser of json makes of lists and maps nested around an inner value of one node. No program is mentioned here. -/
import Derived.Test.YtnnnagnjikdnnaaGreatDoorMAj
import Derived.Test.YtnnnagnjikdnnaaGreatDoorMAd
import Derived.WideKeyEntry
import Derived.Maps.OwnRows
import Derived.Test.YtnnnagnjikdnnaaGreatDoorMAe
import Derived.Maps.Views
import Derived.Test.YtnnnagnjikdnnaaGreatDoorMAh
import Derived.Test.YtnnnagnjikdnnaaGreatDoorMAg
set_option linter.unusedVariables false
set_option linter.unusedSimpArgs false
set_option linter.defProp false
set_option linter.constructorNameAsVariable false
namespace Go.Proofs.YtnnnagnjikdnnaaGreatDoor
open Go.RowKit
inductive InnT (toks:List JTok) (nd:GNode):Prop
 | leaf (t:JTok):toks = [t]→t.kind≠1→scalarV t=some nd→InnT toks nd
 | list (t t2:JTok):toks = [t,t2]→t.kind=1→t.text = [91]→t2.kind=1→t2.text = [93]→nd=⟨9,[],false,[],[]⟩→InnT toks nd
 | map (t t2:JTok):toks = [t,t2]→t.kind=1→t.text = [123]→t2.kind=1→t2.text = [125]→nd=⟨10,[],false,[],[]⟩→InnT toks nd
def Begs (t:JTok):Prop:=¬(t.kind=1∧¬t.text = [91]∧¬t.text = [123])
theorem InnT.head {toks:List JTok} {nd:GNode} (h:InnT toks nd):∃t r,toks=t :: r∧Begs t:=by
 cases h with
 | leaf t h1 h2 h3=>exact⟨t,[],h1,fun h=>h2 h.1⟩
 | list t t2 h1 h2 h3 h4 h5 h6=>exact⟨t,[t2],h1,fun h=>h.2.1 h3⟩
 | map t t2 h1 h2 h3 h4 h5 h6=>exact⟨t,[t2],h1,fun h=>h.2.2 h3⟩
theorem isV_yes {t:JTok} {r:List JTok} {c:List Nat} (h1:t.kind=1) (h2:t.text=c):isV (t :: r) c=true:=decide_eq_true ⟨h1,h2⟩
theorem isV_no {t:JTok} {r:List JTok} {c:List Nat} (h:¬(t.kind=1∧t.text=c)):isV (t :: r) c=false:=decide_eq_false h
theorem Begs.no {t:JTok} (h:Begs t) {c:Nat} (hc:c=93∨c=125) (r:List JTok):isV (t :: r) [c]=false:=isV_no fun hh=>h ⟨hh.1,by rw [hh.2];intro e;injection e with e;omega,by rw [hh.2];intro e;injection e with e;omega⟩
theorem set_snoc (N:List GNode) (a b:GNode) (r:List GNode):(N ++ a :: r).set N.length b=N ++ b :: r:=by
 rw [List.set_append_right (h:=Nat.le_refl _),Nat.sub_self];rfl
theorem InnT.value {toks:List JTok} {nd:GNode} (h:InnT toks nd) (en f:Nat) (N:List GNode) (S:List JSpan) (s:JSpan) (d:Nat) (rest:List JTok) (hd:d≤32) (hN:N.length<4096) :
  ∃S',valueV en (f+2) ⟨toks ++ rest,N,S⟩ s d=.ok ((N.length:Int),⟨rest,N ++ [nd],S'⟩):=by
 cases h with
 | leaf t h1 h2 h3=>
  subst h1
  rw [List.singleton_append,valueV]
  simp only
  rw [if_neg (fun h=>h2 h.1),if_neg (by omega),if_neg (by omega),if_neg h2,h3]
  exact⟨_,rfl⟩
 | list t t2 h1 h2 h3 h4 h5 h6=>
  subst h1
  rw [List.cons_append,valueV]
  simp only
  rw [if_neg (fun h=>h.2.1 h3),if_neg (by omega),if_neg (by omega),if_pos h2,h3,itemsV]
  have e1:decide (([91]:List Nat) = [123])=false:=by decide
  have e2:(if ([91]:List Nat) = [123] then (10:Int) else 9)=9:=by decide
  rw [e1,e2]
  simp only
  rw [if_pos (by simp only [Bool.false_eq_true,if_false];exact isV_yes h4 h5)]
  simp only
  rw [set_snoc,h6]
  exact⟨_,rfl⟩
 | map t t2 h1 h2 h3 h4 h5 h6=>
  subst h1
  rw [List.cons_append,valueV]
  simp only
  rw [if_neg (fun h=>h.2.2 h3),if_neg (by omega),if_neg (by omega),if_pos h2,h3,itemsV]
  have e1:decide (([123]:List Nat) = [123])=true:=by decide
  have e2:(if ([123]:List Nat) = [123] then (10:Int) else 9)=10:=by decide
  rw [e1,e2]
  simp only
  rw [if_pos (by simp only [if_true];exact isV_yes h4 h5)]
  simp only
  rw [set_snoc,h6]
  exact⟨_,rfl⟩
/-! ### The nested value -/
end Go.Proofs.YtnnnagnjikdnnaaGreatDoor
namespace Go.Proofs.YtnnnagnjikdnnaaGreatDoor
open Go.RowKit Go.Maps Go.WideElems Go.MapKept
open Go.ChangeMaps (setBlock heap_setBlock_same heap_setBlock_other)
open Go.WideMaps (KeyLaw)
section
variable {H:Type} {P:Program} {w w':World} {t k e E:TypeId} {b n base:Nat} {es:Array MapEntry} {clock:Nat} {R:Value→Option (DataW H×List MemPlace)} {q:IntKind} {D:DataW H}
theorem nodup_at {α β:Type} (f:α→β):∀{l:List α} {i j:Nat} {x y:α},(l.map f).Nodup→l[i]? = some x→l[j]? = some y→f x=f y→i=j
 | [],_,_,_,_,_,h,_,_=>by simp at h
 | a :: l,0,0,_,_,_,_,_,_=>rfl
 | a :: l,0,j+1,x,y,hn,h1,h2,he=>by
  simp at h1 h2 hn
  subst h1
  exact absurd he.symm (hn.1 y (List.mem_of_getElem? h2))
 | a :: l,i+1,0,x,y,hn,h1,h2,he=>by
  simp at h1 h2 hn
  subst h2
  exact absurd he (hn.1 x (List.mem_of_getElem? h1))
 | a :: l,i+1,j+1,x,y,hn,h1,h2,he=>by
  simp at h1 h2
  rw [List.map_cons,List.nodup_cons] at hn
  rw [nodup_at f hn.2 h1 h2 he]
theorem mapUpdate_alike (K:KeyLaw P k) (ht:P.underlying t=some (.map k E)) (hb:w.heap[b]? = some (.map es clock)) (hb':w'.heap[b]? = some (.map es clock)) (F:Fit P k R es clock)
  {key val:Value} {kl:Lit} (hkey:keyOf P k key=some kl) {es':Array MapEntry} {clock':Nat} (h:(Instr.mapUpdate t (.map (some b)) key val).run P w=.ok () (setBlock w b (.map es' clock'))) :
  (Instr.mapUpdate t (.map (some b)) key val).run P w'=.ok () (setBlock w' b (.map es' clock')):=by
 have inj:∀{a c:Array MapEntry} {x y:Nat},setBlock w b (.map a x)=setBlock w b (.map c y)→a=c∧x=y:=fun {a c x y} h=>by
  have h1:=heap_setBlock_same hb (.map a x)
  rw [h,heap_setBlock_same hb] at h1
  cases h1
  exact⟨rfl,rfl⟩
 rcases K.find w hkey es.toList F.keys with⟨h1,h2⟩ | ⟨j,e0,h1,h2,h3⟩
 ·rcases K.find w' hkey es.toList F.keys with⟨g1,_⟩ | ⟨j,e0,_,g2,g3⟩
  ·simp [Instr.mapUpdate,run_underlying ht,MapKept.run_getObj_map hb,K.check w false hkey,h1,MapKept.run_setObj_map _ hb,Result.andThen] at h
   obtain⟨r1,r2⟩:=inj h
   simp [Instr.mapUpdate,run_underlying ht,MapKept.run_getObj_map hb',K.check w' false hkey,g1,MapKept.run_setObj_map _ hb',Result.andThen,setBlock,r1,r2]
  ·exact absurd g3 (h2 e0 (List.mem_of_getElem? g2))
 ·rcases K.find w' hkey es.toList F.keys with⟨_,g2⟩ | ⟨j',e0',g1,g2,g3⟩
  ·exact absurd h3 (g2 e0 (List.mem_of_getElem? h2))
  ·have hj:j=j':=nodup_at (·.key) F.stamped.2.2 h2 g2 (h3.trans g3.symm)
   subst hj
   have he:e0=e0':=Option.some.inj (h2.symm.trans g2)
   subst he
   have hj2:es[j]? = some e0:=by simpa using h2
   simp [Instr.mapUpdate,run_underlying ht,MapKept.run_getObj_map hb,K.check w false hkey,h1,hj2,K.stays w hkey,h3,MapKept.run_setObj_map _ hb,Result.andThen] at h
   obtain⟨r1,r2⟩:=inj h
   simp [Instr.mapUpdate,run_underlying ht,MapKept.run_getObj_map hb',K.check w' false hkey,g1,hj2,K.stays w' hkey,g3,MapKept.run_setObj_map _ hb',Result.andThen,setBlock,r1,r2]
theorem setBlock_two (w:World) (b:Nat) (o o':Obj):setBlock (setBlock w b o) b o'=setBlock w b o':=by
 unfold setBlock
 simp
def entryBack (w:World) (P:Program) (t k:TypeId) (base:Nat) (e:TypeId) (q:IntKind) (b n:Nat) (D:DataW H) (kl:Lit) (stamp:Value) (v:Value) (wA:World):Prop:=
 ∀(w1:World) (v':Value) (zs':List Int),wA.grownBy w1 v.ownBlock→w1.ownsInts base e q v' zs'→zs'.length≤n+1→(v'.ownBlock=v.ownBlock∨∃g,v'.ownBlock=some g∧w.heap.size≤g) →
  ∃w2,(Instr.entryStore t (.map (some b)) stamp v').run P w1=.ok () w2∧w2.ownsGroups P k base e q b (n+1) (D.put kl (rowDatum q v' zs'))∧w1.grownBy w2 (some b)
theorem groups_entry (K:KeyLaw P k) (ht:P.underlying t=some (.map k E)) (hz:∀u:World,(zeroValue E).run P u=.ok (.slice none 0 0) u) (h:w.ownsGroups P k base e q b n D) (hn:n<maxLen) {key:Value} {kl:Lit} (hkey:keyOf P k key=some kl) :
  ∃v zs stamp wA,(Instr.mapEntry t (.map (some b)) key).run P w=.ok (.tuple #[v,stamp]) wA∧D.atKey kl .nil=rowDatum q v zs∧wA.ownsInts base e q v zs∧zs.length≤n∧w.grownBy wA (some b)∧wA.heap.size=w.heap.size∧entryBack w P t k base e q b n D kl stamp v wA:=by
 obtain⟨v,zs,hrun,hat,ho,hl,hback⟩:=h.at (Keyed.of_law K) ht (hz w) hn hkey
 obtain⟨es,clock,hb,F,hs,hD,hbb,hlen,hap⟩:=h
 obtain⟨v0,st,es1,clock1,hE,hcase,hS⟩:=entry_then_store K ht hz hb F hkey
 have hblt:b<w.heap.size:=(Array.getElem?_eq_some_iff.1 hb).1
 have hv:v0=v:=by
  rcases fit_look false (Keyed.of_law K) ht (hz w) hb F hkey with⟨h1,h2,_⟩ | ⟨e0,y,hm0,h3,h1,_,_,_⟩
  ·have hv1:v=.slice none 0 0:=by rw [hrun] at h1;simpa using h1
   rcases hcase with⟨e0,hm,hk,_⟩ | ⟨_,rfl⟩
   ·exact absurd hk (h2 e0 hm)
   ·exact hv1.symm
  ·have hv1:v=e0.val:=by rw [hrun] at h1;simpa using h1
   rcases hcase with⟨e1,hm,hk,rfl⟩ | ⟨hno,_⟩
   ·obtain⟨i,hi⟩:=List.getElem?_of_mem hm0
    obtain⟨j,hj⟩:=List.getElem?_of_mem hm
    have:=nodup_at (·.key) F.stamped.2.2 hi hj (h3.trans hk.symm)
    subst this
    rw [Option.some.inj (hi.symm.trans hj)] at hv1
    exact hv1.symm
   ·exact absurd h3 (hno e0 hm0)
 subst hv
 have gA:∀(u:World) (o:Obj),u.grownBy (setBlock u b o) (some b):=fun u o=>⟨rfl,rfl,rfl,by simp [setBlock],fun j hj hne=>by
  have:j≠b:=fun e=>hne (by rw [e])
  simp [setBlock,Ne.symm this]⟩
 have off:∀{u:World} {x:Value} {l:List Int},u.ownsInts base e q x l→x.ownBlock=none∨x.ownBlock≠some b:=fun {u x l} ho=>by
  cases hx:x.ownBlock with
  | none=>exact .inl rfl
  | some g=>
   refine .inr fun e1=>?_
   have:=(ho.1.lt g hx).1
   have:=Option.some.inj e1
   omega
 refine⟨v0,zs,goInt st,_,hE,hat,ho.kept (gA w _) (off ho),hl,gA w _,by simp [setBlock],fun w1 v' zs' hg ho' hl' hloc=>?_⟩
 have hA1:(setBlock w b (.map es1 clock1)).heap[b]? = some (.map es1 clock1):=heap_setBlock_same hb _
 have hne:some b≠v0.ownBlock:=fun e1=>by
  rcases off ho with h | h
  ·rw [h] at e1;cases e1
  ·exact h e1.symm
 have hw1:w1.heap[b]? = some (.map es1 clock1):=(hg.block b (by simpa [setBlock] using hblt) hne).trans hA1
 obtain⟨es',clock',hst,hup⟩:=hS w1 v' hw1
 have hw1':(setBlock w1 b (.map es clock)).heap[b]? = some (.map es clock):=heap_setBlock_same hw1 _
 have hsz:=hg.size
 have hgr:w.grownBy (setBlock w1 b (.map es clock)) v0.ownBlock:=⟨hg.os,hg.tape,hg.output,by simpa [setBlock] using hsz,fun j hj hne'=>by
  by_cases hjb:j=b
  ·subst hjb;rw [hw1',hb]
  ·rw [heap_setBlock_other hw1 _ hjb,hg.block j (by simpa [setBlock] using hj) hne',heap_setBlock_other hb _ hjb]⟩
 obtain⟨w2,hr2,ho2,hg2⟩:=hback _ v' zs' hgr (ho'.kept (gA w1 _) (off ho')) hl' hloc
 have hr3:=mapUpdate_alike K ht hb hw1' F hkey hup
 rw [hr2,setBlock_two] at hr3
 have e2:w2=setBlock w1 b (.map es' clock'):=by simpa using hr3
 subst e2
 exact⟨_,hst,ho2,gA w1 _⟩
theorem wpList_mapEntry_groups (w:World) {ops:Array Oper} {rest:List Oper} {o:Oper} {a:Act} {Q:Exit→Act→World→Prop}
  (hg:o.guard=none) (m x:Operand) (t:TypeId) (hop:o.op=Op.mapEntry t m x) (k E e:TypeId) (q:IntKind) (K:KeyLaw P k) (ht:P.underlying t=some (.map k E)) (hz:∀u:World,(zeroValue E).run P u=.ok (.slice none 0 0) u)
  (base b n:Nat) (D:DataW H) (hm:a.eval m=.map (some b)) (hown:w.ownsGroups P k base e q b n D) (hn:n<maxLen) (key:Value) (kl:Lit) (hx:a.eval x=key) (hkey:keyOf P k key=some kl)
  (hK:∀v zs stamp wA,D.atKey kl .nil=rowDatum q v zs→wA.ownsInts base e q v zs→zs.length≤n→w.grownBy wA (some b)→wA.heap.size=w.heap.size→entryBack w P t k base e q b n D kl stamp v wA→wpList P ops Q rest (a.put o.dst (.tuple #[v,stamp])) wA) :
  wpList P ops Q (o :: rest) a w:=by
 refine wpList_plain hg fun K' hK'=>?_
 obtain⟨v,zs,stamp,wA,hrun,hat,hoi,hzl,hgr,hsz,hback⟩:=groups_entry K ht hz hown hn hkey
 unfold Oper.wp
 simp [execOp,hop,hm,hx,hrun,Result.andThen]
 exact hK' _ _ (hK v zs stamp wA hat hoi hzl hgr hsz hback)
theorem wpList_entryStore_back (w:World) {ops:Array Oper} {rest:List Oper} {o:Oper} {a:Act} {Q:Exit→Act→World→Prop}
  (hg:o.guard=none) (m x v:Operand) (t:TypeId) (hop:o.op=Op.entryStore t m x v)
  {w0 wA:World} {k:TypeId} {base:Nat} {e:TypeId} {q:IntKind} {b n:Nat} {D:DataW H} {kl:Lit} {stamp u v':Value} {zs':List Int}
  (hback:entryBack w0 P t k base e q b n D kl stamp u wA) (hm:a.eval m=.map (some b)) (hx:a.eval x=stamp) (hv:a.eval v=v')
  (hgr:wA.grownBy w u.ownBlock) (hown':w.ownsInts base e q v' zs') (hl':zs'.length≤n+1) (hloc:v'.ownBlock=u.ownBlock∨∃g,v'.ownBlock=some g∧w0.heap.size≤g)
  (hK:∀w2,w2.ownsGroups P k base e q b (n+1) (D.put kl (rowDatum q v' zs'))→w.grownBy w2 (some b)→wpList P ops Q rest (a.put o.dst undef) w2) :
  wpList P ops Q (o :: rest) a w:=by
 refine wpList_plain hg fun K' hK'=>?_
 obtain⟨w2,hrun,r1,r2⟩:=hback w v' zs' hgr hown' hl' hloc
 unfold Oper.wp
 simp [execOp,hop,hm,hx,hv,hrun,Result.andThen]
 exact hK' _ _ (hK w2 r1 r2)
theorem ints_shape {v:Value} {zs:List Int} (h:w.ownsInts base e q v zs):∃A cap,v=.slice A zs.length cap∧Rd w A (zs.map (Value.int q))∧From base A:=by
 obtain⟨h1,⟨rfl,h2⟩ | ⟨g,cap,cur,rfl,hb,hg,hn,hc,hs,ht⟩⟩:=h.1
 ·have:zs = []:=List.length_eq_zero_iff.1 h2
  subst this
  exact⟨none,0,rfl,fun j u hj=>by simp at hj,fun ad he=>by cases he⟩
 ·refine⟨some ⟨g,0,none⟩,cap,rfl,fun j u hj=>⟨_,rfl,?_⟩,fun ad he=>by cases he;exact hb⟩
  have hA:Arr w g e cur.toList:=by unfold Arr;rw [hg]
  rw [←ht,List.getElem?_take] at hj
  have hj2:cur.toList[j]? = some u:=by
   split at hj
   ·exact hj
   ·cases hj
  have:=hA.cell' (i:=j) hj2
  cases j with
  | zero=>simpa [Addr.add] using this
  | succ j=>simpa [Addr.add] using this
end
end Go.Proofs.YtnnnagnjikdnnaaGreatDoor
namespace Go.Proofs.YtnnnagnjikdnnaaGreatDoor
open Go.RowKit Go.Maps
open Go.ChangeShapes
def itsOf {H:Type}:DataW H→List Int
 | .slice es _=>es.map fun | .lit (.int _ n)=>n | _=>0
 | _=>[]
theorem itsOf_row {H:Type} {w:World} {base:Nat} {e:TypeId} {q:IntKind} {v:Value} {zs:List Int} (h:w.ownsInts base e q v zs):itsOf (rowDatum (H:=H) q v zs)=zs:=by
 rcases h.datum (H:=H) with⟨h1,rfl⟩ | h1
 ·rw [h1];rfl
 ·rw [h1]
  show(ChangeShapes.lits q zs).map _=zs
  unfold ChangeShapes.lits
  rw [List.map_map]
  conv=>rhs;rw [←List.map_id zs]
  exact List.map_congr_left fun a _=>rfl
open Classical in
def GrpR {H:Type} (D:DataW H) (kl:Int→Lit) (seen:List Int):Prop:=IsMap D∧∀x,itsOf (D.atKey (kl x) .nil)=seen.filter fun s=>decide (kl s=kl x)
open Classical in
theorem GrpR.nil {H:Type} (kl:Int→Lit):GrpR (.map []:DataW H) kl []:=⟨isMap_empty,fun _=>rfl⟩
open Classical in
theorem GrpR.put {H:Type} {D:DataW H} {kl:Int→Lit} {seen:List Int} (h:GrpR D kl seen) {s:Int} (hk:WideAt.IsKeyLit (kl s)) {w:World} {base:Nat} {e:TypeId} {q:IntKind} {v:Value} {zs:List Int}
  (ho:w.ownsInts base e q v zs) (hz:zs=(seen.filter fun t=>decide (kl t=kl s)) ++ [s]):GrpR (D.put (kl s) (rowDatum q v zs)) kl (seen ++ [s]):=by
 refine⟨h.1.put _ _,fun x=>?_⟩
 rw [List.filter_append]
 by_cases hx:kl x=kl s
 ·rw [hx,atKey_put_same h.1 hk,itsOf_row ho,hz]
  simp
 ·rw [atKey_put_other hx,h.2 x]
  have:(List.filter (fun t=>decide (kl t=kl x)) [s]) = []:=by simp [Ne.symm hx]
  rw [this,List.append_nil]
def leafSame (a b:GNode):Bool:=decide (a.kind=b.kind) && decide (a.text=b.text) && (a.ord == b.ord)
def dupF (nodes:List GNode):List Int→List Int→Bool
 | _,[]=>false
 | seen,k :: ks=>seen.any (fun q=>leafSame (ndAt nodes k.toNat) (ndAt nodes q.toNat)) || dupF nodes (seen ++ [k]) ks
def twiceV (nodes:List GNode):Bool:=nodes.any fun nd=>dupF nodes [] nd.keys
open Classical in
theorem dup_group {nodes:List GNode} {kl:Int→Lit} {seen:List Int} {k:Int} (h:∀q∈seen,leafSame (ndAt nodes k.toNat) (ndAt nodes q.toNat)=true→kl q=kl k) :
  (seen.filter fun t=>decide (kl t=kl k)).any (fun q=>leafSame (ndAt nodes k.toNat) (ndAt nodes q.toNat))=seen.any fun q=>leafSame (ndAt nodes k.toNat) (ndAt nodes q.toNat):=by
 rw [Bool.eq_iff_iff,List.any_eq_true,List.any_eq_true]
 constructor
 ·rintro⟨q,hq,hs⟩
  exact⟨q,(List.mem_filter.1 hq).1,hs⟩
 ·rintro⟨q,hq,hs⟩
  exact⟨q,List.mem_filter.2 ⟨hq,by simpa using h q hq hs⟩,hs⟩
end Go.Proofs.YtnnnagnjikdnnaaGreatDoor
namespace Go.Proofs.YtnnnagnjikdnnaaGreatDoor
open Go.RowKit
def kindJ (k:Int):Prop:=k=0∨k=1∨k=2∨k=3∨k=5∨k=9∨k=10
structure NodeJ (N:List GNode) (i:Nat) (nd:GNode):Prop where
 kind:kindJ nd.kind
 tx:By nd.text
 len:nd.text.length≤4294967200
 leaf:nd.kind≠9→nd.kind≠10→nd.keys = []∧nd.items = []
 ref:∀y∈refs nd,(i:Int)<y∧y<(N.length:Int)
 key:∀y∈nd.keys,∃nk:GNode,N[y.toNat]? = some nk∧nk.kind=5
def JG (N:List GNode):Prop:=∀(i:Nat) (nd:GNode),N[i]? = some nd→NodeJ N i nd
def Ext (N N':List GNode):Prop:=∀(j:Nat) (nk:GNode),N[j]? = some nk→N'[j]? = some nk
theorem Ext.refl (N:List GNode):Ext N N:=fun _ _ h=>h
theorem Ext.trans {a b c:List GNode} (h:Ext a b) (k:Ext b c):Ext a c:=fun j nk e=>k j nk (h j nk e)
theorem Ext.app (N M:List GNode):Ext N (N ++ M):=fun j nk h=>by
 rw [List.getElem?_append_left (List.getElem?_eq_some_iff.1 h).1];exact h
theorem Ext.len {a b:List GNode} (h:Ext a b):a.length≤b.length:=by
 by_cases e:a.length=0
 ·omega
 ·have h1:=h (a.length - 1) _ (List.getElem?_eq_getElem (by omega))
  have:=(List.getElem?_eq_some_iff.1 h1).1
  omega
theorem NodeJ.ext {N N':List GNode} {i:Nat} {nd:GNode} (h:NodeJ N i nd) (he:Ext N N'):NodeJ N' i nd:=
 ⟨h.kind,h.tx,h.len,h.leaf,fun y hy=>⟨(h.ref y hy).1,by have:=(h.ref y hy).2;have:=he.len;omega⟩,fun y hy=>by
  obtain⟨nk,h1,h2⟩:=h.key y hy
  exact⟨nk,he _ _ h1,h2⟩⟩
theorem JG.snoc {N:List GNode} (h:JG N) {nd:GNode} (hk:kindJ nd.kind) (ht:By nd.text) (hl:nd.text.length≤4294967200) (h1:nd.keys = []) (h2:nd.items = []):JG (N ++ [nd]):=fun i x hx=>by
 by_cases hi:i<N.length
 ·rw [List.getElem?_append_left hi] at hx
  exact(h i x hx).ext (Ext.app _ _)
 ·have hlt:=(List.getElem?_eq_some_iff.1 hx).1
  rw [List.length_append,List.length_singleton] at hlt
  have:i=N.length:=by omega
  subst this
  rw [List.getElem?_append_right (Nat.le_refl _),Nat.sub_self] at hx
  have:nd=x:=by simpa using hx
  subst this
  exact⟨hk,ht,hl,fun _ _=>⟨h1,h2⟩,fun y hy=>by unfold refs at hy;rw [h1,h2] at hy;simp at hy,fun y hy=>by rw [h1] at hy;simp at hy⟩
def ColJ (N:List GNode) (k0:Nat) (keys items:List Int):Prop:=
 (∀y∈keys,((k0:Int)<y∧y<(N.length:Int))∧∃nk:GNode,N[y.toNat]? = some nk∧nk.kind=5)∧∀y∈items,(k0:Int)<y∧y<(N.length:Int)
theorem ColJ.ext {N N':List GNode} {k0:Nat} {ks is_:List Int} (h:ColJ N k0 ks is_) (he:Ext N N'):ColJ N' k0 ks is_:=
 ⟨fun y hy=>⟨⟨(h.1 y hy).1.1,by have:=(h.1 y hy).1.2;have:=he.len;omega⟩,by obtain⟨nk,h1,h2⟩:=(h.1 y hy).2;exact⟨nk,he _ _ h1,h2⟩⟩,fun y hy=>⟨(h.2 y hy).1,by have:=(h.2 y hy).2;have:=he.len;omega⟩⟩
end Go.Proofs.YtnnnagnjikdnnaaGreatDoor
namespace Go.Proofs.YtnnnagnjikdnnaaGreatDoor
open Go.RowKit
structure VE (w:World) (B g o c xb gb vb mb:Nat) (nodes:List GNode) (root:Int):Prop where
 gr:GRd w B g o nodes
 bx:Arr w xb 100 [.slice (some ⟨mb,0,none⟩) nodes.length nodes.length]
 bg:Arr w gb 26 [.slice (some ⟨g,o,none⟩) nodes.length c,.int .i64 root]
 bv:Arr w vb 135 [.func (.func 82) #[] #[.pointer (some ⟨xb,0,none⟩),.pointer (some ⟨gb,0,none⟩),.pointer (some ⟨vb,0,none⟩)]]
 lo:B≤mb
 nx:xb≠mb
 ng:gb≠mb
 nv:vb≠mb
theorem VE.grown {w w':World} {B g o c xb gb vb mb:Nat} {nodes:List GNode} {root:Int} (h:VE w B g o c xb gb vb mb nodes root) (hb:w.grownBy w' (some mb)):VE w' B g o c xb gb vb mb nodes root:=
 ⟨h.gr.grown hb h.lo,h.bx.grown hb (by intro e;exact h.nx (Option.some.inj e)),h.bg.grown hb (by intro e;exact h.ng (Option.some.inj e)),h.bv.grown hb (by intro e;exact h.nv (Option.some.inj e)),h.lo,h.nx,h.ng,h.nv⟩
def VisC (w:World) (mb:Nat) (m:List Bool) (e:Ending) (w':World):Prop:=e=.returned (.tuple #[])∧w.grownBy w' (some mb)∧Hid (Arr w' mb 4 (Bs m))
theorem visitV_len {nodes:List GNode} {f:Nat} {x:Int} {m m':List Bool} (h:visitV nodes f x m=some m') (hl:m.length=nodes.length):m'.length=nodes.length:=by
 induction f generalizing x m m' with
 | zero=>cases h
 | succ f ih=>
  rw [visitV] at h
  split at h
  ·split at h
   ·rw [←Option.some.inj h];exact hl
   ·have run:∀(xs:List Int) (a b:List Bool),runG (visitV nodes f) xs a=some b→a.length=nodes.length→b.length=nodes.length:=by
     intro xs
     induction xs with
     | nil=>intro a b e ha;rw [←Option.some.inj e];exact ha
     | cons y xs ihx=>
      intro a b e ha
      rw [runG] at e
      split at e
      ·cases e
      ·rename_i a1 e1
       exact ihx a1 b e (ih e1 ha)
    split at h
    ·cases h
    ·rename_i m1 e1
     exact run _ _ _ h (run _ _ _ e1 (by rw [List.length_set];exact hl))
  ·cases h
set_option maxRecDepth 20000 in
set_option maxHeartbeats 4000000 in
theorem visit_any {B g o c xb gb vb mb:Nat} {nodes:List GNode} {root:Int} (hI:Idx nodes) (hL:NL 65536 nodes) (f:Nat):∀(k:Nat) (m m':List Bool) (w:World),visitV nodes f (k:Int) m=some m'→m.length=nodes.length →
  VE w B g o c xb gb vb mb nodes root→Arr w mb 4 (Bs m)→Calls Tryz.prog 82 #[.int .i64 (k:Int),.pointer (some ⟨xb,0,none⟩),.pointer (some ⟨gb,0,none⟩),.pointer (some ⟨vb,0,none⟩)] w (VisC w mb m'):=by
 induction f with
 | zero=>intro k m m' w h;cases h
 | succ f ih=>
  intro k m m' w h hl hE hM
  rw [visitV] at h
  split at h
  ·rename_i hin
   obtain⟨_,hk2⟩:=inB_iff.1 hin
   have hk:k<nodes.length:=by omega
   have hkl:(k:Int)<nodes.length:=by omega
   have hk0:(0:Int)≤k:=by omega
   rw [Int.toNat_natCast] at h
   have x0:=hE.bx.cell' (i:=0) rfl
   have m0:=hM.cell' (Bs_get (m:=m) (k:=k) (by omega))
   by_cases hm:m.getD k false=true
   ·rw [if_pos hm] at h
    obtain rfl:=Option.some.inj h
    rw [hm] at m0
    go_enter Tryz.func82,Tryz.ntmps82
    go_wp2_with (fail)
    go_end0
    exact⟨rfl,World.grownBy.refl _ _,hM⟩
   ·rw [if_neg hm] at h
    have hm':m.getD k false=false:=by simpa using hm
    rw [hm'] at m0
    have f0:=hM.frozen k
    have hM1:Hid (Arr (w.setCell ⟨mb,k,none⟩ (.bool true)) mb 4 (Bs (m.set k true))):=by
     have:=hM.store k (.bool true)
     rw [Bs_set] at this
     exact this
    have hg1:=grown_set w ⟨mb,k,none⟩ (.bool true)
    have hE1:=hE.grown hg1
    have HG:=Lib.hid hg1
    go_enter Tryz.func82,Tryz.ntmps82
    go_upto_region 2 with(fail)
    clear m0 f0 x0 hm hm' hg1
    generalize w.setCell ⟨mb,k,none⟩ (.bool true)=w1 at *
    have hlm:(m.set k true).length=nodes.length:=by rw [List.length_set];exact hl
    obtain⟨K,ck,I,ci,c0,c1,c2,c3,c4,⟨hK,hKb⟩,hI',hIb⟩:=hE1.gr.of_at hk
    obtain⟨hKl,hIl⟩:=hL k hk
    have g0:=hE1.bg.cell' (i:=0) rfl
    have hrefs:=Lib.hid (hI k hk)
    have HK:=Lib.hid hK
    have HI:=Lib.hid hI'
    have HKB:=Lib.hid hKb
    have HIB:=Lib.hid hIb
    clear hKb hIb hK hI' c0 c1 c2 hin hk2
    generalize hnd:ndAt nodes k=nd at *
    generalize hmk:m.set k true=m0 at *
    cases hr:runG (visitV nodes f) nd.keys m0 with
    | none=>rw [hr] at h;cases h
    | some mk=>
     rw [hr] at h
     have h2:runG (visitV nodes f) nd.items mk=some m':=h
     have HR:=Lib.hid hr
     have HH:=Lib.hid h2
     have HLM:=Lib.hid hlm
     clear h h2 hr hnd hmk hl hlm
     go_wp2_with (fail)
     go_loopw [23] (fun v wr=>∃(j:Nat) (m1:List Bool),j≤nd.keys.length∧v=.int .i64 (j:Int)∧Hid (runG (visitV nodes f) (nd.keys.drop j) m1=some mk)∧Hid (m1.length=nodes.length)∧Hid (Arr wr mb 4 (Bs m1))∧w1.grownBy wr (some mb)) (fun v _=>nd.keys.length - (intOf v).toNat)
     case atStart=>exact⟨0,m0,Nat.zero_le _,rfl,HR,HLM,hM1,World.grownBy.refl _ _⟩
     case round=>
      obtain⟨j,m1,hj,rfl,hrun,hlm1,hMr,hgr⟩:=hrel
      have hEr:=hE1.grown hgr
      by_cases hjl:j=nd.keys.length
      ·have hjl':¬(j:Int)<nd.keys.length:=by omega
       have hmk:m1=mk:=by
        have:=hrun.out
        rw [List.drop_of_length_le (by omega)] at this
        exact Option.some.inj this
       subst hmk
       have g0':=hEr.bg.cell' (i:=0) rfl
       have hk4:wr.cell? ⟨g,o+k*5+4,none⟩=some (.slice I nd.items.length ci):=hgr.cell c4 (by intro e;have e':g=mb:=Option.some.inj e;have:=hE1.gr.1;have:=hE1.lo;omega)
       have HI2:=Lib.hid (HI.out.grown hgr (fun ad e h=>by have:=HIB.out ad e;have:=Option.some.inj h;have:=hE1.lo;omega))
       clear hrun
       obtain⟨wo,hwo⟩:∃wo:World,wo=wr:=⟨_,rfl⟩
       subst hwo
       go_wp2_with (fail)
       go_loopw [38] (fun v wr=>∃(j:Nat) (m1:List Bool),j≤nd.items.length∧v=.int .i64 (j:Int)∧Hid (runG (visitV nodes f) (nd.items.drop j) m1=some m')∧Hid (m1.length=nodes.length)∧Hid (Arr wr mb 4 (Bs m1))∧wo.grownBy wr (some mb)) (fun v _=>nd.items.length - (intOf v).toNat)
       case atStart=>exact⟨0,m1,Nat.zero_le _,rfl,HH,hlm1,hMr,World.grownBy.refl _ _⟩
       case round=>
        obtain⟨i,m3,hi,rfl,hrun,hlm3,hMs,hgs⟩:=hrel
        have hEs:=hEr.grown hgs
        by_cases hil:i=nd.items.length
        ·have hil':¬(i:Int)<nd.items.length:=by omega
         have hm3:m3=m':=by
          have:=hrun.out
          rw [List.drop_of_length_le (by omega)] at this
          exact Option.some.inj this
         subst hm3
         go_wp2_with (fail)
         go_end0
         exact⟨rfl,grown_trans HG.out (grown_trans hgr hgs),hMs⟩
        ·have hil':(i:Int)<nd.items.length:=by omega
         obtain⟨x,hx⟩:∃x,nd.items[i]? = some x:=⟨_,List.getElem?_eq_getElem (by omega)⟩
         obtain⟨ad,rfl,hc⟩:=(HI2.out.grown hgs (fun ad e h=>by have:=HIB.out ad e;have:=Option.some.inj h;have:=hE1.lo;omega)).at_ (I64_get hx)
         have hxr:=hrefs.out x (by unfold refs;exact List.mem_append.2 (.inr (List.mem_of_getElem? hx)))
         obtain⟨kx,rfl⟩:∃kx:Nat,x=(kx:Int):=⟨x.toNat,by omega⟩
         have hrun':=hrun.out
         rw [drop_cons_at hx,runG] at hrun'
         cases hv:visitV nodes f (kx:Int) m3 with
         | none=>rw [hv] at hrun';cases hrun'
         | some m2=>
          rw [hv] at hrun'
          have HRUN:=Lib.hid hrun'
          have D:=Lib.hid (ih kx m3 m2 wr hv hlm3.out hEs hMs.out)
          have HL2:=Lib.hid (visitV_len hv hlm3.out)
          have v0:=hEs.bv.cell' (i:=0) rfl
          clear hrun hrun' hv hxr hrefs hx
          go_wp2_with (go_at_call 82;((with_reducible refine D.out.mono ?_));rintro e w2 ⟨rfl,hg2,hM2⟩)
          go_roundw
          case rel=>exact⟨i+1,m2,by omega,i64e (by omega),HRUN,HL2,hM2,grown_trans hgs hg2⟩
          case measure=>simp [intOf];omega
      ·have hjl':(j:Int)<nd.keys.length:=by omega
       obtain⟨x,hx⟩:∃x,nd.keys[j]? = some x:=⟨_,List.getElem?_eq_getElem (by omega)⟩
       obtain⟨ad,rfl,hc⟩:=(HK.out.grown hgr (fun ad e h=>by have:=HKB.out ad e;have:=Option.some.inj h;have:=hE1.lo;omega)).at_ (I64_get hx)
       have hxr:=hrefs.out x (by unfold refs;exact List.mem_append.2 (.inl (List.mem_of_getElem? hx)))
       obtain⟨kx,rfl⟩:∃kx:Nat,x=(kx:Int):=⟨x.toNat,by omega⟩
       have hrun':=hrun.out
       rw [drop_cons_at hx,runG] at hrun'
       cases hv:visitV nodes f (kx:Int) m1 with
       | none=>rw [hv] at hrun';cases hrun'
       | some m2=>
        rw [hv] at hrun'
        have HRUN:=Lib.hid hrun'
        have D:=Lib.hid (ih kx m1 m2 wr hv hlm1.out hEr hMr.out)
        have HL2:=Lib.hid (visitV_len hv hlm1.out)
        have v0:=hEr.bv.cell' (i:=0) rfl
        clear hrun hrun' hv hxr hrefs hx
        go_wp2_with (go_at_call 82;((with_reducible refine D.out.mono ?_));rintro e w2 ⟨rfl,hg2,hM2⟩)
        go_roundw
        case rel=>exact⟨j+1,m2,by omega,i64e (by omega),HRUN,HL2,hM2,grown_trans hgr hg2⟩
        case measure=>simp [intOf];omega
  ·cases h
set_option maxRecDepth 20000 in
set_option maxHeartbeats 4000000 in
theorem reached_any {B g o c mb:Nat} {nodes:List GNode} {root:Int} (hI:Idx nodes) (hL:NL 65536 nodes) (k:Nat) (hk:k<nodes.length) (m:List Bool) (w:World) (hl:m.length=nodes.length) (hG:GRd w B g o nodes) (hB:B≤mb) (hM:Arr w mb 4 (Bs m)) :
  Calls Tryz.prog 51 #[.agg #[.slice (some ⟨g,o,none⟩) nodes.length c,.int .i64 root],.int .i64 (k:Int),.slice (some ⟨mb,0,none⟩) nodes.length nodes.length] w (VisC w mb (reachedV nodes (k:Int) m)):=by
 have hv:=(reachedV_ok hI (at_:=(k:Int)) ⟨by omega,by omega⟩ hl).1
 have hmf:∀(fn:Fn) (first cap:Array Value) (w:World),(Instr.makeFunc fn first cap).run Tryz.prog w=.ok (.func fn first cap) w:=fun _ _ _ _=>rfl
 have hml:=hM.lt
 go_enter Tryz.func51,Tryz.ntmps51
 go_upto_region 2 with(fail)
 obtain⟨h1,h2,h3,h4,_⟩:=box3 w 26 100 135 [.slice (some ⟨g,o,none⟩) nodes.length c,.int .i64 root] [.slice (some ⟨mb,0,none⟩) nodes.length nodes.length] [.nilFunc]
 have hX:Hid (Arr (((w.alloc (.cells #[.slice (some ⟨g,o,none⟩) nodes.length c,.int .i64 root] 26)).alloc (.cells #[.slice (some ⟨mb,0,none⟩) nodes.length nodes.length] 100)).alloc (.cells #[.nilFunc] 135)) w.heap.size 26 [.slice (some ⟨g,o,none⟩) nodes.length c,.int .i64 root]):=h1
 have hY:Hid (Arr (((w.alloc (.cells #[.slice (some ⟨g,o,none⟩) nodes.length c,.int .i64 root] 26)).alloc (.cells #[.slice (some ⟨mb,0,none⟩) nodes.length nodes.length] 100)).alloc (.cells #[.nilFunc] 135)) (w.heap.size+1) 100 [.slice (some ⟨mb,0,none⟩) nodes.length nodes.length]):=h2
 have hZ:Hid (Arr (((w.alloc (.cells #[.slice (some ⟨g,o,none⟩) nodes.length c,.int .i64 root] 26)).alloc (.cells #[.slice (some ⟨mb,0,none⟩) nodes.length nodes.length] 100)).alloc (.cells #[.nilFunc] 135)) (w.heap.size+1+1) 135 [.nilFunc]):=h3
 have hB3:Below w.heap.size w (((w.alloc (.cells #[.slice (some ⟨g,o,none⟩) nodes.length c,.int .i64 root] 26)).alloc (.cells #[.slice (some ⟨mb,0,none⟩) nodes.length nodes.length] 100)).alloc (.cells #[.nilFunc] 135)):=h4
 clear h1 h2 h3 h4
 generalize (((w.alloc (.cells #[.slice (some ⟨g,o,none⟩) nodes.length c,.int .i64 root] 26)).alloc (.cells #[.slice (some ⟨mb,0,none⟩) nodes.length nodes.length] 100)).alloc (.cells #[.nilFunc] 135))=W at *
 obtain⟨vb,hvb⟩:∃b,w.heap.size+1+1=b:=⟨_,rfl⟩
 obtain⟨xb,hxb⟩:∃b,w.heap.size+1=b:=⟨_,rfl⟩
 obtain⟨gb,hgb⟩:∃b,w.heap.size=b:=⟨_,rfl⟩
 have l1:mb<gb∧gb<xb∧xb<vb:=by omega
 have hgb0:=Lib.hid hgb
 rw [hvb] at hZ ⊢
 rw [hxb] at hY ⊢
 rw [hgb] at hX ⊢
 have hBL:=Lib.hid hB3
 clear hvb hxb hgb hB3
 obtain⟨l2,l3,l4⟩:=l1
 have z0:=hZ.out.cell' (i:=0) rfl
 have zf:=hZ.out.frozen 0
 have hZ1:Hid (Arr (W.setCell ⟨vb,0,none⟩ (.func (.func 82) #[] #[.pointer (some ⟨xb,0,none⟩),.pointer (some ⟨gb,0,none⟩),.pointer (some ⟨vb,0,none⟩)])) vb 135 [.func (.func 82) #[] #[.pointer (some ⟨xb,0,none⟩),.pointer (some ⟨gb,0,none⟩),.pointer (some ⟨vb,0,none⟩)]]):=hZ.out.store 0 _
 have hX1:=Lib.hid (hX.out.far (p:=⟨vb,0,none⟩) (show gb≠vb by omega) (.func (.func 82) #[] #[.pointer (some ⟨xb,0,none⟩),.pointer (some ⟨gb,0,none⟩),.pointer (some ⟨vb,0,none⟩)]))
 have hY1:=Lib.hid (hY.out.far (p:=⟨vb,0,none⟩) (show xb≠vb by omega) (.func (.func 82) #[] #[.pointer (some ⟨xb,0,none⟩),.pointer (some ⟨gb,0,none⟩),.pointer (some ⟨vb,0,none⟩)]))
 have hB4:=Lib.hid (hBL.out.setCell (p:=⟨vb,0,none⟩) (by show w.heap.size≤vb;rw [hgb0.out];omega) (.func (.func 82) #[] #[.pointer (some ⟨xb,0,none⟩),.pointer (some ⟨gb,0,none⟩),.pointer (some ⟨vb,0,none⟩)]))
 clear hX hY hZ hBL
 go_upto_region 3 with(fail)
 clear z0 zf
 generalize W.setCell ⟨vb,0,none⟩ (.func (.func 82) #[] #[.pointer (some ⟨xb,0,none⟩),.pointer (some ⟨gb,0,none⟩),.pointer (some ⟨vb,0,none⟩)])=W4 at *
 have hE:VE W4 B g o c xb gb vb mb nodes root:=⟨hG.below hB4.out (by omega),hY1.out,hX1.out,hZ1.out,hB,by omega,by omega,by omega⟩
 have D:=Lib.hid (visit_any hI hL (nodes.length+1) k m (reachedV nodes (k:Int) m) W4 hv hl hE (hM.below hB4.out hml))
 have v0:=hZ1.out.cell' (i:=0) rfl
 have hgw:w.grownBy W4 (some mb):=⟨hB4.out.os,hB4.out.tape,hB4.out.output,hB4.out.size,fun j hj _=>hB4.out.block j hj⟩
 clear hv hl hM hE hX1 hY1 hZ1
 go_wp2_with (go_at_call 82;((with_reducible refine D.out.mono ?_));rintro e w5 ⟨rfl,hg5,hM5⟩)
 go_end0
 exact⟨rfl,grown_trans hgw hg5,hM5⟩
end Go.Proofs.YtnnnagnjikdnnaaGreatDoor
