/- A map of slices of integers whose entry is held between look-up and store: 'm[k] = append(m[k], v)' as mapEntry and entryStore. No program is mentioned here. -/
import Derived.Test.YtgbkbgiogdhnaaaGreatDoorMAf
import Derived.WideKeyEntry
import Derived.Maps.OwnRows
import Derived.Test.YtgbkbgiogdhnaaaGreatDoorMAh
import Derived.Maps.Views
import Derived.Test.YtgbkbgiogdhnaaaGreatDoorMBa
import Derived.Deep.DeepCutAuto
import Derived.Test.YtgbkbgiogdhnaaaGreatDoorMAi
import Derived.DeepKeys4
set_option linter.unusedVariables false
set_option linter.unusedSimpArgs false
set_option linter.defProp false
set_option linter.constructorNameAsVariable false
namespace Go.Proofs.YtgbkbgiogdhnaaaGreatDoor
open Go.RowKit Go.Maps Go.WideElems Go.MapKept
open Go.ChangeMaps (setBlock heap_setBlock_same heap_setBlock_other)
open Go.WideMaps (KeyLaw)
section
variable {H:Type} {P:Program} {w w':World} {t k e E:TypeId} {b n base:Nat} {es:Array MapEntry} {clock:Nat} {R:Value→Option (DataW H×List MemPlace)} {q:IntKind} {D:DataW H}
theorem nodup_at {α β:Type} (f:α→β):∀{l:List α} {i j:Nat} {x y:α},(l.map f).Nodup→l[i]? = some x→l[j]? = some y→f x=f y→i=j
 | [],_,_,_,_,_,h,_,_=>by simp at h
 | a :: l,0,0,_,_,_,_,_,_=>rfl
 | a :: l,0,j+1,x,y,hn,h1,h2,he=>by
  simp at h1 h2 hn
  subst h1
  exact absurd he.symm (hn.1 y (List.mem_of_getElem? h2))
 | a :: l,i+1,0,x,y,hn,h1,h2,he=>by
  simp at h1 h2 hn
  subst h2
  exact absurd he (hn.1 x (List.mem_of_getElem? h1))
 | a :: l,i+1,j+1,x,y,hn,h1,h2,he=>by
  simp at h1 h2
  rw [List.map_cons,List.nodup_cons] at hn
  rw [nodup_at f hn.2 h1 h2 he]
theorem mapUpdate_alike (K:KeyLaw P k) (ht:P.underlying t=some (.map k E)) (hb:w.heap[b]? = some (.map es clock)) (hb':w'.heap[b]? = some (.map es clock)) (F:Fit P k R es clock)
  {key val:Value} {kl:Lit} (hkey:keyOf P k key=some kl) {es':Array MapEntry} {clock':Nat} (h:(Instr.mapUpdate t (.map (some b)) key val).run P w=.ok () (setBlock w b (.map es' clock'))) :
  (Instr.mapUpdate t (.map (some b)) key val).run P w'=.ok () (setBlock w' b (.map es' clock')):=by
 have inj:∀{a c:Array MapEntry} {x y:Nat},setBlock w b (.map a x)=setBlock w b (.map c y)→a=c∧x=y:=fun {a c x y} h=>by
  have h1:=heap_setBlock_same hb (.map a x)
  rw [h,heap_setBlock_same hb] at h1
  cases h1
  exact⟨rfl,rfl⟩
 rcases K.find w hkey es.toList F.keys with⟨h1,h2⟩ | ⟨j,e0,h1,h2,h3⟩
 ·rcases K.find w' hkey es.toList F.keys with⟨g1,_⟩ | ⟨j,e0,_,g2,g3⟩
  ·simp [Instr.mapUpdate,run_underlying ht,MapKept.run_getObj_map hb,K.check w false hkey,h1,MapKept.run_setObj_map _ hb,Result.andThen] at h
   obtain⟨r1,r2⟩:=inj h
   simp [Instr.mapUpdate,run_underlying ht,MapKept.run_getObj_map hb',K.check w' false hkey,g1,MapKept.run_setObj_map _ hb',Result.andThen,setBlock,r1,r2]
  ·exact absurd g3 (h2 e0 (List.mem_of_getElem? g2))
 ·rcases K.find w' hkey es.toList F.keys with⟨_,g2⟩ | ⟨j',e0',g1,g2,g3⟩
  ·exact absurd h3 (g2 e0 (List.mem_of_getElem? h2))
  ·have hj:j=j':=nodup_at (·.key) F.stamped.2.2 h2 g2 (h3.trans g3.symm)
   subst hj
   have he:e0=e0':=Option.some.inj (h2.symm.trans g2)
   subst he
   have hj2:es[j]? = some e0:=by simpa using h2
   simp [Instr.mapUpdate,run_underlying ht,MapKept.run_getObj_map hb,K.check w false hkey,h1,hj2,K.stays w hkey,h3,MapKept.run_setObj_map _ hb,Result.andThen] at h
   obtain⟨r1,r2⟩:=inj h
   simp [Instr.mapUpdate,run_underlying ht,MapKept.run_getObj_map hb',K.check w' false hkey,g1,hj2,K.stays w' hkey,g3,MapKept.run_setObj_map _ hb',Result.andThen,setBlock,r1,r2]
theorem setBlock_two (w:World) (b:Nat) (o o':Obj):setBlock (setBlock w b o) b o'=setBlock w b o':=by
 unfold setBlock
 simp
def entryBack (w:World) (P:Program) (t k:TypeId) (base:Nat) (e:TypeId) (q:IntKind) (b n:Nat) (D:DataW H) (kl:Lit) (stamp:Value) (v:Value) (wA:World):Prop:=
 ∀(w1:World) (v':Value) (zs':List Int),wA.grownBy w1 v.ownBlock→w1.ownsInts base e q v' zs'→zs'.length≤n+1→(v'.ownBlock=v.ownBlock∨∃g,v'.ownBlock=some g∧w.heap.size≤g) →
  ∃w2,(Instr.entryStore t (.map (some b)) stamp v').run P w1=.ok () w2∧w2.ownsGroups P k base e q b (n+1) (D.put kl (rowDatum q v' zs'))∧w1.grownBy w2 (some b)
theorem groups_entry (K:KeyLaw P k) (ht:P.underlying t=some (.map k E)) (hz:∀u:World,(zeroValue E).run P u=.ok (.slice none 0 0) u) (h:w.ownsGroups P k base e q b n D) (hn:n<maxLen) {key:Value} {kl:Lit} (hkey:keyOf P k key=some kl) :
  ∃v zs stamp wA,(Instr.mapEntry t (.map (some b)) key).run P w=.ok (.tuple #[v,stamp]) wA∧D.atKey kl .nil=rowDatum q v zs∧wA.ownsInts base e q v zs∧zs.length≤n∧w.grownBy wA (some b)∧wA.heap.size=w.heap.size∧entryBack w P t k base e q b n D kl stamp v wA:=by
 obtain⟨v,zs,hrun,hat,ho,hl,hback⟩:=h.at (Keyed.of_law K) ht (hz w) hn hkey
 obtain⟨es,clock,hb,F,hs,hD,hbb,hlen,hap⟩:=h
 obtain⟨v0,st,es1,clock1,hE,hcase,hS⟩:=entry_then_store K ht hz hb F hkey
 have hblt:b<w.heap.size:=(Array.getElem?_eq_some_iff.1 hb).1
 have hv:v0=v:=by
  rcases fit_look false (Keyed.of_law K) ht (hz w) hb F hkey with⟨h1,h2,_⟩ | ⟨e0,y,hm0,h3,h1,_,_,_⟩
  ·have hv1:v=.slice none 0 0:=by rw [hrun] at h1;simpa using h1
   rcases hcase with⟨e0,hm,hk,_⟩ | ⟨_,rfl⟩
   ·exact absurd hk (h2 e0 hm)
   ·exact hv1.symm
  ·have hv1:v=e0.val:=by rw [hrun] at h1;simpa using h1
   rcases hcase with⟨e1,hm,hk,rfl⟩ | ⟨hno,_⟩
   ·obtain⟨i,hi⟩:=List.getElem?_of_mem hm0
    obtain⟨j,hj⟩:=List.getElem?_of_mem hm
    have:=nodup_at (·.key) F.stamped.2.2 hi hj (h3.trans hk.symm)
    subst this
    rw [Option.some.inj (hi.symm.trans hj)] at hv1
    exact hv1.symm
   ·exact absurd h3 (hno e0 hm0)
 subst hv
 have gA:∀(u:World) (o:Obj),u.grownBy (setBlock u b o) (some b):=fun u o=>⟨rfl,rfl,rfl,by simp [setBlock],fun j hj hne=>by
  have:j≠b:=fun e=>hne (by rw [e])
  simp [setBlock,Ne.symm this]⟩
 have off:∀{u:World} {x:Value} {l:List Int},u.ownsInts base e q x l→x.ownBlock=none∨x.ownBlock≠some b:=fun {u x l} ho=>by
  cases hx:x.ownBlock with
  | none=>exact .inl rfl
  | some g=>
   refine .inr fun e1=>?_
   have:=(ho.1.lt g hx).1
   have:=Option.some.inj e1
   omega
 refine⟨v0,zs,goInt st,_,hE,hat,ho.kept (gA w _) (off ho),hl,gA w _,by simp [setBlock],fun w1 v' zs' hg ho' hl' hloc=>?_⟩
 have hA1:(setBlock w b (.map es1 clock1)).heap[b]? = some (.map es1 clock1):=heap_setBlock_same hb _
 have hne:some b≠v0.ownBlock:=fun e1=>by
  rcases off ho with h | h
  ·rw [h] at e1;cases e1
  ·exact h e1.symm
 have hw1:w1.heap[b]? = some (.map es1 clock1):=(hg.block b (by simpa [setBlock] using hblt) hne).trans hA1
 obtain⟨es',clock',hst,hup⟩:=hS w1 v' hw1
 have hw1':(setBlock w1 b (.map es clock)).heap[b]? = some (.map es clock):=heap_setBlock_same hw1 _
 have hsz:=hg.size
 have hgr:w.grownBy (setBlock w1 b (.map es clock)) v0.ownBlock:=⟨hg.os,hg.tape,hg.output,by simpa [setBlock] using hsz,fun j hj hne'=>by
  by_cases hjb:j=b
  ·subst hjb;rw [hw1',hb]
  ·rw [heap_setBlock_other hw1 _ hjb,hg.block j (by simpa [setBlock] using hj) hne',heap_setBlock_other hb _ hjb]⟩
 obtain⟨w2,hr2,ho2,hg2⟩:=hback _ v' zs' hgr (ho'.kept (gA w1 _) (off ho')) hl' hloc
 have hr3:=mapUpdate_alike K ht hb hw1' F hkey hup
 rw [hr2,setBlock_two] at hr3
 have e2:w2=setBlock w1 b (.map es' clock'):=by simpa using hr3
 subst e2
 exact⟨_,hst,ho2,gA w1 _⟩
theorem wpList_mapEntry_groups (w:World) {ops:Array Oper} {rest:List Oper} {o:Oper} {a:Act} {Q:Exit→Act→World→Prop}
  (hg:o.guard=none) (m x:Operand) (t:TypeId) (hop:o.op=Op.mapEntry t m x) (k E e:TypeId) (q:IntKind) (K:KeyLaw P k) (ht:P.underlying t=some (.map k E)) (hz:∀u:World,(zeroValue E).run P u=.ok (.slice none 0 0) u)
  (base b n:Nat) (D:DataW H) (hm:a.eval m=.map (some b)) (hown:w.ownsGroups P k base e q b n D) (hn:n<maxLen) (key:Value) (kl:Lit) (hx:a.eval x=key) (hkey:keyOf P k key=some kl)
  (hK:∀v zs stamp wA,D.atKey kl .nil=rowDatum q v zs→wA.ownsInts base e q v zs→zs.length≤n→w.grownBy wA (some b)→wA.heap.size=w.heap.size→entryBack w P t k base e q b n D kl stamp v wA→wpList P ops Q rest (a.put o.dst (.tuple #[v,stamp])) wA) :
  wpList P ops Q (o :: rest) a w:=by
 refine wpList_plain hg fun K' hK'=>?_
 obtain⟨v,zs,stamp,wA,hrun,hat,hoi,hzl,hgr,hsz,hback⟩:=groups_entry K ht hz hown hn hkey
 unfold Oper.wp
 simp [execOp,hop,hm,hx,hrun,Result.andThen]
 exact hK' _ _ (hK v zs stamp wA hat hoi hzl hgr hsz hback)
theorem wpList_entryStore_back (w:World) {ops:Array Oper} {rest:List Oper} {o:Oper} {a:Act} {Q:Exit→Act→World→Prop}
  (hg:o.guard=none) (m x v:Operand) (t:TypeId) (hop:o.op=Op.entryStore t m x v)
  {w0 wA:World} {k:TypeId} {base:Nat} {e:TypeId} {q:IntKind} {b n:Nat} {D:DataW H} {kl:Lit} {stamp u v':Value} {zs':List Int}
  (hback:entryBack w0 P t k base e q b n D kl stamp u wA) (hm:a.eval m=.map (some b)) (hx:a.eval x=stamp) (hv:a.eval v=v')
  (hgr:wA.grownBy w u.ownBlock) (hown':w.ownsInts base e q v' zs') (hl':zs'.length≤n+1) (hloc:v'.ownBlock=u.ownBlock∨∃g,v'.ownBlock=some g∧w0.heap.size≤g)
  (hK:∀w2,w2.ownsGroups P k base e q b (n+1) (D.put kl (rowDatum q v' zs'))→w.grownBy w2 (some b)→wpList P ops Q rest (a.put o.dst undef) w2) :
  wpList P ops Q (o :: rest) a w:=by
 refine wpList_plain hg fun K' hK'=>?_
 obtain⟨w2,hrun,r1,r2⟩:=hback w v' zs' hgr hown' hl' hloc
 unfold Oper.wp
 simp [execOp,hop,hm,hx,hv,hrun,Result.andThen]
 exact hK' _ _ (hK w2 r1 r2)
theorem ints_shape {v:Value} {zs:List Int} (h:w.ownsInts base e q v zs):∃A cap,v=.slice A zs.length cap∧Rd w A (zs.map (Value.int q))∧From base A:=by
 obtain⟨h1,⟨rfl,h2⟩ | ⟨g,cap,cur,rfl,hb,hg,hn,hc,hs,ht⟩⟩:=h.1
 ·have:zs = []:=List.length_eq_zero_iff.1 h2
  subst this
  exact⟨none,0,rfl,fun j u hj=>by simp at hj,fun ad he=>by cases he⟩
 ·refine⟨some ⟨g,0,none⟩,cap,rfl,fun j u hj=>⟨_,rfl,?_⟩,fun ad he=>by cases he;exact hb⟩
  have hA:Arr w g e cur.toList:=by unfold Arr;rw [hg]
  rw [←ht,List.getElem?_take] at hj
  have hj2:cur.toList[j]? = some u:=by
   split at hj
   ·exact hj
   ·cases hj
  have:=hA.cell' (i:=j) hj2
  cases j with
  | zero=>simpa [Addr.add] using this
  | succ j=>simpa [Addr.add] using this
end
end Go.Proofs.YtgbkbgiogdhnaaaGreatDoor
namespace Go.Proofs.YtgbkbgiogdhnaaaGreatDoor
open Go.RowKit Go.Maps
open Go.ChangeShapes
def itsOf {H:Type}:DataW H→List Int
 | .slice es _=>es.map fun | .lit (.int _ n)=>n | _=>0
 | _=>[]
theorem itsOf_row {H:Type} {w:World} {base:Nat} {e:TypeId} {q:IntKind} {v:Value} {zs:List Int} (h:w.ownsInts base e q v zs):itsOf (rowDatum (H:=H) q v zs)=zs:=by
 rcases h.datum (H:=H) with⟨h1,rfl⟩ | h1
 ·rw [h1];rfl
 ·rw [h1]
  show(ChangeShapes.lits q zs).map _=zs
  unfold ChangeShapes.lits
  rw [List.map_map]
  conv=>rhs;rw [←List.map_id zs]
  exact List.map_congr_left fun a _=>rfl
open Classical in
def GrpR {H:Type} (D:DataW H) (kl:Int→Lit) (seen:List Int):Prop:=IsMap D∧∀x,itsOf (D.atKey (kl x) .nil)=seen.filter fun s=>decide (kl s=kl x)
open Classical in
theorem GrpR.nil {H:Type} (kl:Int→Lit):GrpR (.map []:DataW H) kl []:=⟨isMap_empty,fun _=>rfl⟩
open Classical in
theorem GrpR.put {H:Type} {D:DataW H} {kl:Int→Lit} {seen:List Int} (h:GrpR D kl seen) {s:Int} (hk:WideAt.IsKeyLit (kl s)) {w:World} {base:Nat} {e:TypeId} {q:IntKind} {v:Value} {zs:List Int}
  (ho:w.ownsInts base e q v zs) (hz:zs=(seen.filter fun t=>decide (kl t=kl s)) ++ [s]):GrpR (D.put (kl s) (rowDatum q v zs)) kl (seen ++ [s]):=by
 refine⟨h.1.put _ _,fun x=>?_⟩
 rw [List.filter_append]
 by_cases hx:kl x=kl s
 ·rw [hx,atKey_put_same h.1 hk,itsOf_row ho,hz]
  simp
 ·rw [atKey_put_other hx,h.2 x]
  have:(List.filter (fun t=>decide (kl t=kl x)) [s]) = []:=by simp [Ne.symm hx]
  rw [this,List.append_nil]
def leafSame (a b:GNode):Bool:=decide (a.kind=b.kind) && decide (a.text=b.text) && (a.ord == b.ord)
def dupF (nodes:List GNode):List Int→List Int→Bool
 | _,[]=>false
 | seen,k :: ks=>seen.any (fun q=>leafSame (ndAt nodes k.toNat) (ndAt nodes q.toNat)) || dupF nodes (seen ++ [k]) ks
def twiceV (nodes:List GNode):Bool:=nodes.any fun nd=>dupF nodes [] nd.keys
open Classical in
theorem dup_group {nodes:List GNode} {kl:Int→Lit} {seen:List Int} {k:Int} (h:∀q∈seen,leafSame (ndAt nodes k.toNat) (ndAt nodes q.toNat)=true→kl q=kl k) :
  (seen.filter fun t=>decide (kl t=kl k)).any (fun q=>leafSame (ndAt nodes k.toNat) (ndAt nodes q.toNat))=seen.any fun q=>leafSame (ndAt nodes k.toNat) (ndAt nodes q.toNat):=by
 rw [Bool.eq_iff_iff,List.any_eq_true,List.any_eq_true]
 constructor
 ·rintro⟨q,hq,hs⟩
  exact⟨q,(List.mem_filter.1 hq).1,hs⟩
 ·rintro⟨q,hq,hs⟩
  exact⟨q,List.mem_filter.2 ⟨hq,by simpa using h q hq hs⟩,hs⟩
end Go.Proofs.YtgbkbgiogdhnaaaGreatDoor
namespace Go.Proofs.YtgbkbgiogdhnaaaGreatDoor
open Go.RowKit
def Leaf (nd:GNode):Prop:=nd.keys = []∧nd.items = []
set_option maxRecDepth 20000 in
set_option maxHeartbeats 4000000 in
theorem same_leaf {B g o c:Nat} {nodes:List GNode} {root:Int} (x y:Nat) (hx:x<nodes.length) (hy:y<nodes.length) (hlx:Leaf (ndAt nodes x)) (hly:Leaf (ndAt nodes y)) (htx:By (ndAt nodes x).text) (hty:By (ndAt nodes y).text) (w:World) (hG:GRd w B g o nodes) :
  Calls Tryz.prog 95 #[.agg #[.slice (some ⟨g,o,none⟩) nodes.length c,.int .i64 root],.int .i64 (x:Int),.int .i64 (y:Int)] w fun e w'=>e=.returned (.bool (leafSame (ndAt nodes x) (ndAt nodes y)))∧Below w.heap.size w w':=by
 have h1:Hid (Arr (w.alloc (.cells #[.slice (some ⟨g,o,none⟩) nodes.length c,.int .i64 root] 29)) w.heap.size 29 [.slice (some ⟨g,o,none⟩) nodes.length c,.int .i64 root]):=Arr.new w 29 [.slice (some ⟨g,o,none⟩) nodes.length c,.int .i64 root]
 have hB1:Hid (Below w.heap.size w (w.alloc (.cells #[.slice (some ⟨g,o,none⟩) nodes.length c,.int .i64 root] 29))):=(Below.refl _ _).alloc (Nat.le_refl _) _
 have HG:=Lib.hid hG
 clear hG
 have ht:=eq_mks htx hty
 have HT:=Lib.hid ht
 clear ht
 obtain⟨hkx,hix⟩:=hlx
 obtain⟨hky,hiy⟩:=hly
 generalize hV:leafSame (ndAt nodes x) (ndAt nodes y)=V
 unfold leafSame at hV
 go_enter Tryz.func95,Tryz.ntmps95
 go_upto_region 1 with(fail)
 generalize w.alloc (.cells #[.slice (some ⟨g,o,none⟩) nodes.length c,.int .i64 root] 29)=W at *
 have hGW:=HG.out.below hB1.out HG.out.2.1
 obtain⟨K1,ck1,I1,ci1,a0,a1,a2,a3,a4,_⟩:=hGW.of_at hx
 obtain⟨K2,ck2,I2,ci2,c0,c1,c2,c3,c4,_⟩:=hGW.of_at hy
 rw [hkx] at a3
 rw [hix] at a4
 rw [hky] at c3
 rw [hiy] at c4
 have HV:=Lib.hid hV
 clear hV hkx hix hky hiy htx hty hGW
 generalize ndAt nodes x=A at *
 generalize ndAt nodes y=C at *
 obtain⟨n,hn⟩:∃n,nodes.length=n:=⟨_,rfl⟩
 obtain⟨gb,hgb⟩:∃b,w.heap.size=b:=⟨_,rfl⟩
 have hgbl:=h1.out.lt
 rw [hgb] at h1 hgbl hB1 ⊢
 rw [hn] at h1 hx hy ⊢
 have HGB:=Lib.hid hgb
 have g0:=h1.out.cell' (i:=0) rfl
 clear hn hgb
 have kx0:(0:Int)≤x:=by omega
 have kx1:(x:Int)<n:=by omega
 have ky0:(0:Int)≤y:=by omega
 have ky1:(y:Int)<n:=by omega
 have hgl:g<W.heap.size:=by have:=HG.out.1;have:=HG.out.2.1;have:=hB1.out.size;omega
 have hal:Below W.heap.size W (W.alloc (.cells #[.int .i64 0,.string ⟨#[]⟩,.bool false,.slice none 0 0,.slice none 0 0] 43)):=(Below.refl _ _).alloc (Nat.le_refl _) _
 have hal2:Below W.heap.size W ((W.alloc (.cells #[.int .i64 0,.string ⟨#[]⟩,.bool false,.slice none 0 0,.slice none 0 0] 43)).alloc (.cells #[.int .i64 0,.string ⟨#[]⟩,.bool false,.slice none 0 0,.slice none 0 0] 43)):=hal.alloc (by simp) _
 have a01:=(hal.cell (by exact hgl)).trans a0
 have c01:=(hal.cell (by exact hgl)).trans c0
 have a02:=(hal2.cell (by exact hgl)).trans a0
 have c02:=(hal2.cell (by exact hgl)).trans c0
 have a11:=(hal.cell (by exact hgl)).trans a1
 have c11:=(hal.cell (by exact hgl)).trans c1
 have a12:=(hal2.cell (by exact hgl)).trans a1
 have c12:=(hal2.cell (by exact hgl)).trans c1
 have a21:=(hal.cell (by exact hgl)).trans a2
 have c21:=(hal.cell (by exact hgl)).trans c2
 have a22:=(hal2.cell (by exact hgl)).trans a2
 have c22:=(hal2.cell (by exact hgl)).trans c2
 have a31:=(hal.cell (by exact hgl)).trans a3
 have c31:=(hal.cell (by exact hgl)).trans c3
 have a32:=(hal2.cell (by exact hgl)).trans a3
 have c32:=(hal2.cell (by exact hgl)).trans c3
 have a41:=(hal.cell (by exact hgl)).trans a4
 have c41:=(hal.cell (by exact hgl)).trans c4
 have a42:=(hal2.cell (by exact hgl)).trans a4
 have c42:=(hal2.cell (by exact hgl)).trans c4
 have g01:=(hal.cell (by exact hgbl)).trans g0
 have g02:=(hal2.cell (by exact hgbl)).trans g0
 have n1:g≠W.heap.size:=by omega
 have n2:g≠W.heap.size+1:=by omega
 have n3:gb≠W.heap.size:=by omega
 have n4:gb≠W.heap.size+1:=by omega
 simp only [List.length_nil] at a3 a4 c3 c4 a31 a41 c31 c41 a32 a42 c32 c42
 go_cut [7,8] (fun p q wx=>∃b d:Nat,p=.pointer (some ⟨b,0,none⟩)∧q=.pointer (some ⟨d,0,none⟩)∧Hid (Arr wx b 43 [.int .i64 A.kind,.string (mks A.text),.bool A.ord,.slice K1 0 ck1,.slice I1 0 ci1])∧Hid (Arr wx d 43 [.int .i64 C.kind,.string (mks C.text),.bool C.ord,.slice K2 0 ck2,.slice I2 0 ci2])∧Below W.heap.size W wx)
 case first=>
  go_region
  ·obtain⟨P,Q,R,_⟩:=box2 W 43 43 [.int .i64 A.kind,.string (mks A.text),.bool A.ord,.slice K1 0 ck1,.slice I1 0 ci1] [.int .i64 C.kind,.string (mks C.text),.bool C.ord,.slice K2 0 ck2,.slice I2 0 ci2]
   go_wp2_with (fail)
   go_meet
   exact⟨_,_,rfl,rfl,P,Q,R.drew⟩
  ·obtain⟨P,Q,R,_⟩:=box2 W 43 43 [.int .i64 C.kind,.string (mks C.text),.bool C.ord,.slice K2 0 ck2,.slice I2 0 ci2] [.int .i64 A.kind,.string (mks A.text),.bool A.ord,.slice K1 0 ck1,.slice I1 0 ci1]
   go_wp2_with (fail)
   go_meet
   exact⟨_,_,rfl,rfl,Q,P,R.drew⟩
 case rest=>
  obtain⟨b,d,rfl,rfl,hP,hQ,hR⟩:=hcut
  obtain⟨W2,hW2⟩:∃x,x=wc:=⟨_,rfl⟩
  subst hW2
  clear a0 a01 a02 a1 a11 a12 a2 a21 a22 a3 a31 a32 a4 a41 a42 c0 c01 c02 c1 c11 c12 c2 c21 c22 c3 c31 c32 c4 c41 c42 g0 g01 g02 n1 n2 n3 n4 hal hal2
  have hBf:=Lib.hid (hB1.out.trans (hR.mono (by omega)))
  have s0:=hP.out.cell' (i:=0) rfl
  have r0:=hQ.out.cell' (i:=0) rfl
  have s1:=hP.out.cell' (i:=1) rfl
  have r1:=hQ.out.cell' (i:=1) rfl
  have s2:=hP.out.cell' (i:=2) rfl
  have r2:=hQ.out.cell' (i:=2) rfl
  have s3:=hP.out.cell' (i:=3) rfl
  have r3:=hQ.out.cell' (i:=3) rfl
  have s4:=hP.out.cell' (i:=4) rfl
  have r4:=hQ.out.cell' (i:=4) rfl
  have hVV:=HV.out
  have hTT:=HT.out
  clear HV HT
  by_cases ek:A.kind=C.kind
  ·rw [←ek] at r0 hVV
   by_cases et:A.text=C.text
   ·rw [←et] at r1 hVV
    clear ek et hTT
    cases eo:A.ord with
    | true=>
     cases eo':C.ord with
     | true=>
      have hv:V=true:=by rw [←hVV,eo,eo'];simp
      rw [eo] at s2
      rw [eo'] at r2
      subst hv
      clear hVV eo eo'
      generalize A.kind=kd at *
      by_cases e10:kd=10
      all_goals
       try subst e10
       go_wp2_with (fail)
       refine wp_loop_rounds 1 ?_
       rw [rounds_succ]
       go_wp2_with (fail)
       go_ret
       exact⟨rfl,by rw [HGB.out];exact hBf.out⟩
     | false=>
      have hv:V=false:=by rw [←hVV,eo,eo'];simp
      rw [eo] at s2
      rw [eo'] at r2
      subst hv
      clear hVV eo eo'
      go_wp2_with (fail)
      go_ret
      exact⟨rfl,by rw [HGB.out];exact hBf.out⟩
    | false=>
     cases eo':C.ord with
     | true=>
      have hv:V=false:=by rw [←hVV,eo,eo'];simp
      rw [eo] at s2
      rw [eo'] at r2
      subst hv
      clear hVV eo eo'
      go_wp2_with (fail)
      go_ret
      exact⟨rfl,by rw [HGB.out];exact hBf.out⟩
     | false=>
      have hv:V=true:=by rw [←hVV,eo,eo'];simp
      rw [eo] at s2
      rw [eo'] at r2
      subst hv
      clear hVV eo eo'
      generalize A.kind=kd at *
      by_cases e10:kd=10
      all_goals
       try subst e10
       go_wp2_with (fail)
       refine wp_loop_rounds 1 ?_
       rw [rounds_succ]
       go_wp2_with (fail)
       go_ret
       exact⟨rfl,by rw [HGB.out];exact hBf.out⟩
   ·have hv:V=false:=by rw [←hVV];simp [et]
    subst hv
    rw [decide_eq_false et] at hTT
    have k1:¬(mks A.text).toList=(mks C.text).toList:=by simpa using hTT
    clear hVV ek et
    go_wp2_with (fail)
    go_ret
    exact⟨rfl,by rw [HGB.out];exact hBf.out⟩
  ·have hv:V=false:=by rw [←hVV];simp [ek]
   subst hv
   clear hVV hTT
   go_wp2_with (fail)
   go_ret
   exact⟨rfl,by rw [HGB.out];exact hBf.out⟩
end Go.Proofs.YtgbkbgiogdhnaaaGreatDoor
namespace Go.Proofs.YtgbkbgiogdhnaaaGreatDoor
open Go.RowKit
open Go.WideMaps (KeyLaw)
def stepFields (P:Program) (t:TypeId):Array Field:=match P.underlying t with | some (.struct fs)=>fs | _=>#[]
theorem under_step:Tryz.prog.underlying 156=some (.struct (stepFields Tryz.prog 156)):=by kernel_rfl
theorem step_fields:(stepFields Tryz.prog 156).toList.map (fun f=>(f.name != "_",f.type,f.offset)) = [(true,3,0),(true,9,1)]:=by kernel_rfl
theorem step_law:KeyLaw Tryz.prog 156:=
 deep_law_laid (m:=3) (by kernel_rfl) (by omega) (of_decide_eq_true (by kernel_rfl)) (by kernel_rfl) (by rw [under_step])
theorem keyOf_two {P:Program} {k i j:TypeId} {fs:Array Field} (hu:P.underlying k=some (.struct fs)) (h0:fs.toList.map (fun f=>(f.name != "_",f.type,f.offset)) = [(true,i,0),(true,j,1)])
  (hc:P.cellsOf k=2) (hci:P.cellsOf i=1) (hcj:P.cellsOf j=1) (ui:P.underlying i=some (.int .i64)) (uj:P.underlying j=some .string) (hkt:P.keyType k=true) (hs1:1≤P.types.size)
  (a:Int) (s:ByteArray) (ha:(Lit.int .i64 a).wf=true) (hs:s.size≤maxLen):∃kl,keyOf P k (.agg #[.int .i64 a,.string s])=some kl:=by
 obtain⟨m,hm⟩:∃m,P.types.size+1=m+2:=⟨P.types.size - 1,by omega⟩
 obtain⟨l⟩:=fs
 have hl2:l.length=2:=by have:=congrArg List.length h0;simpa using this
 obtain⟨f,g,rfl⟩:=(show ∃f g,l = [f,g] from match l,hl2 with | [f,g],_=>⟨f,g,rfl⟩)
 ·simp only [List.map_cons,List.map_nil,List.cons.injEq,Prod.mk.injEq,and_true] at h0
  obtain⟨⟨f1,f2,f3⟩,g1,g2,g3⟩:=h0
  unfold keyOf
  rw [hu,hkt,hm]
  simp only [Value.formed,hu,Value.cells]
  simp [Program.keyLits,hu,hc,f1,f2,f3,g1,g2,g3,hci,hcj,ui,uj,ha,hs]
theorem step_key (a:Int) (s:ByteArray) (ha:(Lit.int .i64 a).wf=true) (hs:s.size≤maxLen):∃kl,keyOf Tryz.prog 156 (.agg #[.int .i64 a,.string s])=some kl:=
 keyOf_two under_step step_fields (by kernel_rfl) (by kernel_rfl) (by kernel_rfl) (by kernel_rfl) (by kernel_rfl) (by kernel_rfl) (of_decide_eq_true (by kernel_rfl)) a s ha hs
theorem groups_lt {H:Type} {P:Program} {w:World} {k:TypeId} {base:Nat} {e:TypeId} {q:IntKind} {b n:Nat} {D:DataW H} (h:w.ownsGroups P k base e q b n D):b<w.heap.size:=by
 obtain⟨es,clock,hb,_⟩:=h
 exact(Array.getElem?_eq_some_iff.1 hb).1
theorem zero_ints (u:World):(zeroValue 41).run Tryz.prog u=.ok (.slice none 0 0) u:=by kernel_rfl
end Go.Proofs.YtgbkbgiogdhnaaaGreatDoor
