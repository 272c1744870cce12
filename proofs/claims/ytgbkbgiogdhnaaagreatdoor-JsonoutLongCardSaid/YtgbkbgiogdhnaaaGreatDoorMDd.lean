/- Plain: the normal form of a graph, given the order of each node's entries. No program is mentioned here. -/
import Derived.Test.YtgbkbgiogdhnaaaGreatDoorMAh
import Derived.Test.YtgbkbgiogdhnaaaGreatDoorMBa
import Derived.Test.YtgbkbgiogdhnaaaGreatDoorMCi
import Derived.Test.YtgbkbgiogdhnaaaGreatDoorMBb
import Derived.Test.YtgbkbgiogdhnaaaGreatDoorMAj
import Derived.Test.YtgbkbgiogdhnaaaGreatDoorMCa
import Derived.Test.YtgbkbgiogdhnaaaGreatDoorMBf
import Derived.Deep.CutRange
import Derived.Recover
import Derived.Defers
import Derived.StillTailTactics
import Derived.Test.YtgbkbgiogdhnaaaGreatDoorMBd
set_option linter.unusedVariables false
set_option linter.unusedSimpArgs false
set_option linter.defProp false
set_option linter.constructorNameAsVariable false
namespace Go.Proofs.YtgbkbgiogdhnaaaGreatDoor
open Go.RowKit
structure NSt where
 at_:List Int
 cnt:Nat
 out:List GNode
def loopN (v:Int→NSt→Option (Int×NSt)) (nd:GNode):List Int→List Int×List Int×NSt→Option (List Int×List Int×NSt)
 | [],x=>some x
 | k :: r,(ks,is,s)=>
  match (if nd.kind=10 then (v (nd.keys.getD k.toNat 0) s).map (fun p=>(ks ++ [p.1],p.2)) else some (ks,s)) with
  | none=>none
  | some (ks',s')=>match v (nd.items.getD k.toNat 0) s' with
   | none=>none
   | some (i,s'')=>loopN v nd r (ks',is ++ [i],s'')
def visitN (nodes:List GNode) (ent:Nat→List Int):Nat→Int→NSt→Option (Int×NSt)
 | 0,_,_=>none
 | f+1,k,s=>
  if 0≤s.at_.getD k.toNat 0 then some (s.at_.getD k.toNat 0,s)
  else match loopN (visitN nodes ent f) (ndAt nodes k.toNat) (ent k.toNat) ([],[],{ s with at_:=s.at_.set k.toNat s.cnt,cnt:=s.cnt+1 }) with
   | none=>none
   | some (ks,is,s')=>some ((s.cnt:Int),{ s' with out:=s'.out.set s.cnt ⟨(ndAt nodes k.toNat).kind,(ndAt nodes k.toNat).text,(ndAt nodes k.toNat).ord,ks,is⟩ })
def nd0:GNode:=⟨0,[],false,[],[]⟩
end Go.Proofs.YtgbkbgiogdhnaaaGreatDoor
namespace Go.Proofs.YtgbkbgiogdhnaaaGreatDoor
open Go.RowKit
theorem sizeInt:(Tryz.prog.info? 3).map (·.size)=some 1:=by kernel_rfl
theorem I64_one (xs:List Int):∀v∈I64 xs,v.oneCell'=true:=by
 intro v hv
 unfold I64 at hv
 obtain⟨x,_,rfl⟩:=List.mem_map.1 hv
 rfl
theorem len_I64 (xs:List Int):(I64 xs).length=xs.length:=by simp [I64]
def shF (d:Nat) (xs:List Int) (i:Nat):List Int:=(xs.take i).map (· + (d:Int)) ++ xs.drop i
theorem shF_zero (d:Nat) (xs:List Int):shF d xs 0=xs:=by simp [shF]
theorem shF_all (d:Nat) (xs:List Int) {n:Nat} (h:xs.length=n):shF d xs n=xs.map (· + (d:Int)):=by subst h;simp [shF]
theorem shF_get {d:Nat} {xs:List Int} {i:Nat} {x:Int} (h:xs[i]? = some x):(shF d xs i)[i]? = some x:=by
 have hi:=(List.getElem?_eq_some_iff.1 h).1
 unfold shF
 rw [List.getElem?_append_right (by simp;omega)]
 simp [Nat.min_eq_left (Nat.le_of_lt hi),h]
theorem shF_set {d:Nat} {xs:List Int} {i:Nat} {x:Int} (h:xs[i]? = some x):(shF d xs i).set i (x+(d:Int))=shF d xs (i+1):=by
 have hi:=(List.getElem?_eq_some_iff.1 h).1
 have hl:((xs.take i).map (· + (d:Int))).length=i:=by simp;omega
 unfold shF
 rw [List.set_append_right _ _ (by omega),hl,Nat.sub_self,drop_cons_at h,List.set_cons_zero,List.take_add_one,h]
 simp
set_option maxRecDepth 20000 in
set_option maxHeartbeats 4000000 in
theorem shifted_any (A:Option Addr) (c d:Nat) (xs:List Int) (hl:xs.length≤65536) (hd:d≤65536) (hx:∀x∈xs,0≤x∧x<65536) (w:World) (hr:Rd w A (I64 xs)) :
  Calls Tryz.prog 82 #[.slice A xs.length c,.int .i64 (d:Int)] w fun e w'=>∃ob,e=.returned (.slice (some ⟨ob,0,none⟩) xs.length xs.length)∧w.heap.size≤ob∧Below w.heap.size w w'∧Hid (Arr w' ob 3 (I64 (xs.map (· + (d:Int))))):=by
 obtain⟨n,hn⟩:∃n,xs.length=n:=⟨_,rfl⟩
 have HN:=Lib.hid hn
 have HR:=Lib.hid hr
 have HX:=Lib.hid hx
 rw [hn] at hl ⊢
 clear hn hr hx
 go_enter Tryz.func82,Tryz.ntmps82
 go_upto_region 2 with(at_make;go_loud (refine wpList_mk rfl _ _ 41 rfl 3 _ _ Tryz.underlying41 infoInt rfl _ _ _ _ rfl rfl n n (by omega) (by omega) (by omega) (by omega) (by unfold maxLen;omega) ?_;intro ob w2 hob hO hb2 hz2))
 have HR2:=Lib.hid (HR.out.keep hb2)
 have hol:(List.replicate n (Value.int .i64 0)).length=n:=List.length_replicate
 have hsl:(I64 xs).length=n:=by rw [len_I64];exact HN.out
 go_upto_region 3 with((with_reducible refine wpList_cp rfl (.tmp 10) (.tmp 11) 41 41 rfl 3 Tryz.underlying41 sizeInt ob n n n c A rfl rfl _ _ hO.out (by omega) (I64 xs) HR2.out hsl (Nat.le_refl _) (I64_one _) ?_;intro w3 hO3 hg3 hz3))
 have hb3:Hid (Below w.heap.size w w3):=below_row hb2 hg3 (by have:=hb2.size;omega) (by have:=hob.out;omega)
 have hA0:Hid (Arr w3 ob 3 (I64 (shF d xs 0))):=by
  have h:=hO3.out
  rw [List.drop_of_length_le (by omega),List.append_nil] at h
  rw [shF_zero]
  exact h
 obtain⟨gb,hgb⟩:∃b,w.heap.size=b:=⟨_,rfl⟩
 rw [hgb] at hb3 hob
 have HGB:=Lib.hid hgb
 have hob2:gb≤ob:=by have:=hob.out;omega
 clear hO hO3 HR2 HR hb2 hz2 hg3 hz3 hol hsl hgb hob
 go_wp2_with (fail)
 go_loopw [15] (fun v wr=>∃(i:Nat),i≤n∧v=.int .i64 (i:Int)∧Hid (Arr wr ob 3 (I64 (shF d xs i)))∧Hid (Below gb w wr)) (fun v _=>n - (intOf v).toNat)
 case atStart=>exact⟨0,Nat.zero_le _,rfl,hA0,hb3⟩
 case round=>
  obtain⟨i,hi,rfl,hAr,hBr⟩:=hrel
  by_cases hin:i=n
  ·have hin':¬(i:Int)<n:=by omega
   have hF:=hAr
   rw [hin,shF_all d xs HN.out] at hF
   go_wp2_with (fail)
   go_ret
   exact⟨ob,rfl,by rw [HGB.out];exact hob2,by rw [HGB.out];exact hBr.out,hF⟩
  ·have hin':(i:Int)<n:=by omega
   have hi0:(0:Int)≤i:=by omega
   obtain⟨x,hxi⟩:∃x,xs[i]? = some x:=⟨_,List.getElem?_eq_getElem (by have:=HN.out;omega)⟩
   obtain⟨hx0,hx1⟩:=HX.out x (List.mem_of_getElem? hxi)
   have c0:=hAr.out.cell' (I64_get (shF_get (d:=d) hxi))
   have f0:=hAr.out.frozen i
   have hA2:Hid (Arr (wr.setCell ⟨ob,i,none⟩ (.int .i64 (x+(d:Int)))) ob 3 (I64 (shF d xs (i+1)))):=by
    have h:=hAr.out.store i (.int .i64 (x+(d:Int)))
    rw [I64_set,shF_set hxi] at h
    exact h
   have hB2:=Lib.hid (hBr.out.setCell (p:=⟨ob,i,none⟩) hob2 (.int .i64 (x+(d:Int))))
   clear hAr hBr hxi hA0 hb3
   go_wp2_with (fail)
   go_roundw
   case rel=>exact⟨i+1,by omega,i64e (by omega),hA2,hB2⟩
   case measure=>simp [intOf];omega
end Go.Proofs.YtgbkbgiogdhnaaaGreatDoor
namespace Go.Proofs.YtgbkbgiogdhnaaaGreatDoor
open Go.RowKit
/-! ### The brackets -/
end Go.Proofs.YtgbkbgiogdhnaaaGreatDoor
namespace Go.Proofs.YtgbkbgiogdhnaaaGreatDoor
open Go.RowKit
theorem node_cells {ncs:List Value} {k:Nat} {a b c d e:Value} (h:(ncs.drop (k*5)).take 5 = [a,b,c,d,e]):ncs[k*5]? = some a∧ncs[k*5+1]? = some b∧ncs[k*5+2]? = some c∧ncs[k*5+3]? = some d∧ncs[k*5+4]? = some e:=by
 have g:∀j,j<5→ncs[k*5+j]? = [a,b,c,d,e][j]?:=fun j hj=>by rw [←h,List.getElem?_take_of_lt hj,List.getElem?_drop]
 exact⟨g 0 (by omega),g 1 (by omega),g 2 (by omega),g 3 (by omega),g 4 (by omega)⟩
end Go.Proofs.YtgbkbgiogdhnaaaGreatDoor
namespace Go.Proofs.YtgbkbgiogdhnaaaGreatDoor
open Go.RowKit
inductive InnT (toks:List JTok) (nd:GNode):Prop
 | leaf (t:JTok):toks = [t]→t.kind≠1→scalarV t=some nd→InnT toks nd
 | list (t t2:JTok):toks = [t,t2]→t.kind=1→t.text = [91]→t2.kind=1→t2.text = [93]→nd=⟨9,[],false,[],[]⟩→InnT toks nd
 | map (t t2:JTok):toks = [t,t2]→t.kind=1→t.text = [123]→t2.kind=1→t2.text = [125]→nd=⟨10,[],false,[],[]⟩→InnT toks nd
def Begs (t:JTok):Prop:=¬(t.kind=1∧¬t.text = [91]∧¬t.text = [123])
theorem InnT.head {toks:List JTok} {nd:GNode} (h:InnT toks nd):∃t r,toks=t :: r∧Begs t:=by
 cases h with
 | leaf t h1 h2 h3=>exact⟨t,[],h1,fun h=>h2 h.1⟩
 | list t t2 h1 h2 h3 h4 h5 h6=>exact⟨t,[t2],h1,fun h=>h.2.1 h3⟩
 | map t t2 h1 h2 h3 h4 h5 h6=>exact⟨t,[t2],h1,fun h=>h.2.2 h3⟩
theorem isV_yes {t:JTok} {r:List JTok} {c:List Nat} (h1:t.kind=1) (h2:t.text=c):isV (t :: r) c=true:=decide_eq_true ⟨h1,h2⟩
theorem isV_no {t:JTok} {r:List JTok} {c:List Nat} (h:¬(t.kind=1∧t.text=c)):isV (t :: r) c=false:=decide_eq_false h
theorem Begs.no {t:JTok} (h:Begs t) {c:Nat} (hc:c=93∨c=125) (r:List JTok):isV (t :: r) [c]=false:=isV_no fun hh=>h ⟨hh.1,by rw [hh.2];intro e;injection e with e;omega,by rw [hh.2];intro e;injection e with e;omega⟩
theorem set_snoc (N:List GNode) (a b:GNode) (r:List GNode):(N ++ a :: r).set N.length b=N ++ b :: r:=by
 rw [List.set_append_right (h:=Nat.le_refl _),Nat.sub_self];rfl
theorem InnT.value {toks:List JTok} {nd:GNode} (h:InnT toks nd) (en f:Nat) (N:List GNode) (S:List JSpan) (s:JSpan) (d:Nat) (rest:List JTok) (hd:d≤32) (hN:N.length<4096) :
  ∃S',valueV en (f+2) ⟨toks ++ rest,N,S⟩ s d=.ok ((N.length:Int),⟨rest,N ++ [nd],S'⟩):=by
 cases h with
 | leaf t h1 h2 h3=>
  subst h1
  rw [List.singleton_append,valueV]
  simp only
  rw [if_neg (fun h=>h2 h.1),if_neg (by omega),if_neg (by omega),if_neg h2,h3]
  exact⟨_,rfl⟩
 | list t t2 h1 h2 h3 h4 h5 h6=>
  subst h1
  rw [List.cons_append,valueV]
  simp only
  rw [if_neg (fun h=>h.2.1 h3),if_neg (by omega),if_neg (by omega),if_pos h2,h3,itemsV]
  have e1:decide (([91]:List Nat) = [123])=false:=by decide
  have e2:(if ([91]:List Nat) = [123] then (10:Int) else 9)=9:=by decide
  rw [e1,e2]
  simp only
  rw [if_pos (by simp only [Bool.false_eq_true,if_false];exact isV_yes h4 h5)]
  simp only
  rw [set_snoc,h6]
  exact⟨_,rfl⟩
 | map t t2 h1 h2 h3 h4 h5 h6=>
  subst h1
  rw [List.cons_append,valueV]
  simp only
  rw [if_neg (fun h=>h.2.2 h3),if_neg (by omega),if_neg (by omega),if_pos h2,h3,itemsV]
  have e1:decide (([123]:List Nat) = [123])=true:=by decide
  have e2:(if ([123]:List Nat) = [123] then (10:Int) else 9)=10:=by decide
  rw [e1,e2]
  simp only
  rw [if_pos (by simp only [if_true];exact isV_yes h4 h5)]
  simp only
  rw [set_snoc,h6]
  exact⟨_,rfl⟩
/-! ### The nested value -/
end Go.Proofs.YtgbkbgiogdhnaaaGreatDoor
namespace Go.Proofs.YtgbkbgiogdhnaaaGreatDoor
open Go.RowKit
def kindJ (k:Int):Prop:=k=0∨k=1∨k=2∨k=3∨k=5∨k=9∨k=10
structure NodeJ (N:List GNode) (i:Nat) (nd:GNode):Prop where
 kind:kindJ nd.kind
 tx:By nd.text
 len:nd.text.length≤4294967200
 leaf:nd.kind≠9→nd.kind≠10→nd.keys = []∧nd.items = []
 ref:∀y∈refs nd,(i:Int)<y∧y<(N.length:Int)
 key:∀y∈nd.keys,∃nk:GNode,N[y.toNat]? = some nk∧nk.kind=5
def JG (N:List GNode):Prop:=∀(i:Nat) (nd:GNode),N[i]? = some nd→NodeJ N i nd
def Ext (N N':List GNode):Prop:=∀(j:Nat) (nk:GNode),N[j]? = some nk→N'[j]? = some nk
theorem Ext.refl (N:List GNode):Ext N N:=fun _ _ h=>h
theorem Ext.trans {a b c:List GNode} (h:Ext a b) (k:Ext b c):Ext a c:=fun j nk e=>k j nk (h j nk e)
theorem Ext.app (N M:List GNode):Ext N (N ++ M):=fun j nk h=>by
 rw [List.getElem?_append_left (List.getElem?_eq_some_iff.1 h).1];exact h
theorem Ext.len {a b:List GNode} (h:Ext a b):a.length≤b.length:=by
 by_cases e:a.length=0
 ·omega
 ·have h1:=h (a.length - 1) _ (List.getElem?_eq_getElem (by omega))
  have:=(List.getElem?_eq_some_iff.1 h1).1
  omega
theorem NodeJ.ext {N N':List GNode} {i:Nat} {nd:GNode} (h:NodeJ N i nd) (he:Ext N N'):NodeJ N' i nd:=
 ⟨h.kind,h.tx,h.len,h.leaf,fun y hy=>⟨(h.ref y hy).1,by have:=(h.ref y hy).2;have:=he.len;omega⟩,fun y hy=>by
  obtain⟨nk,h1,h2⟩:=h.key y hy
  exact⟨nk,he _ _ h1,h2⟩⟩
theorem JG.snoc {N:List GNode} (h:JG N) {nd:GNode} (hk:kindJ nd.kind) (ht:By nd.text) (hl:nd.text.length≤4294967200) (h1:nd.keys = []) (h2:nd.items = []):JG (N ++ [nd]):=fun i x hx=>by
 by_cases hi:i<N.length
 ·rw [List.getElem?_append_left hi] at hx
  exact(h i x hx).ext (Ext.app _ _)
 ·have hlt:=(List.getElem?_eq_some_iff.1 hx).1
  rw [List.length_append,List.length_singleton] at hlt
  have:i=N.length:=by omega
  subst this
  rw [List.getElem?_append_right (Nat.le_refl _),Nat.sub_self] at hx
  have:nd=x:=by simpa using hx
  subst this
  exact⟨hk,ht,hl,fun _ _=>⟨h1,h2⟩,fun y hy=>by unfold refs at hy;rw [h1,h2] at hy;simp at hy,fun y hy=>by rw [h1] at hy;simp at hy⟩
def ColJ (N:List GNode) (k0:Nat) (keys items:List Int):Prop:=
 (∀y∈keys,((k0:Int)<y∧y<(N.length:Int))∧∃nk:GNode,N[y.toNat]? = some nk∧nk.kind=5)∧∀y∈items,(k0:Int)<y∧y<(N.length:Int)
theorem ColJ.ext {N N':List GNode} {k0:Nat} {ks is_:List Int} (h:ColJ N k0 ks is_) (he:Ext N N'):ColJ N' k0 ks is_:=
 ⟨fun y hy=>⟨⟨(h.1 y hy).1.1,by have:=(h.1 y hy).1.2;have:=he.len;omega⟩,by obtain⟨nk,h1,h2⟩:=(h.1 y hy).2;exact⟨nk,he _ _ h1,h2⟩⟩,fun y hy=>⟨(h.2 y hy).1,by have:=(h.2 y hy).2;have:=he.len;omega⟩⟩
end Go.Proofs.YtgbkbgiogdhnaaaGreatDoor
namespace Go.Proofs.YtgbkbgiogdhnaaaGreatDoor
open Go.RowKit
theorem ndAt_of {N:List GNode} {i:Nat} {nd:GNode} (h:N[i]? = some nd):ndAt N i=nd:=by
 unfold ndAt;rw [List.getD_eq_getElem?_getD,h];rfl
theorem JG.at_ {N:List GNode} (h:JG N) {i:Nat} (hi:i<N.length):NodeJ N i (ndAt N i):=h i _ (ndAt_get hi)
theorem JG.idx {N:List GNode} (h:JG N):Idx N:=fun i hi x hx=>by
 have:=(h.at_ hi).ref x hx
 omega
theorem JG.ranks {N:List GNode} (h:JG N):Ranks N (fun x=>N.length - x.toNat):=fun x hx y hy=>by
 obtain⟨h1,h2⟩:=hx
 have:=(h.at_ (i:=x.toNat) (by omega)).ref y hy
 show N.length - y.toNat<N.length - x.toNat
 omega
theorem endT_dag {nodes:List GNode} {s:TS} (h:DI nodes [] s) (hall:∀x,InN nodes.length x→0≤gI s.inn x) (hT:TOK nodes.length s) (hn:nodes.length≤65536):EndT nodes s:=by
 have hsl:s.sizes.length≤65536:=by have:=hT.sz;have:=hT.cn;omega
 refine⟨h.ln,fun i hi=>?_,fun c=>?_,hsl⟩
 ·have hx:InN nodes.length (i:Int):=⟨by omega,by omega⟩
  have h1:=hall (i:Int) hx
  have h2:=(h.dn (i:Int) hx h1).1
  unfold gI at h1 h2
  rw [Int.toNat_natCast] at h1 h2
  exact⟨h1,h2⟩
 ·by_cases hc:c<s.sizes.length
  ·rw [h.one c hc];omega
  ·rw [List.getD_eq_getElem?_getD,List.getElem?_eq_none (by omega)];simp
theorem JG.dp {N:List GNode} (h:JG N) (hn:N.length≤4096) {root:Int} (hr:InN N.length root) (hall:∀i,i<N.length→Reach N root.toNat i):∃s,compV N root=some s∧EndT N s:=by
 obtain⟨s,e,d,hin⟩:=compV_dag h.idx h.ranks hr (by show N.length - root.toNat≤N.length;omega) hall
 refine⟨s,e,endT_dag d hin ?_ (by omega)⟩
 refine TOK.visit h.idx _ root _ s hr ?_ (TOK.start _) e
 show(List.replicate N.length (0:Int)).getD _ _=0
 rw [List.getD_eq_getElem?_getD,List.getElem?_replicate];split <;> rfl
theorem reach_of {N:List GNode} (hI:Idx N) {root:Int} (hr:0≤root∧root<(N.length:Int)) (h:(List.range N.length).all (okN N root)=true):∀i,i<N.length→Reach N root.toNat i:=fun i hi=>by
 rw [List.all_eq_true] at h
 have:=h i (List.mem_range.2 hi)
 unfold okN at this
 rw [Bool.and_eq_true] at this
 exact(reached_iff hI hr i).1 this.1
theorem JG.chk {N:List GNode} (h:JG N) (h0:0<N.length) (h1:N.length≤4096) (hb:NB 65536 N):ChkOK N 0 where
 n0:=h0
 n1:=h1
 nl:=fun i hi=>hb _ (ndAt_mem hi)
 tw:={
  leaf:=fun i hi x hx=>by
   obtain⟨nk,k1,k2⟩:=(h.at_ hi).key x hx
   rw [ndAt_of k1]
   exact(h _ _ k1).leaf (by omega) (by omega)
  by_:=fun i hi=>(h.at_ hi).tx
  wf:=fun i hi=>by
   have:=(h.at_ hi).kind
   unfold kindJ at this
   rcases this with e | e | e | e | e | e | e <;> rw [e] <;> decide
  len:=fun i hi=>by
   have:=(h.at_ hi).len
   rw [size_mks];unfold maxLen;omega }
 sc:=fun i hi=>by
  have hk:=(h.at_ hi).kind
  have ht:=(h.at_ hi).tx
  have hl:=(h.at_ hi).len
  generalize ndAt N i=nd at *
  unfold kindJ at hk
  refine⟨by omega,fun h9 h10=>?_⟩
  unfold scV
  rcases hk with e | e | e | e | e | e | e
  ·rw [e];exact scal_null _
  ·rw [e];exact scal_bool _ ht
  ·rw [e];exact scal_int _ ht
  ·rw [e];exact scal_dec _ ht (by omega)
  ·rw [e];exact scal_text _ (by omega)
  ·exact absurd e h9
  ·exact absurd e h10
 dp:=fun hi ha=>by
  obtain⟨hr,hI⟩:=idx_of hi
  exact h.dp h1 hr (reach_of hI hr ha)
/-! ### Nested values -/
def hgt:List Bool→List Int | []=>[1] | false :: sh=>((sh.length:Int)+2) :: hgt sh | true :: sh=>((sh.length:Int)+2) :: 1 :: hgt sh
end Go.Proofs.YtgbkbgiogdhnaaaGreatDoor
namespace Go.Proofs.YtgbkbgiogdhnaaaGreatDoor
open Go.RowKit
section
variable {w:World} {B pb sb nb mb:Nat} {F0:Nat→Prop} {k:PK} {kd:Int} {cs:List Value} {L:Nat} {x:PLoop} {F:Nat→Prop} {A:Option Addr} {n c:Nat} {vn vs:Value} {ncs:List Value} {vk vi:Value} {wr:World}
theorem LoopS.box (h:LoopS w B pb sb nb mb F0 k kd cs L x F A n c vn vs ncs vk vi wr) {cb:Nat} {us:List Value} (hc:Arr wr cb 87 us) (hF:¬F cb) (hb:w.heap.size≤cb) (hs:sb≠cb) (i:Nat) (u:Value) :
  LoopS w B pb sb nb mb F0 k kd cs L x F A n c vn vs ncs vk vi (wr.setCell ⟨cb,i,none⟩ u) where
 pm:=h.pm.far hF (h.tokNe hc (by decide)) _
 step:=h.step.far (.inl hb) _
 sp:=h.sp.far hs _
 spF:=h.spF
 nd:=h.nd.far (by intro e;have h1:=h.nd;rw [show nb=cb from e] at h1;exact absurd (cells_kind h1 hc) (by decide)) _
 ndF:=h.ndF
 mp:=h.mp.same (setCell_heap_ne _ _ _ (fun e=>map_kind h.mp hc e.symm))
 mpF:=h.mpF
 ok:=own_far h.ok (own_arr h.ok hc (by decide)) _
 oi:=own_far h.oi (own_arr h.oi hc (by decide)) _
 kF:=h.kF
 iF:=h.iF
 ki:=h.ki
 tk:=h.tk
 iv:=h.iv
 li:=h.li.step ((Below.refl _ _).setCell (Nat.le_trans h.lob hb) _)
 l1:=h.l1
 l2:=h.l2
 l3:=h.l3
 bx:=h.bx
 lob:=h.lob
end
end Go.Proofs.YtgbkbgiogdhnaaaGreatDoor
namespace Go.Proofs.YtgbkbgiogdhnaaaGreatDoor
open Go.RowKit
end Go.Proofs.YtgbkbgiogdhnaaaGreatDoor
namespace Go.Proofs.YtgbkbgiogdhnaaaGreatDoor
open Go.RowKit
end Go.Proofs.YtgbkbgiogdhnaaaGreatDoor
namespace Go.Proofs.YtgbkbgiogdhnaaaGreatDoor
open Go.RowKit
end Go.Proofs.YtgbkbgiogdhnaaaGreatDoor
namespace Go.Proofs.YtgbkbgiogdhnaaaGreatDoor
open Go.RowKit
end Go.Proofs.YtgbkbgiogdhnaaaGreatDoor
namespace Go.Proofs.YtgbkbgiogdhnaaaGreatDoor
open Go.RowKit
end Go.Proofs.YtgbkbgiogdhnaaaGreatDoor
namespace Go.Proofs.YtgbkbgiogdhnaaaGreatDoor
open Go.RowKit
end Go.Proofs.YtgbkbgiogdhnaaaGreatDoor
namespace Go.Proofs.YtgbkbgiogdhnaaaGreatDoor
open Go.RowKit
end Go.Proofs.YtgbkbgiogdhnaaaGreatDoor
namespace Go.Proofs.YtgbkbgiogdhnaaaGreatDoor
open Go.RowKit
end Go.Proofs.YtgbkbgiogdhnaaaGreatDoor
namespace Go.Proofs.YtgbkbgiogdhnaaaGreatDoor
open Go.RowKit
end Go.Proofs.YtgbkbgiogdhnaaaGreatDoor
namespace Go.Proofs.YtgbkbgiogdhnaaaGreatDoor
open Go.RowKit
end Go.Proofs.YtgbkbgiogdhnaaaGreatDoor
namespace Go.Proofs.YtgbkbgiogdhnaaaGreatDoor
open Go.RowKit
end Go.Proofs.YtgbkbgiogdhnaaaGreatDoor
namespace Go.Proofs.YtgbkbgiogdhnaaaGreatDoor
open Go.RowKit
end Go.Proofs.YtgbkbgiogdhnaaaGreatDoor
namespace Go.Proofs.YtgbkbgiogdhnaaaGreatDoor
open Go.RowKit
end Go.Proofs.YtgbkbgiogdhnaaaGreatDoor
namespace Go.Proofs.YtgbkbgiogdhnaaaGreatDoor
open Go.RowKit
section
variable {en f0 d:Nat} {st:PSt} {s:JSpan} {t:JTok} {r:List JTok}
end
end Go.Proofs.YtgbkbgiogdhnaaaGreatDoor
namespace Go.Proofs.YtgbkbgiogdhnaaaGreatDoor
open Go.RowKit
end Go.Proofs.YtgbkbgiogdhnaaaGreatDoor
namespace Go.Proofs.YtgbkbgiogdhnaaaGreatDoor
open Go.RowKit
end Go.Proofs.YtgbkbgiogdhnaaaGreatDoor
namespace Go.Proofs.YtgbkbgiogdhnaaaGreatDoor
open Go.RowKit
theorem grd_own {w:World} {B g c:Nat} {nodes:List GNode} {ncs:List Value} (hN:w.ownsRow B 43 5 (.slice (some ⟨g,0,none⟩) nodes.length c) nodes.length ncs) (hNr:NodesRd w (fun _=>True) ncs nodes):GRd w w.heap.size g 0 nodes:=by
 refine⟨(hN.lt g rfl).2,Nat.le_refl _,fun i nd hi=>?_⟩
 obtain⟨K,nk,ck,I,ni,ci,hcs,⟨hk1,hk2,hk3⟩,⟨hi1,hi2,hi3⟩⟩:=hNr.2 i nd hi
 subst hk1
 subst hi1
 obtain⟨e0,e1,e2,e3,e4⟩:=node_cells hcs
 have hb:∀{A:Option Addr},(∀ad,A=some ad→True∧∃C fz,w.heap[ad.block]? = some (.cells C 3 fz))→∀ad,A=some ad→ad.block<w.heap.size:=fun h ad e=>by
  obtain⟨_,C,fz,hc⟩:=h ad e
  exact(Array.getElem?_eq_some_iff.1 hc).1
 rw [Nat.zero_add]
 exact⟨K,ck,I,ci,(own_cell hN e0).1,(own_cell hN e1).1,(own_cell hN e2).1,(own_cell hN e3).1,(own_cell hN e4).1,⟨hk2,hb hk3⟩,hi2,hb hi3⟩
end Go.Proofs.YtgbkbgiogdhnaaaGreatDoor
namespace Go.Proofs.YtgbkbgiogdhnaaaGreatDoor
open Go.RowKit
def shiftN (d:Nat) (nd:GNode):GNode:={ nd with keys:=nd.keys.map (· + (d:Int)),items:=nd.items.map (· + (d:Int)) }
theorem GRd.grownO {w w':World} {B g o:Nat} {r:Option Nat} {nodes:List GNode} (h:GRd w B g o nodes) (hb:w.grownBy w' r) (hB:∀b,r=some b→B≤b):GRd w' B g o nodes:=
 ⟨h.1,Nat.le_trans h.2.1 hb.size,fun i nd hi=>(h.2.2 i nd hi).same h.1 fun a ha u hu=>hb.cell hu (by intro e;have:=hB _ e.symm;omega)⟩
def mload (t:TypeId) (x:Operand):Op:=.load t x
@[go_sem] theorem mload_is (t:TypeId) (x:Operand):mload t x=.load t x:=rfl
theorem mload_eq (t:TypeId) (x:Operand):Op.load t x=mload t x:=rfl
theorem IntsRd.over {w w':World} {F F':Nat→Prop} {A:Option Addr} {n:Nat} {xs:List Int} (h:IntsRd w F A n xs) (hk:∀b,b<w.heap.size→F b→w'.heap[b]? = w.heap[b]?∧F' b):IntsRd w' F' A n xs:=by
 have hl:∀ad,A=some ad→ad.block<w.heap.size:=fun ad e=>by
  obtain⟨_,C,fz,hb⟩:=h.2.2 ad e
  exact(Array.getElem?_eq_some_iff.1 hb).1
 refine⟨h.1,?_,fun ad e=>?_⟩
 ·intro j u hj
  obtain⟨ad,e,hc⟩:=h.2.1 j u hj
  exact⟨ad,e,by rw [←hc];exact World.cell?_of_block (by rw [blk_add];exact(hk _ (hl ad e) (h.2.2 ad e).1).1)⟩
 ·obtain⟨hf,C,fz,hb⟩:=h.2.2 ad e
  exact⟨(hk _ (hl ad e) hf).2,C,fz,by rw [(hk _ (hl ad e) hf).1];exact hb⟩
theorem NodesRd.over {w w':World} {F F':Nat→Prop} {ncs:List Value} {nodes:List GNode} (h:NodesRd w F ncs nodes) (hk:∀b,b<w.heap.size→F b→(∃C fz,w.heap[b]? = some (.cells C 3 fz))→w'.heap[b]? = w.heap[b]?∧F' b):NodesRd w' F' ncs nodes:=by
 refine⟨h.1,fun i nd hi=>?_⟩
 obtain⟨K,nk,ck,I,ni,ci,hc,h1,h2⟩:=h.2 i nd hi
 have ov:∀{A:Option Addr} {n:Nat} {xs:List Int},IntsRd w F A n xs→IntsRd w' F' A n xs:=fun {A n xs} h=>by
  have hl:∀ad,A=some ad→ad.block<w.heap.size:=fun ad e=>by
   obtain⟨_,C,fz,hb⟩:=h.2.2 ad e
   exact(Array.getElem?_eq_some_iff.1 hb).1
  have hq:∀ad,A=some ad→w'.heap[ad.block]? = w.heap[ad.block]?∧F' ad.block:=fun ad e=>hk _ (hl ad e) (h.2.2 ad e).1 (h.2.2 ad e).2
  refine⟨h.1,?_,fun ad e=>?_⟩
  ·intro j u hj
   obtain⟨ad,e,hc⟩:=h.2.1 j u hj
   exact⟨ad,e,by rw [←hc];exact World.cell?_of_block (by rw [blk_add];exact(hq ad e).1)⟩
  ·obtain⟨hf,C,fz,hb⟩:=h.2.2 ad e
   exact⟨(hq ad e).2,C,fz,by rw [(hq ad e).1];exact hb⟩
 exact⟨K,nk,ck,I,ni,ci,hc,ov h1,ov h2⟩
theorem NodesRd.nil (w:World) (F:Nat→Prop):NodesRd w F [] []:=⟨rfl,fun i nd hi=>by simp at hi⟩
theorem NodesRd.app {w:World} {F:Nat→Prop} {xs ys:List Value} {N M:List GNode} (h:NodesRd w F xs N) (k:NodesRd w F ys M):NodesRd w F (xs ++ ys) (N ++ M):=by
 refine⟨by rw [List.length_append,List.length_append,h.1,k.1];omega,fun i nd hi=>?_⟩
 by_cases hlt:i<N.length
 ·rw [List.getElem?_append_left hlt] at hi
  have h1:=h.2 i nd hi
  rw [List.drop_append_of_le_length (by rw [h.1];omega),List.take_append_of_le_length (by rw [List.length_drop,h.1];omega)]
  exact h1
 ·rw [List.getElem?_append_right (by omega)] at hi
  have e:(xs ++ ys).drop (i*5)=ys.drop ((i - N.length)*5):=by
   rw [List.drop_append,List.drop_of_length_le (by rw [h.1];omega),List.nil_append,h.1]
   congr 1
   omega
  rw [e]
  exact k.2 _ nd hi
theorem NodesRd.one {w:World} {F:Nat→Prop} {cs:List Value} {nd:GNode} (h:NodeRd w F cs nd):NodesRd w F cs [nd]:=by
 have h1:=NodesRd.snoc (NodesRd.nil w F) h
 simpa using h1
theorem own_ints {w:World} {B:Nat} {F:Nat→Prop} {v:Value} {xs:List Int} (h:w.ownsRow B 3 1 v xs.length (I64 xs)) (hF:∀b,v.ownBlock=some b→F b):∃A c,v=.slice A xs.length c∧IntsRd w F A xs.length xs:=by
 obtain⟨A,c,rfl,_,_,_,hr,_⟩:=own_rd h
 refine⟨A,c,rfl,rfl,hr,fun ad e=>?_⟩
 subst e
 have hb:(Value.slice (some ad) xs.length c).ownBlock=some ad.block:=rfl
 exact⟨hF _ hb,own_kind h hb⟩
def headC (kd:Int) (od:Bool) (vk vi:Value):List Value:=[.int .i64 kd,.string ⟨#[]⟩,.bool od,vk,vi]
def ownF (B:Nat) (vk vi:Value) (b:Nat):Prop:=B≤b∧vk.ownBlock≠some b∧vi.ownBlock≠some b
structure Tab (w:World) (B:Nat) (kd:Int) (od:Bool) (v vk vi:Value) (ks is:List Int) (rest:List GNode) (ncs:List Value):Prop where
 row:w.ownsRow B 43 5 v (1+rest.length) (headC kd od vk vi ++ ncs)
 rk:w.ownsRow B 3 1 vk ks.length (I64 ks)
 ri:w.ownsRow B 3 1 vi is.length (I64 is)
 ne:∀b,vk.ownBlock=some b→vi.ownBlock≠some b
 rd:NodesRd w (ownF B vk vi) ncs rest
section
variable {w w':World} {B:Nat} {kd:Int} {od:Bool} {v vk vi:Value} {ks is:List Int} {rest:List GNode} {ncs:List Value}
theorem Tab.keep (h:Tab w B kd od v vk vi ks is rest ncs) (hb:Below w.heap.size w w'):Tab w' B kd od v vk vi ks is rest ncs where
 row:=own_below h.row hb
 rk:=own_below h.rk hb
 ri:=own_below h.ri hb
 ne:=h.ne
 rd:=h.rd.over fun b hl hF _=>⟨hb.block b hl,hF⟩
theorem Tab.grd (h:Tab w B kd od v vk vi ks is rest ncs):∃gb c,v=.slice (some ⟨gb,0,none⟩) (1+rest.length) c∧GRd w w.heap.size gb 0 (⟨kd,[],od,ks,is⟩ :: rest):=by
 obtain⟨gb,c,rfl,_,_⟩:=own_some h.row (by omega)
 refine⟨gb,c,rfl,?_⟩
 obtain⟨K,ck,hk,hkr⟩:=own_ints (F:=fun _=>True) h.rk (fun _ _=>trivial)
 obtain⟨I,ci,hi,hir⟩:=own_ints (F:=fun _=>True) h.ri (fun _ _=>trivial)
 have hd:NodesRd w (fun _=>True) (headC kd od vk vi) [⟨kd,[],od,ks,is⟩]:=NodesRd.one ⟨K,_,ck,I,_,ci,by rw [hk,hi];rfl,hkr,hir⟩
 have hall:NodesRd w (fun _=>True) (headC kd od vk vi ++ ncs) (⟨kd,[],od,ks,is⟩ :: rest):=hd.app (h.rd.over fun b _ _ _=>⟨rfl,trivial⟩)
 have hrow:=h.row
 have el:1+rest.length=((⟨kd,[],od,ks,is⟩:GNode) :: rest).length:=by simp;omega
 rw [el] at hrow
 exact grd_own hrow hall
theorem Tab.app {v':Value} {ncs':List Value} {more:List GNode} (h:Tab w B kd od v vk vi ks is rest ncs) (hBw:B≤w.heap.size) (hrow:w'.ownsRow B 43 5 v' (1+rest.length+more.length) (headC kd od vk vi ++ ncs ++ ncs')) (hm:NodesRd w' (fun b=>w.heap.size≤b) ncs' more) (hg:w.grownBy w' v.ownBlock) :
  Tab w' B kd od v' vk vi ks is (rest ++ more) (ncs ++ ncs'):=by
 have hn:∀{b:Nat},(∃C fz,w.heap[b]? = some (.cells C 3 fz))→some b≠v.ownBlock:=fun {b} ⟨C,fz,hb⟩ e=>by
  obtain⟨C',fz',hb'⟩:=own_kind h.row e.symm
  exact absurd (cells_kind hb hb') (by decide)
 have ow:∀{u:Value} {n:Nat} {xs:List Value},w.ownsRow B 3 1 u n xs→w'.ownsRow B 3 1 u n xs:=fun ho=>own_same ho fun b hb=>hg.block b (ho.lt b hb).2 (hn (own_kind ho hb))
 have hlt:∀{u:Value} {n:Nat} {xs:List Value} {b:Nat},w.ownsRow B 3 1 u n xs→w.heap.size≤b→u.ownBlock≠some b:=fun ho hb e=>by have:=(ho.lt _ e).2;omega
 refine⟨?_,ow h.rk,ow h.ri,h.ne,?_⟩
 ·rw [List.length_append,←Nat.add_assoc,←List.append_assoc];exact hrow
 ·exact(h.rd.over fun b hl hF hb=>⟨hg.block b hl (hn hb),hF⟩).app (hm.over fun b _ hF _=>⟨rfl,by show _≤_;omega,hlt h.rk hF,hlt h.ri hF⟩)
theorem Tab.push_k {w1 w3:World} {v':Value} {gb c:Nat} {x:Int} (h:Tab w B kd od (.slice (some ⟨gb,0,none⟩) (1+rest.length) c) vk vi ks is rest ncs) (hBw:B≤w.heap.size) (hb:Below w.heap.size w w1) (hg:w1.grownBy w3 vk.ownBlock) (hown:w3.ownsRow B 3 1 v' (ks.length+1) (I64 ks ++ [.int .i64 x])) (hat:v'.ownBlock=vk.ownBlock∨v'.ownBlock=some w1.heap.size) :
  Tab (w3.setCell ⟨gb,3,none⟩ v') B kd od (.slice (some ⟨gb,0,none⟩) (1+rest.length) c) v' vi (ks ++ [x]) is rest ncs∧Below B w (w3.setCell ⟨gb,3,none⟩ v'):=by
 have h1:=h.keep hb
 have hgB:B≤gb:=(h.row.lt gb rfl).1
 have hrk:=own_kind h.row (g:=gb) rfl
 have hVn:vk.ownBlock≠some gb:=fun e=>by
  obtain⟨C,fz,hc⟩:=own_kind h.rk e
  obtain⟨C',fz',hc'⟩:=hrk
  exact absurd (cells_kind hc hc') (by decide)
 have hv'n:v'.ownBlock≠some gb:=fun e=>by
  rcases hat with e1 | e1
  ·exact hVn (e1▸e)
  ·rw [e1] at e
   have:=Option.some.inj e
   have:=(h.row.lt gb rfl).2
   have:=hb.size
   omega
 have hrow3:w3.ownsRow B 43 5 (.slice (some ⟨gb,0,none⟩) (1+rest.length) c) (1+rest.length) (headC kd od vk vi ++ ncs):=own_same h1.row fun b hb'=>hg.block b (h1.row.lt b hb').2 (fun e=>by have:=Option.some.inj hb';subst this;exact hVn e.symm)
 have hOne:∀b,vi.ownBlock=some b→v'.ownBlock≠some b:=fun b e1 e2=>by
  rcases hat with e3 | e3
  ·rw [e3] at e2;exact h.ne b e2 e1
  ·rw [e3] at e2
   have:=Option.some.inj e2
   have:=(h.ri.lt b e1).2
   have:=hb.size
   omega
 have hO3:w3.ownsRow B 3 1 vi is.length (I64 is):=own_same h1.ri fun b hb'=>hg.block b (h1.ri.lt b hb').2 (fun e=>by exact h.ne b e.symm hb')
 have hBw1:B≤w1.heap.size:=Nat.le_trans hBw hb.size
 refine⟨⟨?_,?_,?_,?_,?_⟩,?_⟩
 ·have h2:=own_set1 hrow3 3 v'
  exact h2
 ·exact(by rw [I64_append,List.length_append,List.length_singleton];exact own_far (p:=⟨gb,3,none⟩) hown hv'n v')
 ·exact own_far (p:=⟨gb,3,none⟩) hO3 (fun e=>by obtain⟨C,fz,hc⟩:=own_kind h.ri e;obtain⟨C',fz',hc'⟩:=hrk;exact absurd (cells_kind hc hc') (by decide)) v'
 ·exact fun b e1 e2=>hOne b e2 e1
 ·refine h1.rd.over fun b hl hF hk=>⟨?_,hF.1,?_,?_⟩
  ·refine(setCell_heap_ne _ _ _ ?_).trans (hg.block b hl ?_)
   ·rintro rfl
    obtain⟨C,fz,hc⟩:=hk
    obtain⟨C',fz',hc'⟩:=hrk
    rw [←hb.block _ (h.row.lt _ rfl).2] at hc'
    exact absurd (cells_kind hc hc') (by decide)
   ·exact fun e=>hF.2.1 e.symm
  ·exact fun e=>by rcases hat with e3 | e3;exact hF.2.1 (e3▸e);rw [e3] at e;have:=Option.some.inj e;omega
  ·exact hF.2.2
 ·exact((hb.mono hBw).trans (below_of_grown hg hBw1 (fun k e=>(h.rk.lt k e).1))).setCell (p:=⟨gb,3,none⟩) hgB v'
theorem Tab.push_i {w1 w3:World} {v':Value} {gb c:Nat} {x:Int} (h:Tab w B kd od (.slice (some ⟨gb,0,none⟩) (1+rest.length) c) vk vi ks is rest ncs) (hBw:B≤w.heap.size) (hb:Below w.heap.size w w1) (hg:w1.grownBy w3 vi.ownBlock) (hown:w3.ownsRow B 3 1 v' (is.length+1) (I64 is ++ [.int .i64 x])) (hat:v'.ownBlock=vi.ownBlock∨v'.ownBlock=some w1.heap.size) :
  Tab (w3.setCell ⟨gb,4,none⟩ v') B kd od (.slice (some ⟨gb,0,none⟩) (1+rest.length) c) vk v' ks (is ++ [x]) rest ncs∧Below B w (w3.setCell ⟨gb,4,none⟩ v'):=by
 have h1:=h.keep hb
 have hgB:B≤gb:=(h.row.lt gb rfl).1
 have hrk:=own_kind h.row (g:=gb) rfl
 have hVn:vi.ownBlock≠some gb:=fun e=>by
  obtain⟨C,fz,hc⟩:=own_kind h.ri e
  obtain⟨C',fz',hc'⟩:=hrk
  exact absurd (cells_kind hc hc') (by decide)
 have hv'n:v'.ownBlock≠some gb:=fun e=>by
  rcases hat with e1 | e1
  ·exact hVn (e1▸e)
  ·rw [e1] at e
   have:=Option.some.inj e
   have:=(h.row.lt gb rfl).2
   have:=hb.size
   omega
 have hrow3:w3.ownsRow B 43 5 (.slice (some ⟨gb,0,none⟩) (1+rest.length) c) (1+rest.length) (headC kd od vk vi ++ ncs):=own_same h1.row fun b hb'=>hg.block b (h1.row.lt b hb').2 (fun e=>by have:=Option.some.inj hb';subst this;exact hVn e.symm)
 have hOne:∀b,vk.ownBlock=some b→v'.ownBlock≠some b:=fun b e1 e2=>by
  rcases hat with e3 | e3
  ·rw [e3] at e2;exact h.ne b e1 e2
  ·rw [e3] at e2
   have:=Option.some.inj e2
   have:=(h.rk.lt b e1).2
   have:=hb.size
   omega
 have hO3:w3.ownsRow B 3 1 vk ks.length (I64 ks):=own_same h1.rk fun b hb'=>hg.block b (h1.rk.lt b hb').2 (fun e=>by exact h.ne b hb' e.symm)
 have hBw1:B≤w1.heap.size:=Nat.le_trans hBw hb.size
 refine⟨⟨?_,?_,?_,?_,?_⟩,?_⟩
 ·have h2:=own_set1 hrow3 4 v'
  exact h2
 ·exact own_far (p:=⟨gb,4,none⟩) hO3 (fun e=>by obtain⟨C,fz,hc⟩:=own_kind h.rk e;obtain⟨C',fz',hc'⟩:=hrk;exact absurd (cells_kind hc hc') (by decide)) v'
 ·exact(by rw [I64_append,List.length_append,List.length_singleton];exact own_far (p:=⟨gb,4,none⟩) hown hv'n v')
 ·exact fun b e1 e2=>hOne b e1 e2
 ·refine h1.rd.over fun b hl hF hk=>⟨?_,hF.1,?_,?_⟩
  ·refine(setCell_heap_ne _ _ _ ?_).trans (hg.block b hl ?_)
   ·rintro rfl
    obtain⟨C,fz,hc⟩:=hk
    obtain⟨C',fz',hc'⟩:=hrk
    rw [←hb.block _ (h.row.lt _ rfl).2] at hc'
    exact absurd (cells_kind hc hc') (by decide)
   ·exact fun e=>hF.2.2 e.symm
  ·exact hF.2.1
  ·exact fun e=>by rcases hat with e3 | e3;exact hF.2.2 (e3▸e);rw [e3] at e;have:=Option.some.inj e;omega
 ·exact((hb.mono hBw).trans (below_of_grown hg hBw1 (fun k e=>(h.ri.lt k e).1))).setCell (p:=⟨gb,4,none⟩) hgB v'
end
end Go.Proofs.YtgbkbgiogdhnaaaGreatDoor
