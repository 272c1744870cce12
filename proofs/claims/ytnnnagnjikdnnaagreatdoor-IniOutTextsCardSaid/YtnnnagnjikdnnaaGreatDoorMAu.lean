/- Rows of the call's own: small laws. -/
import Derived.Test.YtnnnagnjikdnnaaGreatDoorMAd
import Derived.Test.YtnnnagnjikdnnaaGreatDoorMAt
import Derived.Test.YtnnnagnjikdnnaaGreatDoorMAj
import Derived.Test.YtnnnagnjikdnnaaGreatDoorMAo
import Derived.Test.YtnnnagnjikdnnaaGreatDoorShelf
import Derived.Deep.QuietTactic
import Derived.BigQuiet
import Derived.Test.YtnnnagnjikdnnaaGreatDoorMAl
import Derived.Maps.OwnSet
import Derived.DeepKeys4
set_option linter.unusedVariables false
set_option linter.unusedSimpArgs false
set_option linter.defProp false
set_option linter.constructorNameAsVariable false
namespace Go.Proofs.YtnnnagnjikdnnaaGreatDoor
open Go.RowKit
theorem own_some {w:World} {b:Nat} {e:TypeId} {k:Nat} {v:Value} {n:Nat} {xs:List Value} (h:w.ownsRow b e k v n xs) (hn:0<n):∃g c,v=.slice (some ⟨g,0,none⟩) n c∧n≤c∧c≤maxLen:=by
 rcases h.2 with⟨rfl,h0⟩ | ⟨g,cap,cur,rfl,_,_,h1,h2,_⟩
 ·omega
 ·exact⟨g,cap,rfl,h1,h2⟩
theorem own_lo {w:World} {b b':Nat} {e:TypeId} {k:Nat} {v:Value} {n:Nat} {xs:List Value} (h:w.ownsRow b e k v n xs) (hb:b'≤b):w.ownsRow b' e k v n xs:=by
 refine⟨h.1,?_⟩
 rcases h.2 with h1 | ⟨g,cap,cur,h1,h2,h3⟩
 ·exact .inl h1
 ·exact .inr ⟨g,cap,cur,h1,Nat.le_trans hb h2,h3⟩
theorem own_set1 {w:World} {b:Nat} {e:TypeId} {k g n cap:Nat} {xs:List Value} (h:w.ownsRow b e k (.slice (some ⟨g,0,none⟩) n cap) n xs) (i:Nat) (u:Value):(w.setCell ⟨g,i,none⟩ u).ownsRow b e k (.slice (some ⟨g,0,none⟩) n cap) n (xs.set i u):=by
 refine⟨by rw [List.length_set];exact h.1,?_⟩
 rcases h.2 with⟨hv,_⟩ | ⟨g',cap',cur,hv,hb,hg,h1,h2,h3,h4⟩
 ·cases hv
 ·injection hv with hv1 _ hv3
  injection hv1 with hv1
  injection hv1 with hv1
  subst hv1
  subst hv3
  refine .inr ⟨g,cap,cur.setIfInBounds i u,rfl,hb,?_,h1,h2,by simpa using h3,?_⟩
  ·simp [World.setCell,Array.getElem?_modify,hg]
  ·rw [Array.toList_setIfInBounds,List.take_set,h4]
theorem own_cell1 {w:World} {b:Nat} {e:TypeId} {k g n cap:Nat} {xs:List Value} (h:w.ownsRow b e k (.slice (some ⟨g,0,none⟩) n cap) n xs) {i:Nat} {u:Value} (hu:xs[i]? = some u):w.cell? ⟨g,i,none⟩=some u∧w.frozen? ⟨g,i,none⟩=false:=by
 have h1:=h.cells (g:=g) rfl i u hu
 rw [Addr.add_mid,Nat.zero_add] at h1
 rcases h.2 with⟨hv,_⟩ | ⟨g',cap',cur,hv,hb,hg,_⟩
 ·cases hv
 ·injection hv with hv1 _ hv3
  injection hv1 with hv1
  injection hv1 with hv1
  subst hv1
  exact⟨h1,frozen_of_row w g i cur e hg⟩
theorem own_grown {w w':World} {b:Nat} {e:TypeId} {k r:Nat} {v:Value} {n:Nat} {xs:List Value} (h:w.ownsRow b e k v n xs) (hg:w.grownBy w' (some r)) (hr:v.ownBlock≠some r):w'.ownsRow b e k v n xs:=
 own_same h (fun b hb=>hg.block b (h.lt b hb).2 (by intro e;rw [←e] at hr;exact hr hb))
theorem I64_drop (xs:List Int) (k:Nat):I64 (xs.drop k)=(I64 xs).drop k:=by unfold I64;rw [List.map_drop]
theorem grown_drw {w w':World} {r:Option Nat} (h:w.grownBy w' r):w.grownBy w'.drew r:=⟨h.os,h.tape,h.output,h.size,h.block⟩
theorem slice_ne {a b n c:Nat} (h:a≠b):(Value.slice (some ⟨a,0,none⟩) n c).ownBlock≠some b:=fun e=>h (Option.some.inj e)
theorem InR_get {N:Nat} {xs:List Int} (h:∀x∈xs,0≤x∧x<(N:Int)) {k:Nat} (hk:k<xs.length):∃a:Nat,xs[k]? = some (a:Int)∧a<N:=by
 obtain⟨h1,h2⟩:=h xs[k] (List.getElem_mem hk)
 exact⟨xs[k].toNat,by rw [List.getElem?_eq_getElem hk];congr 1;omega,by omega⟩
structure KP (N0 g0:Nat) (w w':World):Prop where
 os:w'.os=w.os
 tape:w'.tape=w.tape
 output:w'.output=w.output
 size:w.heap.size≤w'.heap.size
 keep:∀b,b<N0→b≠g0→w'.heap[b]? = w.heap[b]?
theorem KP.of_below {N0 g0 B:Nat} {w w':World} (h:Below B w w') (hB:N0≤B):KP N0 g0 w w':=⟨h.os,h.tape,h.output,h.size,fun b hb _=>h.block b (by omega)⟩
theorem KP.trans {N0 g0:Nat} {a b c:World} (h:KP N0 g0 a b) (k:KP N0 g0 b c):KP N0 g0 a c:=⟨k.os.trans h.os,k.tape.trans h.tape,k.output.trans h.output,Nat.le_trans h.size k.size,fun j hj hn=>(k.keep j hj hn).trans (h.keep j hj hn)⟩
theorem KP.drew {N0 g0:Nat} {w w':World} (h:KP N0 g0 w w'):KP N0 g0 w w'.drew:=⟨h.os,h.tape,h.output,h.size,h.keep⟩
theorem KP.set {N0 g0:Nat} {w w':World} (h:KP N0 g0 w w') {p:Addr} (hp:p.block=g0∨N0≤p.block) (u:Value):KP N0 g0 w (w'.setCell p u):=
 ⟨h.os,h.tape,h.output,by simpa [World.setCell] using h.size,fun b hb hn=>(Below.heap_setCell w' p u b (by rcases hp with e | e <;> omega)).trans (h.keep b hb hn)⟩
theorem KP.grown {N0 g0 r:Nat} {w w' w2:World} (h:KP N0 g0 w w') (hg:w'.grownBy w2 (some r)) (hr:r=g0∨N0≤r) (hN:N0≤w'.heap.size):KP N0 g0 w w2:=
 ⟨hg.os.trans h.os,hg.tape.trans h.tape,hg.output.trans h.output,Nat.le_trans h.size hg.size,fun b hb hn=>(hg.block b (by omega) (fun e=>by have:=Option.some.inj e;rcases hr with e2 | e2 <;> omega)).trans (h.keep b hb hn)⟩
theorem KP.refl (N0 g0:Nat) (w:World):KP N0 g0 w w:=⟨rfl,rfl,rfl,Nat.le_refl _,fun _ _ _=>rfl⟩
theorem KP.below {N0 g0 B:Nat} {w w':World} (h:KP N0 g0 w w') (h1:B≤N0) (h2:B≤g0):Below B w w':=⟨h.os,h.tape,h.output,h.size,fun b hb=>h.keep b (by omega) (by omega)⟩
theorem KP.cell {N0 g0:Nat} {w w':World} (h:KP N0 g0 w w') {a:Addr} {u:Value} (hc:w.cell? a=some u) (h1:a.block<N0) (h2:a.block≠g0):w'.cell? a=some u:=by
 rw [←hc]
 exact World.cell?_of_block (h.keep a.block h1 h2)
theorem KP.own {N0 g0:Nat} {w w':World} (h:KP N0 g0 w w') {b:Nat} {e:TypeId} {k:Nat} {v:Value} {n:Nat} {xs:List Value} (ho:w.ownsRow b e k v n xs) (h1:∀g,v.ownBlock=some g→g<N0∧g≠g0):w'.ownsRow b e k v n xs:=
 own_same ho fun g hg=>h.keep g (h1 g hg).1 (h1 g hg).2
section
variable {P:Program} {w:World} {ops:Array Oper} {rest:List Oper} {o:Oper} {a:Act} {Q:Exit→Act→World→Prop}
theorem wpList_mkN (hg:o.guard=none) (l c:Operand) (t:TypeId) (hop:o.op=.makeSlice t l c) (e:TypeId) (z:Value) (k bytes:Nat) (h1:P.underlying t=some (.slice e))
  (h2:(P.info? e).map (fun i=>(i.zero,i.size,i.bytes))=some (some z,k,bytes)) (kl kc:IntKind) (L C:Int) (hl:a.eval l=.int kl L) (hc:a.eval c=.int kc C)
  (n m:Nat) (hL:L=n) (hC:C=m) (hnm:n≤m) (hb:bytes*m≤281474976710656) (hm:m≤maxLen)
  (hK:∀g w' cs,Hid (g=w.heap.size)→Hid (Arr w' g e cs)→Hid (cs.length=m*k)→Below w.heap.size w w'→Hid (w'.heap.size=g+1) →
   wpList P ops Q rest (a.put o.dst (.slice (some ⟨g,0,none⟩) n m)) w'):wpList P ops Q (o :: rest) a w:=by
 obtain⟨i,hi,hz1,hz2,hz3⟩:=info_parts h2
 refine wpList_plain hg fun K hK'=>?_
 subst hL;subst hC
 have hb':(i.bytes:Int)*(m:Int)≤281474976710656:=by
  have h:((i.bytes*m:Nat):Int)≤281474976710656:=by subst hz3;omega
  rwa [Int.natCast_mul] at h
 have hm':(m:Int)≤9223372036854775807:=by simp [maxLen] at hm;omega
 have hrun:=run_make (P:=P) w t e i z h1 hi hz1 kl kc n m (by omega) (by omega) hb' hm'
 simp only [Int.toNat_natCast,hz2] at hrun
 unfold Oper.wp
 simp [execOp,hop,hl,hc,hrun,Result.andThen]
 have hA:Hid (Arr (w.alloc (.cells (madeCells z.cells (m*k)) e)) w.heap.size e (madeCells z.cells (m*k)).toList):=heap_alloc_new w _
 refine hK' _ _ (hK w.heap.size _ (madeCells z.cells (m*k)).toList rfl hA ?_ ((Below.refl _ _).alloc (Nat.le_refl _) _) ?_)
 ·show _=_
  rw [Array.length_toList,size_madeCells]
 ·show _=_
  simp
end
end Go.Proofs.YtnnnagnjikdnnaaGreatDoor
namespace Go.Proofs.YtnnnagnjikdnnaaGreatDoor
open Go.RowKit
theorem GRd.grownO {w w':World} {B g o:Nat} {r:Option Nat} {nodes:List GNode} (h:GRd w B g o nodes) (hb:w.grownBy w' r) (hB:∀b,r=some b→B≤b):GRd w' B g o nodes:=
 ⟨h.1,Nat.le_trans h.2.1 hb.size,fun i nd hi=>(h.2.2 i nd hi).same h.1 fun a ha u hu=>hb.cell hu (by intro e;have:=hB _ e.symm;omega)⟩
def mload (t:TypeId) (x:Operand):Op:=.load t x
@[go_sem] theorem mload_is (t:TypeId) (x:Operand):mload t x=.load t x:=rfl
theorem mload_eq (t:TypeId) (x:Operand):Op.load t x=mload t x:=rfl
theorem IntsRd.over {w w':World} {F F':Nat→Prop} {A:Option Addr} {n:Nat} {xs:List Int} (h:IntsRd w F A n xs) (hk:∀b,b<w.heap.size→F b→w'.heap[b]? = w.heap[b]?∧F' b):IntsRd w' F' A n xs:=by
 have hl:∀ad,A=some ad→ad.block<w.heap.size:=fun ad e=>by
  obtain⟨_,C,fz,hb⟩:=h.2.2 ad e
  exact(Array.getElem?_eq_some_iff.1 hb).1
 refine⟨h.1,?_,fun ad e=>?_⟩
 ·intro j u hj
  obtain⟨ad,e,hc⟩:=h.2.1 j u hj
  exact⟨ad,e,by rw [←hc];exact World.cell?_of_block (by rw [blk_add];exact(hk _ (hl ad e) (h.2.2 ad e).1).1)⟩
 ·obtain⟨hf,C,fz,hb⟩:=h.2.2 ad e
  exact⟨(hk _ (hl ad e) hf).2,C,fz,by rw [(hk _ (hl ad e) hf).1];exact hb⟩
theorem NodesRd.over {w w':World} {F F':Nat→Prop} {ncs:List Value} {nodes:List GNode} (h:NodesRd w F ncs nodes) (hk:∀b,b<w.heap.size→F b→(∃C fz,w.heap[b]? = some (.cells C 3 fz))→w'.heap[b]? = w.heap[b]?∧F' b):NodesRd w' F' ncs nodes:=by
 refine⟨h.1,fun i nd hi=>?_⟩
 obtain⟨K,nk,ck,I,ni,ci,hc,h1,h2⟩:=h.2 i nd hi
 have ov:∀{A:Option Addr} {n:Nat} {xs:List Int},IntsRd w F A n xs→IntsRd w' F' A n xs:=fun {A n xs} h=>by
  have hl:∀ad,A=some ad→ad.block<w.heap.size:=fun ad e=>by
   obtain⟨_,C,fz,hb⟩:=h.2.2 ad e
   exact(Array.getElem?_eq_some_iff.1 hb).1
  have hq:∀ad,A=some ad→w'.heap[ad.block]? = w.heap[ad.block]?∧F' ad.block:=fun ad e=>hk _ (hl ad e) (h.2.2 ad e).1 (h.2.2 ad e).2
  refine⟨h.1,?_,fun ad e=>?_⟩
  ·intro j u hj
   obtain⟨ad,e,hc⟩:=h.2.1 j u hj
   exact⟨ad,e,by rw [←hc];exact World.cell?_of_block (by rw [blk_add];exact(hq ad e).1)⟩
  ·obtain⟨hf,C,fz,hb⟩:=h.2.2 ad e
   exact⟨(hq ad e).2,C,fz,by rw [(hq ad e).1];exact hb⟩
 exact⟨K,nk,ck,I,ni,ci,hc,ov h1,ov h2⟩
theorem NodesRd.nil (w:World) (F:Nat→Prop):NodesRd w F [] []:=⟨rfl,fun i nd hi=>by simp at hi⟩
theorem NodesRd.app {w:World} {F:Nat→Prop} {xs ys:List Value} {N M:List GNode} (h:NodesRd w F xs N) (k:NodesRd w F ys M):NodesRd w F (xs ++ ys) (N ++ M):=by
 refine⟨by rw [List.length_append,List.length_append,h.1,k.1];omega,fun i nd hi=>?_⟩
 by_cases hlt:i<N.length
 ·rw [List.getElem?_append_left hlt] at hi
  have h1:=h.2 i nd hi
  rw [List.drop_append_of_le_length (by rw [h.1];omega),List.take_append_of_le_length (by rw [List.length_drop,h.1];omega)]
  exact h1
 ·rw [List.getElem?_append_right (by omega)] at hi
  have e:(xs ++ ys).drop (i*5)=ys.drop ((i - N.length)*5):=by
   rw [List.drop_append,List.drop_of_length_le (by rw [h.1];omega),List.nil_append,h.1]
   congr 1
   omega
  rw [e]
  exact k.2 _ nd hi
theorem NodesRd.one {w:World} {F:Nat→Prop} {cs:List Value} {nd:GNode} (h:NodeRd w F cs nd):NodesRd w F cs [nd]:=by
 have h1:=NodesRd.snoc (NodesRd.nil w F) h
 simpa using h1
theorem own_ints {w:World} {B:Nat} {F:Nat→Prop} {v:Value} {xs:List Int} (h:w.ownsRow B 3 1 v xs.length (I64 xs)) (hF:∀b,v.ownBlock=some b→F b):∃A c,v=.slice A xs.length c∧IntsRd w F A xs.length xs:=by
 obtain⟨A,c,rfl,_,_,_,hr,_⟩:=own_rd h
 refine⟨A,c,rfl,rfl,hr,fun ad e=>?_⟩
 subst e
 have hb:(Value.slice (some ad) xs.length c).ownBlock=some ad.block:=rfl
 exact⟨hF _ hb,own_kind h hb⟩
def headC (kd:Int) (od:Bool) (vk vi:Value):List Value:=[.int .i64 kd,.string ⟨#[]⟩,.bool od,vk,vi]
def ownF (B:Nat) (vk vi:Value) (b:Nat):Prop:=B≤b∧vk.ownBlock≠some b∧vi.ownBlock≠some b
structure Tab (w:World) (B:Nat) (kd:Int) (od:Bool) (v vk vi:Value) (ks is:List Int) (rest:List GNode) (ncs:List Value):Prop where
 row:w.ownsRow B 30 5 v (1+rest.length) (headC kd od vk vi ++ ncs)
 rk:w.ownsRow B 3 1 vk ks.length (I64 ks)
 ri:w.ownsRow B 3 1 vi is.length (I64 is)
 ne:∀b,vk.ownBlock=some b→vi.ownBlock≠some b
 rd:NodesRd w (ownF B vk vi) ncs rest
section
variable {w w':World} {B:Nat} {kd:Int} {od:Bool} {v vk vi:Value} {ks is:List Int} {rest:List GNode} {ncs:List Value}
theorem Tab.keep (h:Tab w B kd od v vk vi ks is rest ncs) (hb:Below w.heap.size w w'):Tab w' B kd od v vk vi ks is rest ncs where
 row:=own_below h.row hb
 rk:=own_below h.rk hb
 ri:=own_below h.ri hb
 ne:=h.ne
 rd:=h.rd.over fun b hl hF _=>⟨hb.block b hl,hF⟩
theorem Tab.grd (h:Tab w B kd od v vk vi ks is rest ncs):∃gb c,v=.slice (some ⟨gb,0,none⟩) (1+rest.length) c∧GRd w w.heap.size gb 0 (⟨kd,[],od,ks,is⟩ :: rest):=by
 obtain⟨gb,c,rfl,_,_⟩:=own_some h.row (by omega)
 refine⟨gb,c,rfl,?_⟩
 obtain⟨K,ck,hk,hkr⟩:=own_ints (F:=fun _=>True) h.rk (fun _ _=>trivial)
 obtain⟨I,ci,hi,hir⟩:=own_ints (F:=fun _=>True) h.ri (fun _ _=>trivial)
 have hd:NodesRd w (fun _=>True) (headC kd od vk vi) [⟨kd,[],od,ks,is⟩]:=NodesRd.one ⟨K,_,ck,I,_,ci,by rw [hk,hi];rfl,hkr,hir⟩
 have hall:NodesRd w (fun _=>True) (headC kd od vk vi ++ ncs) (⟨kd,[],od,ks,is⟩ :: rest):=hd.app (h.rd.over fun b _ _ _=>⟨rfl,trivial⟩)
 have hrow:=h.row
 have el:1+rest.length=((⟨kd,[],od,ks,is⟩:GNode) :: rest).length:=by simp;omega
 rw [el] at hrow
 exact grd_own hrow hall
theorem Tab.app {v':Value} {ncs':List Value} {more:List GNode} (h:Tab w B kd od v vk vi ks is rest ncs) (hBw:B≤w.heap.size) (hrow:w'.ownsRow B 30 5 v' (1+rest.length+more.length) (headC kd od vk vi ++ ncs ++ ncs')) (hm:NodesRd w' (fun b=>w.heap.size≤b) ncs' more) (hg:w.grownBy w' v.ownBlock) :
  Tab w' B kd od v' vk vi ks is (rest ++ more) (ncs ++ ncs'):=by
 have hn:∀{b:Nat},(∃C fz,w.heap[b]? = some (.cells C 3 fz))→some b≠v.ownBlock:=fun {b} ⟨C,fz,hb⟩ e=>by
  obtain⟨C',fz',hb'⟩:=own_kind h.row e.symm
  exact absurd (cells_kind hb hb') (by decide)
 have ow:∀{u:Value} {n:Nat} {xs:List Value},w.ownsRow B 3 1 u n xs→w'.ownsRow B 3 1 u n xs:=fun ho=>own_same ho fun b hb=>hg.block b (ho.lt b hb).2 (hn (own_kind ho hb))
 have hlt:∀{u:Value} {n:Nat} {xs:List Value} {b:Nat},w.ownsRow B 3 1 u n xs→w.heap.size≤b→u.ownBlock≠some b:=fun ho hb e=>by have:=(ho.lt _ e).2;omega
 refine⟨?_,ow h.rk,ow h.ri,h.ne,?_⟩
 ·rw [List.length_append,←Nat.add_assoc,←List.append_assoc];exact hrow
 ·exact(h.rd.over fun b hl hF hb=>⟨hg.block b hl (hn hb),hF⟩).app (hm.over fun b _ hF _=>⟨rfl,by show _≤_;omega,hlt h.rk hF,hlt h.ri hF⟩)
theorem Tab.push_k {w1 w3:World} {v':Value} {gb c:Nat} {x:Int} (h:Tab w B kd od (.slice (some ⟨gb,0,none⟩) (1+rest.length) c) vk vi ks is rest ncs) (hBw:B≤w.heap.size) (hb:Below w.heap.size w w1) (hg:w1.grownBy w3 vk.ownBlock) (hown:w3.ownsRow B 3 1 v' (ks.length+1) (I64 ks ++ [.int .i64 x])) (hat:v'.ownBlock=vk.ownBlock∨v'.ownBlock=some w1.heap.size) :
  Tab (w3.setCell ⟨gb,3,none⟩ v') B kd od (.slice (some ⟨gb,0,none⟩) (1+rest.length) c) v' vi (ks ++ [x]) is rest ncs∧Below B w (w3.setCell ⟨gb,3,none⟩ v'):=by
 have h1:=h.keep hb
 have hgB:B≤gb:=(h.row.lt gb rfl).1
 have hrk:=own_kind h.row (g:=gb) rfl
 have hVn:vk.ownBlock≠some gb:=fun e=>by
  obtain⟨C,fz,hc⟩:=own_kind h.rk e
  obtain⟨C',fz',hc'⟩:=hrk
  exact absurd (cells_kind hc hc') (by decide)
 have hv'n:v'.ownBlock≠some gb:=fun e=>by
  rcases hat with e1 | e1
  ·exact hVn (e1▸e)
  ·rw [e1] at e
   have:=Option.some.inj e
   have:=(h.row.lt gb rfl).2
   have:=hb.size
   omega
 have hrow3:w3.ownsRow B 30 5 (.slice (some ⟨gb,0,none⟩) (1+rest.length) c) (1+rest.length) (headC kd od vk vi ++ ncs):=own_same h1.row fun b hb'=>hg.block b (h1.row.lt b hb').2 (fun e=>by have:=Option.some.inj hb';subst this;exact hVn e.symm)
 have hOne:∀b,vi.ownBlock=some b→v'.ownBlock≠some b:=fun b e1 e2=>by
  rcases hat with e3 | e3
  ·rw [e3] at e2;exact h.ne b e2 e1
  ·rw [e3] at e2
   have:=Option.some.inj e2
   have:=(h.ri.lt b e1).2
   have:=hb.size
   omega
 have hO3:w3.ownsRow B 3 1 vi is.length (I64 is):=own_same h1.ri fun b hb'=>hg.block b (h1.ri.lt b hb').2 (fun e=>by exact h.ne b e.symm hb')
 have hBw1:B≤w1.heap.size:=Nat.le_trans hBw hb.size
 refine⟨⟨?_,?_,?_,?_,?_⟩,?_⟩
 ·have h2:=own_set1 hrow3 3 v'
  exact h2
 ·exact(by rw [I64_append,List.length_append,List.length_singleton];exact own_far (p:=⟨gb,3,none⟩) hown hv'n v')
 ·exact own_far (p:=⟨gb,3,none⟩) hO3 (fun e=>by obtain⟨C,fz,hc⟩:=own_kind h.ri e;obtain⟨C',fz',hc'⟩:=hrk;exact absurd (cells_kind hc hc') (by decide)) v'
 ·exact fun b e1 e2=>hOne b e2 e1
 ·refine h1.rd.over fun b hl hF hk=>⟨?_,hF.1,?_,?_⟩
  ·refine(setCell_heap_ne _ _ _ ?_).trans (hg.block b hl ?_)
   ·rintro rfl
    obtain⟨C,fz,hc⟩:=hk
    obtain⟨C',fz',hc'⟩:=hrk
    rw [←hb.block _ (h.row.lt _ rfl).2] at hc'
    exact absurd (cells_kind hc hc') (by decide)
   ·exact fun e=>hF.2.1 e.symm
  ·exact fun e=>by rcases hat with e3 | e3;exact hF.2.1 (e3▸e);rw [e3] at e;have:=Option.some.inj e;omega
  ·exact hF.2.2
 ·exact((hb.mono hBw).trans (below_of_grown hg hBw1 (fun k e=>(h.rk.lt k e).1))).setCell (p:=⟨gb,3,none⟩) hgB v'
theorem Tab.push_i {w1 w3:World} {v':Value} {gb c:Nat} {x:Int} (h:Tab w B kd od (.slice (some ⟨gb,0,none⟩) (1+rest.length) c) vk vi ks is rest ncs) (hBw:B≤w.heap.size) (hb:Below w.heap.size w w1) (hg:w1.grownBy w3 vi.ownBlock) (hown:w3.ownsRow B 3 1 v' (is.length+1) (I64 is ++ [.int .i64 x])) (hat:v'.ownBlock=vi.ownBlock∨v'.ownBlock=some w1.heap.size) :
  Tab (w3.setCell ⟨gb,4,none⟩ v') B kd od (.slice (some ⟨gb,0,none⟩) (1+rest.length) c) vk v' ks (is ++ [x]) rest ncs∧Below B w (w3.setCell ⟨gb,4,none⟩ v'):=by
 have h1:=h.keep hb
 have hgB:B≤gb:=(h.row.lt gb rfl).1
 have hrk:=own_kind h.row (g:=gb) rfl
 have hVn:vi.ownBlock≠some gb:=fun e=>by
  obtain⟨C,fz,hc⟩:=own_kind h.ri e
  obtain⟨C',fz',hc'⟩:=hrk
  exact absurd (cells_kind hc hc') (by decide)
 have hv'n:v'.ownBlock≠some gb:=fun e=>by
  rcases hat with e1 | e1
  ·exact hVn (e1▸e)
  ·rw [e1] at e
   have:=Option.some.inj e
   have:=(h.row.lt gb rfl).2
   have:=hb.size
   omega
 have hrow3:w3.ownsRow B 30 5 (.slice (some ⟨gb,0,none⟩) (1+rest.length) c) (1+rest.length) (headC kd od vk vi ++ ncs):=own_same h1.row fun b hb'=>hg.block b (h1.row.lt b hb').2 (fun e=>by have:=Option.some.inj hb';subst this;exact hVn e.symm)
 have hOne:∀b,vk.ownBlock=some b→v'.ownBlock≠some b:=fun b e1 e2=>by
  rcases hat with e3 | e3
  ·rw [e3] at e2;exact h.ne b e1 e2
  ·rw [e3] at e2
   have:=Option.some.inj e2
   have:=(h.rk.lt b e1).2
   have:=hb.size
   omega
 have hO3:w3.ownsRow B 3 1 vk ks.length (I64 ks):=own_same h1.rk fun b hb'=>hg.block b (h1.rk.lt b hb').2 (fun e=>by exact h.ne b hb' e.symm)
 have hBw1:B≤w1.heap.size:=Nat.le_trans hBw hb.size
 refine⟨⟨?_,?_,?_,?_,?_⟩,?_⟩
 ·have h2:=own_set1 hrow3 4 v'
  exact h2
 ·exact own_far (p:=⟨gb,4,none⟩) hO3 (fun e=>by obtain⟨C,fz,hc⟩:=own_kind h.rk e;obtain⟨C',fz',hc'⟩:=hrk;exact absurd (cells_kind hc hc') (by decide)) v'
 ·exact(by rw [I64_append,List.length_append,List.length_singleton];exact own_far (p:=⟨gb,4,none⟩) hown hv'n v')
 ·exact fun b e1 e2=>hOne b e1 e2
 ·refine h1.rd.over fun b hl hF hk=>⟨?_,hF.1,?_,?_⟩
  ·refine(setCell_heap_ne _ _ _ ?_).trans (hg.block b hl ?_)
   ·rintro rfl
    obtain⟨C,fz,hc⟩:=hk
    obtain⟨C',fz',hc'⟩:=hrk
    rw [←hb.block _ (h.row.lt _ rfl).2] at hc'
    exact absurd (cells_kind hc hc') (by decide)
   ·exact fun e=>hF.2.2 e.symm
  ·exact hF.2.1
  ·exact fun e=>by rcases hat with e3 | e3;exact hF.2.2 (e3▸e);rw [e3] at e;have:=Option.some.inj e;omega
 ·exact((hb.mono hBw).trans (below_of_grown hg hBw1 (fun k e=>(h.ri.lt k e).1))).setCell (p:=⟨gb,4,none⟩) hgB v'
end
end Go.Proofs.YtnnnagnjikdnnaaGreatDoor
namespace Go.Proofs.YtnnnagnjikdnnaaGreatDoor
open Go.RowKit
def sclV (s t:ByteArray):Int:=if s.toList=t.toList then 0 else Lib.compareBytes s.data.toList t.data.toList
set_option maxRecDepth 20000 in
set_option maxHeartbeats 4000000 in
theorem cscalar_any (s t:ByteArray) (w:World):Calls Tryz.prog 149 #[.int .i64 5,.string s,.string t] w fun e w'=>e=.returned (.int .i64 (sclV s t))∧w'=w:=by
 obtain⟨v,hv⟩:∃v,sclV s t=v:=⟨_,rfl⟩
 rw [hv]
 unfold sclV at hv
 by_cases h:s.toList=t.toList
 ·rw [if_pos h] at hv
  subst hv
  have hb:(s.toList == t.toList)=true:=by simpa using h
  go_enter Tryz.func149,Tryz.ntmps149
  go_wp2_with (fail)
  go_ret
  exact⟨rfl,rfl⟩
 ·rw [if_neg h] at hv
  have DC:=Lib.hid (Tryz.strings_Compare s t)
  rw [hv] at DC
  clear hv
  have hb:(s.toList == t.toList)=false:=by simpa using h
  go_enter Tryz.func149,Tryz.ntmps149
  go_wp2_with (go_at_call 71;((with_reducible refine(DC.out _).mono ?_));rintro e w2 ⟨rfl,rfl⟩)
  go_ret
  exact⟨rfl,rfl⟩
def acyV (nodes:List GNode) (root:Int):Int:=if chkV nodes root=0 then (if (depthR nodes root).2=true then 0 else 14) else 3
set_option maxRecDepth 20000 in
set_option maxHeartbeats 4000000 in
theorem acyclic_any {B g o c:Nat} {nodes:List GNode} {root:Int} (hO:ChkOK nodes root) (w:World) (hw:LibE w) (hG:GRd w B g o nodes) :
  Calls Tryz.prog 62 #[.agg #[.slice (some ⟨g,o,none⟩) nodes.length c,.int .i64 root]] w fun e w'=>e=.returned (.int .i64 (acyV nodes root))∧Below w.heap.size w w':=by
 have h1:Hid (Arr (w.alloc (.cells #[.slice (some ⟨g,o,none⟩) nodes.length c,.int .i64 root] 26)) w.heap.size 26 [.slice (some ⟨g,o,none⟩) nodes.length c,.int .i64 root]):=Arr.new w _ _
 have hB1:Hid (Below w.heap.size w (w.alloc (.cells #[.slice (some ⟨g,o,none⟩) nodes.length c,.int .i64 root] 26))):=(Below.refl _ _).alloc (Nat.le_refl _) _
 have HG:=Lib.hid hG
 have HW:=Lib.hid hw
 have hwW:=hw.keep hB1.out
 have hGW:=HG.out.below hB1.out HG.out.2.1
 have DC:=Lib.hid (gcheck_any (c:=c) hO _ hwW hGW)
 have DD:=Lib.hid (fun(w':World) (h:LibE w') (h':GRd w' B g o nodes)=>gdepth_any (c:=c) hO w' h h')
 obtain⟨R,hR⟩:∃R,acyV nodes root=R:=⟨_,rfl⟩
 have HR:=Lib.hid hR
 rw [hR]
 unfold acyV at hR
 clear hO hG hw HR
 go_enter Tryz.func62,Tryz.ntmps62
 go_upto_region 1 with(fail)
 generalize w.alloc (.cells #[.slice (some ⟨g,o,none⟩) nodes.length c,.int .i64 root] 26)=W at *
 have x0:=h1.out.cell' (i:=0) rfl
 have x1:=h1.out.cell' (i:=1) rfl
 have hgl:=h1.out.lt
 generalize nodes.length=n at *
 by_cases hc:chkV nodes root=0
 ·rw [if_pos hc] at hR
  rw [hc] at DC
  generalize (depthR nodes root).1=dv at *
  generalize (depthR nodes root).2=db at *
  clear hc
  go_upto_region 3 with(go_at_call 26;((with_reducible refine DC.out.mono ?_));rintro e w2 ⟨rfl,hb2⟩)
  have hX2:=Lib.hid (h1.out.keep hb2)
  have hB2:=Lib.hid (hB1.out.trans (hb2.mono hB1.out.size))
  clear x0 x1 DC
  have x0:=hX2.out.cell' (i:=0) rfl
  have x1:=hX2.out.cell' (i:=1) rfl
  have hw2:=Lib.hid (HW.out.keep hB2.out)
  have hG2:=Lib.hid (HG.out.below hB2.out HG.out.2.1)
  cases db with
  | true=>
   rw [if_pos rfl] at hR
   subst hR
   go_wp2_with (go_at_call 96;((with_reducible refine(DD.out _ hw2.out hG2.out).mono ?_));rintro e w3 ⟨rfl,hb3⟩)
   go_ret
   exact⟨rfl,hB2.out.trans (hb3.mono hB2.out.size)⟩
  | false=>
   rw [if_neg (by simp)] at hR
   subst hR
   go_wp2_with (go_at_call 96;((with_reducible refine(DD.out _ hw2.out hG2.out).mono ?_));rintro e w3 ⟨rfl,hb3⟩)
   go_ret
   exact⟨rfl,hB2.out.trans (hb3.mono hB2.out.size)⟩
 ·rw [if_neg hc] at hR
  subst hR
  generalize chkV nodes root=cv at *
  have hc2:(cv != 0)=true:=by simpa using hc
  go_wp2_with (go_at_call 26;((with_reducible refine DC.out.mono ?_));rintro e w2 ⟨rfl,hb2⟩)
  go_ret
  exact⟨rfl,hB1.out.trans (hb2.mono hB1.out.size)⟩
theorem mk_ints1 (w:World):(Instr.makeSlice 134 (.int .i64 1) (.int .i64 1)).run Tryz.prog w=.ok (.slice (some ⟨w.heap.size,0,none⟩) 1 1) (w.alloc (.cells #[.slice none 0 0] 28)):=by kernel_rfl
structure TabR (w:World) (tb sb g c:Nat):Prop where
 tab:Arr w tb 145 [.slice (some ⟨g,0,none⟩) 1 c,.int .i64 0,.slice (some ⟨sb,0,none⟩) 1 1]
 srt:Arr w sb 28 [.slice none 0 0]
theorem TabR.below {w w':World} {B tb sb g c:Nat} (h:TabR w tb sb g c) (hb:Below B w w') (h1:tb<B) (h2:sb<B):TabR w' tb sb g c:=⟨h.tab.below hb h1,h.srt.below hb h2⟩
theorem TabR.keep {w w':World} {tb sb g c:Nat} (h:TabR w tb sb g c) (hb:Below w.heap.size w w'):TabR w' tb sb g c:=⟨h.tab.keep hb,h.srt.keep hb⟩
set_option maxRecDepth 20000 in
set_option maxHeartbeats 4000000 in
theorem canonOf_any {g c:Nat} (w:World) :
  Calls Tryz.prog 57 #[.agg #[.slice (some ⟨g,0,none⟩) 1 c,.int .i64 0]] w fun e w'=>∃tb sb,e=.returned (.pointer (some ⟨tb,0,none⟩))∧w.heap.size≤tb∧w.heap.size≤sb∧Below w.heap.size w w'∧TabR w' tb sb g c:=by
 have h1:Hid (Arr (w.alloc (.cells #[.slice (some ⟨g,0,none⟩) 1 c,.int .i64 0] 26)) w.heap.size 26 [.slice (some ⟨g,0,none⟩) 1 c,.int .i64 0]):=Arr.new w _ _
 have hB1:Hid (Below w.heap.size w (w.alloc (.cells #[.slice (some ⟨g,0,none⟩) 1 c,.int .i64 0] 26))):=(Below.refl _ _).alloc (Nat.le_refl _) _
 go_enter Tryz.func57,Tryz.ntmps57
 go_upto_region 1 with(fail)
 generalize w.alloc (.cells #[.slice (some ⟨g,0,none⟩) 1 c,.int .i64 0] 26)=W at *
 have x0:W.drew.cell? ⟨w.heap.size,0,none⟩=some (.slice (some ⟨g,0,none⟩) 1 c):=h1.out.cell' (i:=0) rfl
 have x1:W.drew.cell? ⟨w.heap.size,1,none⟩=some (.int .i64 0):=h1.out.cell' (i:=1) rfl
 have hmk:=mk_ints1 W.drew
 have h1a:Hid (Arr (W.alloc (.cells #[.slice none 0 0] 28)) w.heap.size 26 [.slice (some ⟨g,0,none⟩) 1 c,.int .i64 0]):=h1.out.alloc _
 have y0:=h1.out.cell' (i:=0) rfl
 have y1:=h1.out.cell' (i:=1) rfl
 have z0:=h1a.out.cell' (i:=0) rfl
 have z1:=h1a.out.cell' (i:=1) rfl
 go_region
 obtain⟨hS2,hT2,hb2,hz2⟩:=box2 W 28 145 [.slice none 0 0] [.slice (some ⟨g,0,none⟩) 1 c,.int .i64 0,.slice (some ⟨W.heap.size,0,none⟩) 1 1]
 have hs:=hB1.out.size
 go_wp2_with (fail)
 go_ret
 exact⟨W.heap.size+1,W.heap.size,rfl,by omega,hs,(hB1.out.trans (hb2.mono hs)).drew,⟨hT2.out,hS2.out⟩⟩
set_option maxRecDepth 20000 in
set_option maxHeartbeats 8000000 in
theorem centries_leaf {B tb sb g c:Nat} {nd:GNode} (h2:nd.items = []) (hk:nd.kind=5) (w:World) (hG:GRd w B g 0 [nd]) (hT:TabR w tb sb g c) :
  Calls Tryz.prog 59 #[.pointer (some ⟨tb,0,none⟩),.int .i64 0] w fun e w'=>∃ob,e=.returned (.slice (some ⟨ob,0,none⟩) 0 0)∧w.grownBy w' (some sb):=by
 have h1:Hid (Arr (w.alloc (.cells #[.pointer (some ⟨tb,0,none⟩)] 107)) w.heap.size 107 [.pointer (some ⟨tb,0,none⟩)]):=Arr.new w _ _
 have hB1:Hid (Below w.heap.size w (w.alloc (.cells #[.pointer (some ⟨tb,0,none⟩)] 107))):=(Below.refl _ _).alloc (Nat.le_refl _) _
 have HG:=Lib.hid hG
 have HT:=Lib.hid (hT.keep hB1.out)
 have htl:=hT.tab.lt
 have hsl:=hT.srt.lt
 clear hG hT
 go_enter Tryz.func59,Tryz.ntmps59
 go_upto_region 1 with(fail)
 generalize w.alloc (.cells #[.pointer (some ⟨tb,0,none⟩)] 107)=W at *
 obtain⟨pb,hpb⟩:∃b,w.heap.size=b:=⟨_,rfl⟩
 rw [hpb] at h1 hB1 htl hsl ⊢
 have HPB:=Lib.hid hpb
 clear hpb
 have hGW:=Lib.hid (HG.out.below hB1.out (by have:=HG.out.2.1;have:=HPB.out;omega))
 have x0:=h1.out.cell' (i:=0) rfl
 have t0:=HT.out.tab.cell' (i:=0) rfl
 have t2:=HT.out.tab.cell' (i:=2) rfl
 have s0:=HT.out.srt.cell' (i:=0) rfl
 have hn5:Hid (Arr (W.alloc (.cells #[.pointer (some ⟨g,0,none⟩)] 110)) W.heap.size 110 [.pointer (some ⟨g,0,none⟩)]):=Arr.new W _ _
 have hb5:Hid (Below W.heap.size W (W.alloc (.cells #[.pointer (some ⟨g,0,none⟩)] 110))):=(Below.refl _ _).alloc (Nat.le_refl _) _
 go_upto_region 2 with(fail)
 clear x0 t0
 generalize (W.alloc (.cells #[.pointer (some ⟨g,0,none⟩)] 110))=w5 at *
 obtain⟨qb,hqb⟩:∃b,W.heap.size=b:=⟨_,rfl⟩
 have hs1:=hB1.out.size
 rw [hqb] at hn5 ⊢
 have HP5:=Lib.hid (h1.out.keep hb5.out)
 have HT5:=Lib.hid (HT.out.keep hb5.out)
 have hG5:=Lib.hid (hGW.out.below hb5.out (by exact hGW.out.2.1))
 have hg5:Hid (w.grownBy w5 (some sb)):=⟨hb5.out.os.trans hB1.out.os,hb5.out.tape.trans hB1.out.tape,hb5.out.output.trans hB1.out.output,Nat.le_trans hB1.out.size hb5.out.size,fun j hj _=>(hb5.out.block j (by omega)).trans (hB1.out.block j (by rw [←HPB.out];exact hj))⟩
 have hqs:sb<qb:=by have:=HPB.out;omega
 clear hqb t2 s0 h1 hB1 HT hGW hb5
 obtain⟨K,ck,I,ci,c0,_,_,_,c4,_,_⟩:=hG5.out.of_at (i:=0) (by simp)
 rw [Nat.zero_mul,Nat.add_zero] at c0 c4
 have e0:ndAt [nd] 0=nd:=rfl
 rw [e0] at c0 c4
 rw [hk] at c0
 rw [h2] at c4
 simp only [List.length_nil] at c4
 clear e0
 have x0:=HP5.out.cell' (i:=0) rfl
 have n0:=hn5.out.cell' (i:=0) rfl
 have t2:=HT5.out.tab.cell' (i:=2) rfl
 have s0:=HT5.out.srt.cell' (i:=0) rfl
 go_upto_region 5 with(at_make;go_loud (refine wpList_mk rfl _ _ 28 rfl 3 _ _ Tryz.underlying28 infoInt rfl _ _ _ _ rfl rfl 0 0 (by omega) (by omega) (by omega) (by omega) (by unfold maxLen;omega) ?_;intro ob w6 hob hO hb6 hz6))
 have hg6:Hid (w.grownBy w6 (some sb)):=grown_trans hg5.out ⟨hb6.os,hb6.tape,hb6.output,hb6.size,fun j hj _=>hb6.block j hj⟩
 have HP6:=Lib.hid (HP5.out.keep hb6)
 have HN6:=Lib.hid (hn5.out.keep hb6)
 have HT6:=Lib.hid (HT5.out.keep hb6)
 have c6:=(hb6.cell (block_lt_of_cell c0)).trans c0
 clear x0 n0 t2 s0 c0 c4 hob hO hb6 hz6 HP5 hn5 HT5 hG5 hg5
 go_upto_region 6 with(fail)
 go_loop [38] (fun v=>v=.int .i64 0) (fun _=>0)
 case atStart=>rfl
 case round=>
  obtain rfl:=hrel
  have x0:=HP6.out.cell' (i:=0) rfl
  have n0:=HN6.out.cell' (i:=0) rfl
  have t2:=HT6.out.tab.cell' (i:=2) rfl
  have s0:=HT6.out.srt.cell' (i:=0) rfl
  have sf:=HT6.out.srt.frozen 0
  go_wp2_with (fail)
  go_ret
  exact⟨⟨ob,rfl⟩,grown_trans hg6.out (grown_set _ ⟨sb,0,none⟩ _)⟩
end Go.Proofs.YtnnnagnjikdnnaaGreatDoor
namespace Go.Proofs.YtnnnagnjikdnnaaGreatDoor
open Go.RowKit Go.Maps
def TextN (nodes:List GNode) (k:Nat):Prop:=k<nodes.length∧(ndAt nodes k).kind=5∧(ndAt nodes k).ord=false
theorem text_cells {w:World} {B g o:Nat} {nodes:List GNode} {k:Nat} (hG:GRd w B g o nodes) (hk:TextN nodes k):w.cell? ⟨g,o+k*5,none⟩=some (.int .i64 5)∧w.cell? ⟨g,o+k*5+1,none⟩=some (.string (mks (ndAt nodes k).text))∧w.cell? ⟨g,o+k*5+2,none⟩=some (.bool false):=by
 obtain⟨K,ck,I,ci,c0,c1,c2,_⟩:=hG.of_at hk.1
 rw [hk.2.1] at c0
 rw [hk.2.2] at c2
 exact⟨c0,c1,c2⟩
def RetQ (v:Int) (w:World) (e:Ending) (w':World):Prop:=e=.returned (.int .i64 v)∧∃m,w'=w.drewN m
theorem drw_cell {w:World} {a:Addr} {u:Value} (n:Nat) (h:w.cell? a=some u):(w.drewN n).cell? a=some u:=h
set_option maxRecDepth 20000 in
set_option maxHeartbeats 8000000 in
theorem cdiffer_ne {B ta tb ga oa ca gb ob cb i j:Nat} {na nb:List GNode} (mv:Value) (hi:TextN na i) (hj:TextN nb j) (w:World) (hA:GRd w B ga oa na) (hB:GRd w B gb ob nb)
  (hTA:w.cell? ⟨ta,0,none⟩=some (.slice (some ⟨ga,oa,none⟩) na.length ca)) (hTB:w.cell? ⟨tb,0,none⟩=some (.slice (some ⟨gb,ob,none⟩) nb.length cb)) (hne:sclV (mks (ndAt na i).text) (mks (ndAt nb j).text)≠0) :
  Calls Tryz.prog 118 #[.pointer (some ⟨ta,0,none⟩),.int .i64 (i:Int),.pointer (some ⟨tb,0,none⟩),.int .i64 (j:Int),mv] w (RetQ (sclV (mks (ndAt na i).text) (mks (ndAt nb j).text)) w):=by
 obtain⟨a0,a1,a3⟩:=text_cells hA hi
 obtain⟨b0,b1,b3⟩:=text_cells hB hj
 have t0:=hTA
 have u0:=hTB
 have i0:(0:Int)≤i:=by omega
 have i1:(i:Int)<na.length:=by have:=hi.1;omega
 have j0:(0:Int)≤j:=by omega
 have j1:(j:Int)<nb.length:=by have:=hj.1;omega
 generalize mks (ndAt na i).text=sx at *
 generalize mks (ndAt nb j).text=sy at *
 obtain⟨r,hr⟩:∃r,sclV sx sy=r:=⟨_,rfl⟩
 have DS:=Lib.hid (fun w'=>cscalar_any sx sy w')
 rw [hr] at DS hne ⊢
 generalize na.length=ln at *
 generalize nb.length=lm at *
 have hr1:(r != 0)=true:=by simpa using hne
 clear hr hA hB hTA hTB hi hj hne
 go_enter Tryz.func118,Tryz.ntmps118
 go_upto_region 1 with(fail)
 go_quiet (fail)
 have HD:Hid (∃m,w.drewN nq=w.drewN m):=⟨nq,rfl⟩
 replace a0:=drw_cell nq a0
 replace a1:=drw_cell nq a1
 replace a3:=drw_cell nq a3
 replace b0:=drw_cell nq b0
 replace b1:=drw_cell nq b1
 replace b3:=drw_cell nq b3
 replace t0:=drw_cell nq t0
 replace u0:=drw_cell nq u0
 generalize (w.drewN nq)=w1 at *
 go_upto_region 2 with(fail)
 go_quiet (fail)
 replace HD:Hid (∃m,w1.drewN nq=w.drewN m):=by obtain⟨m,hm⟩:=HD.out;exact⟨m+nq,by rw [hm,World.drewN_drewN]⟩
 replace a0:=drw_cell nq a0
 replace a1:=drw_cell nq a1
 replace a3:=drw_cell nq a3
 replace b0:=drw_cell nq b0
 replace b1:=drw_cell nq b1
 replace b3:=drw_cell nq b3
 replace t0:=drw_cell nq t0
 replace u0:=drw_cell nq u0
 generalize (w1.drewN nq)=w2 at *
 go_upto_region 4 with(fail)
 go_quiet (fail)
 replace HD:Hid (∃m,w2.drewN nq=w.drewN m):=by obtain⟨m,hm⟩:=HD.out;exact⟨m+nq,by rw [hm,World.drewN_drewN]⟩
 replace a0:=drw_cell nq a0
 replace a1:=drw_cell nq a1
 replace a3:=drw_cell nq a3
 replace b0:=drw_cell nq b0
 replace b1:=drw_cell nq b1
 replace b3:=drw_cell nq b3
 replace t0:=drw_cell nq t0
 replace u0:=drw_cell nq u0
 generalize (w2.drewN nq)=w3 at *
 go_upto_region 6 with(fail)
 go_quiet (fail)
 replace HD:Hid (∃m,w3.drewN nq=w.drewN m):=by obtain⟨m,hm⟩:=HD.out;exact⟨m+nq,by rw [hm,World.drewN_drewN]⟩
 replace a0:=drw_cell nq a0
 replace a1:=drw_cell nq a1
 replace a3:=drw_cell nq a3
 replace b0:=drw_cell nq b0
 replace b1:=drw_cell nq b1
 replace b3:=drw_cell nq b3
 replace t0:=drw_cell nq t0
 replace u0:=drw_cell nq u0
 generalize (w3.drewN nq)=w4 at *
 go_upto_region 10 with(fail)
 go_quiet (((go_at_call 149;exact Calls.quiet_of_same (DS.out _))))
 replace HD:Hid (∃m,w4.drewN nq=w.drewN m):=by obtain⟨m,hm⟩:=HD.out;exact⟨m+nq,by rw [hm,World.drewN_drewN]⟩
 replace a0:=drw_cell nq a0
 replace a1:=drw_cell nq a1
 replace a3:=drw_cell nq a3
 replace b0:=drw_cell nq b0
 replace b1:=drw_cell nq b1
 replace b3:=drw_cell nq b3
 replace t0:=drw_cell nq t0
 replace u0:=drw_cell nq u0
 generalize (w4.drewN nq)=w5 at *
 clear a0 a1 a3 b0 b1 b3 t0 u0
 go_wp2_with (fail)
 go_ret
 exact⟨rfl,HD.out⟩
theorem look_nil (i j:Int) (w:World):(Instr.lookup 169 (.map none) (.agg #[.int .i64 i,.int .i64 j]) true).run Tryz.prog w=.ok (.tuple #[.int .i64 0,.bool false]) w:=by kernel_rfl
theorem neqm_nil (w:World):(binOp BinOp.neq 169 (.map none) (.map none)).run Tryz.prog w=.ok (.bool false) w:=by kernel_rfl
set_option maxRecDepth 20000 in
set_option maxHeartbeats 8000000 in
theorem ccompare_ne {B ta tb ga oa ca gb ob cb i j:Nat} {na nb:List GNode} (hi:TextN na i) (hj:TextN nb j) (w:World) (hA:GRd w B ga oa na) (hB:GRd w B gb ob nb)
  (hTA:w.cell? ⟨ta,0,none⟩=some (.slice (some ⟨ga,oa,none⟩) na.length ca)) (hTB:w.cell? ⟨tb,0,none⟩=some (.slice (some ⟨gb,ob,none⟩) nb.length cb)) (hne:sclV (mks (ndAt na i).text) (mks (ndAt nb j).text)≠0) :
  Calls Tryz.prog 88 #[.pointer (some ⟨ta,0,none⟩),.int .i64 (i:Int),.pointer (some ⟨tb,0,none⟩),.int .i64 (j:Int),.map none] w (RetQ (sclV (mks (ndAt na i).text) (mks (ndAt nb j).text)) w):=by
 have D:=Lib.hid (cdiffer_ne (.map none) hi hj w hA hB hTA hTB hne)
 have hl:=look_nil (i:Int) (j:Int) w
 have hn:=neqm_nil
 generalize sclV (mks (ndAt na i).text) (mks (ndAt nb j).text)=r at *
 clear hA hB hTA hTB hi hj hne
 go_enter Tryz.func88,Tryz.ntmps88
 go_wp2_with (go_at_call 118;((with_reducible refine D.out.mono ?_));rintro e w2 ⟨rfl,m,rfl⟩)
 go_ret
 exact⟨rfl,m,rfl⟩
end Go.Proofs.YtnnnagnjikdnnaaGreatDoor
