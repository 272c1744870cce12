/- Stores into the middle of the parser's nodes and spans. -/
import Derived.Test.YtgbkbgiogdhnaaaGreatDoorMBe
import Derived.Test.YtgbkbgiogdhnaaaGreatDoorMAg
import Derived.Test.YtgbkbgiogdhnaaaGreatDoorMAf
import Derived.StillTailTactics
set_option linter.unusedVariables false
set_option linter.unusedSimpArgs false
set_option linter.defProp false
set_option linter.constructorNameAsVariable false
namespace Go.Proofs.YtgbkbgiogdhnaaaGreatDoor
open Go.RowKit
theorem own_put {w:World} {b:Nat} {e:TypeId} {k g n cap:Nat} {xs:List Value} (h:w.ownsRow b e k (.slice (some ⟨g,0,none⟩) n cap) n xs) (i:Nat) (u:Value):(w.setCell ⟨g,i,none⟩ u).ownsRow b e k (.slice (some ⟨g,0,none⟩) n cap) n (xs.set i u):=by
 refine⟨by rw [List.length_set];exact h.1,?_⟩
 rcases h.2 with⟨hv,_⟩ | ⟨g',cap',cur,hv,hb,hg,h1,h2,h3,h4⟩
 ·cases hv
 ·injection hv with hv1 _ hv3
  injection hv1 with hv1
  injection hv1 with hv1
  subst hv1
  subst hv3
  refine .inr ⟨g,cap,cur.setIfInBounds i u,rfl,hb,?_,h1,h2,by simpa using h3,?_⟩
  ·simp [World.setCell,Array.getElem?_modify,hg]
  ·rw [Array.toList_setIfInBounds,List.take_set,h4]
def setL (xs:List Value):Nat→List Value→List Value
 | _,[]=>xs
 | o,v :: r=>setL (xs.set o v) (o+1) r
theorem own_puts {b:Nat} {e:TypeId} {k g n cap:Nat}:∀(vs:List Value) (o:Nat) {w:World} {xs:List Value},w.ownsRow b e k (.slice (some ⟨g,0,none⟩) n cap) n xs→(w.setCells g o vs).ownsRow b e k (.slice (some ⟨g,0,none⟩) n cap) n (setL xs o vs)
 | [],_,_,_,h=>h
 | v :: r,o,_,_,h=>own_puts r (o+1) (own_put h o v)
theorem setL_len (vs:List Value):∀(o:Nat) (xs:List Value),(setL xs o vs).length=xs.length:=by
 induction vs with
 | nil=>intro o xs;rfl
 | cons v r ih=>intro o xs;rw [setL,ih,List.length_set]
theorem setL_get (vs:List Value):∀(o:Nat) (xs:List Value) (j:Nat),o+vs.length≤xs.length→(setL xs o vs)[j]? = if o≤j∧j<o+vs.length then vs[j - o]? else xs[j]?:=by
 induction vs with
 | nil=>intro o xs j _;rw [setL,if_neg (by rw [List.length_nil];omega)]
 | cons v r ih=>
  intro o xs j hl
  rw [List.length_cons] at hl ⊢
  rw [setL,ih (o+1) (xs.set o v) j (by rw [List.length_set];omega)]
  by_cases h0:j=o
  ·subst h0
   rw [if_neg (by omega),if_pos (by omega),List.getElem?_set_self (by omega),Nat.sub_self]
   rfl
  ·by_cases h1:o+1≤j∧j<o+1+r.length
   ·rw [if_pos h1,if_pos (by omega),show j - o=(j - (o+1))+1 by omega,List.getElem?_cons_succ]
   ·rw [if_neg h1,if_neg (by omega),List.getElem?_set_ne (by omega)]
theorem heap_setCells (g:Nat):∀(vs:List Value) (o:Nat) (w:World) {i:Nat},i≠g→(w.setCells g o vs).heap[i]? = w.heap[i]?
 | [],_,_,_,_=>rfl
 | v :: r,o,w,i,h=>(heap_setCells g r (o+1) _ h).trans (Below.heap_setCell w ⟨g,o,none⟩ v i h)
theorem size_setCells (g:Nat):∀(vs:List Value) (o:Nat) (w:World),(w.setCells g o vs).heap.size=w.heap.size
 | [],_,_=>rfl
 | v :: r,o,w=>(size_setCells g r (o+1) _).trans (by simp [World.setCell])
theorem same_setCells (g:Nat):∀(vs:List Value) (o:Nat) (w:World),(w.setCells g o vs).os=w.os∧(w.setCells g o vs).tape=w.tape∧(w.setCells g o vs).output=w.output
 | [],_,_=>⟨rfl,rfl,rfl⟩
 | v :: r,o,w=>same_setCells g r (o+1) (w.setCell ⟨g,o,none⟩ v)
theorem own_there {w:World} {b:Nat} {e:TypeId} {k g n cap:Nat} {xs:List Value} (h:w.ownsRow b e k (.slice (some ⟨g,0,none⟩) n cap) n xs) {o m:Nat} (ho:o+m≤n*k):w.there g o m:=by
 rcases h.2 with⟨hv,_⟩ | ⟨g',cap',cur,hv,hb,hg,h1,h2,h3,h4⟩
 ·cases hv
 ·injection hv with hv1 _ hv3
  injection hv1 with hv1
  injection hv1 with hv1
  subst hv1
  subst hv3
  intro j hj
  have hle:n*k≤cap*k:=Nat.mul_le_mul_right _ h1
  refine⟨?_,frozen_of_row w g (o+j) cur e hg⟩
  rw [cell_of_row w g (o+j) cur e (0,0) hg,Array.getElem?_eq_getElem (by omega)]
  rfl
theorem own_cell {w:World} {b:Nat} {e:TypeId} {k g n cap:Nat} {xs:List Value} (h:w.ownsRow b e k (.slice (some ⟨g,0,none⟩) n cap) n xs) {i:Nat} {u:Value} (hu:xs[i]? = some u):w.cell? ⟨g,i,none⟩=some u∧w.frozen? ⟨g,i,none⟩=false:=by
 have h1:=h.cells (g:=g) rfl i u hu
 rw [Addr.add_mid,Nat.zero_add] at h1
 have hl:=(List.getElem?_eq_some_iff.1 hu).1
 have h2:=own_there h (o:=i) (m:=1) (by have:=h.1;omega) 0 (by omega)
 exact⟨h1,h2.2⟩
section
variable {w:World} {B pb:Nat} {F:Nat→Prop} {k:PK} {A:Option Addr} {n c:Nat} {vn vs:Value} {ncs:List Value} {st:PSt}
theorem PMx.drewN (h:PMx w B pb F k A n c vn vs ncs st) (m:Nat):PMx (w.drewN m) B pb F k A n c vn vs ncs st:=h.kept (Nat.le_refl _) (fun _ _ _=>rfl) (fun _ _=>rfl)
theorem PMx.drew (h:PMx w B pb F k A n c vn vs ncs st):PMx w.drew B pb F k A n c vn vs ncs st:=h.kept (Nat.le_refl _) (fun _ _ _=>rfl) (fun _ _=>rfl)
theorem PStep.drew {w w':World} {F F':Nat→Prop} (h:PStep w w' F F'):PStep w w'.drew F F':=⟨h.os,h.tape,h.output,h.size,h.keep,h.new⟩
theorem PStep.drewN {w w':World} {F F':Nat→Prop} (h:PStep w w' F F') (m:Nat):PStep w (w'.drewN m) F F':=⟨h.os,h.tape,h.output,h.size,h.keep,h.new⟩
theorem PStep.refl (w:World) (F:Nat→Prop):PStep w w F F:=⟨rfl,rfl,rfl,Nat.le_refl _,fun _ _ _=>rfl,fun _ h=>.inl h⟩
theorem PStep.far {w w':World} {F F':Nat→Prop} (h:PStep w w' F F') {p:Addr} (hp:w.heap.size≤p.block∨F p.block) (u:Value):PStep w (w'.setCell p u) F F':=
 ⟨h.os,h.tape,h.output,by simpa [World.setCell] using h.size,fun i hi hF=>(setCell_heap_ne _ _ _ (by rintro rfl;rcases hp with h1 | h1;omega;exact hF h1)).trans (h.keep i hi hF),h.new⟩
theorem PStep.grown {w w' w2:World} {F F':Nat→Prop} (h:PStep w w' F F') {row:Option Nat} (hg:w'.grownBy w2 row) (hr:∀g,row=some g→w.heap.size≤g):PStep w w2 F F':=
 ⟨hg.os.trans h.os,hg.tape.trans h.tape,hg.output.trans h.output,Nat.le_trans h.size hg.size,fun i hi hF=>(hg.block i (Nat.lt_of_lt_of_le hi h.size) (by intro e;have:=hr i e.symm;omega)).trans (h.keep i hi hF),h.new⟩
theorem PStep.below' {w w' w2:World} {F F':Nat→Prop} (h:PStep w w' F F') (hb:Below w'.heap.size w' w2):PStep w w2 F F':=h.trans (PStep.of_below hb)
theorem PMx.far (h:PMx w B pb F k A n c vn vs ncs st) {p:Addr} (hF:¬F p.block) (hA:∀ad,A=some ad→ad.block≠p.block) (u:Value):PMx (w.setCell p u) B pb F k A n c vn vs ncs st:=
 h.kept (by simp [World.setCell]) (fun g _ hg=>setCell_heap_ne _ _ _ (by rintro rfl;exact hF hg)) (fun ad e=>setCell_heap_ne _ _ _ (hA ad e))
theorem NodesRd.put (h:NodesRd w F ncs st.nodes) {i:Nat} (hi:i<st.nodes.length) {cs:List Value} {nd:GNode} (hn:NodeRd w F cs nd):NodesRd w F (setL ncs (i*5) cs) (st.nodes.set i nd):=by
 have hl:cs.length=5:=by obtain⟨K,nk,ck,I,ni,ci,rfl,_⟩:=hn;rfl
 have hb:i*5+cs.length≤ncs.length:=by rw [h.1,hl];omega
 refine⟨by rw [setL_len,List.length_set];exact h.1,fun j x hj=>?_⟩
 have hj2:=(List.getElem?_eq_some_iff.1 hj).1
 rw [List.length_set] at hj2
 by_cases hij:j=i
 ·subst hij
  rw [List.getElem?_set_self hi] at hj
  obtain rfl:=Option.some.inj hj
  have e:((setL ncs (j*5) cs).drop (j*5)).take 5=cs:=by
   apply List.ext_getElem?
   intro q
   rw [List.getElem?_take]
   by_cases hq:q<5
   ·rw [if_pos hq,List.getElem?_drop,setL_get _ _ _ _ hb,if_pos (by omega)]
    congr 1;omega
   ·rw [if_neg hq,List.getElem?_eq_none (by omega)]
  rw [e];exact hn
 ·rw [List.getElem?_set_ne (by omega)] at hj
  have e:((setL ncs (i*5) cs).drop (j*5)).take 5=(ncs.drop (j*5)).take 5:=by
   apply List.ext_getElem?
   intro q
   rw [List.getElem?_take,List.getElem?_take]
   by_cases hq:q<5
   ·rw [if_pos hq,if_pos hq,List.getElem?_drop,List.getElem?_drop,setL_get _ _ _ _ hb,if_neg (by omega)]
   ·rw [if_neg hq,if_neg hq]
  rw [e];exact h.2 j x hj
theorem PMx.nodeSet (h:PMx w B pb F k A n c vn vs ncs st) {F':Nat→Prop} {g m cap i:Nat} (hv:vn=.slice (some ⟨g,0,none⟩) m cap) (hi:i<st.nodes.length) {cs:List Value} {nd:GNode} (hF:∀g,F g→F' g) (hlo:∀g,F' g→B≤g) (hhi:∀g,F' g→g<w.heap.size)
  (hA:∀ad,A=some ad→¬F' ad.block) (hn:NodeRd w F' cs nd):PMx (w.setCells g (i*5) cs) B pb F' k A n c vn vs (setL ncs (i*5) cs) { st with nodes:=st.nodes.set i nd }:=by
 subst hv
 obtain⟨C,fz,hgb⟩:=own_kind h.nod (g:=g) rfl
 have hne:∀{i:Nat} {C':Array Value} {t:TypeId} {fz':Nat×Nat},w.heap[i]? = some (.cells C' t fz')→t≠43→i≠g:=fun hh ht e=>by subst e;exact ht (cells_kind hh hgb)
 have hm:m=st.nodes.length:=by
  rcases h.nod.2 with⟨hv,_⟩ | ⟨_,_,_,hv,_⟩
  ·cases hv
  ·injection hv with _ hv2 _
 subst hm
 have hnod:=own_puts cs (i*5) h.nod
 exact {
  par:=(heap_setCells g cs _ w (hne h.par (by decide))).trans h.par
  pF:=hF _ h.pF
  lo:=hlo
  hi:=fun i hi=>by rw [size_setCells];exact hhi i hi
  len:=h.len
  nc:=h.nc
  cm:=h.cm
  tok:=fun j u hj=>by
   obtain⟨ad,e,hc⟩:=h.tok j u hj
   obtain⟨_,_,C,fz,hbk⟩:=h.tokA ad e
   exact⟨ad,e,by rw [←hc];exact World.cell?_of_block (by rw [blk_add];exact heap_setCells g cs _ w (hne hbk (by decide)))⟩
  tokA:=fun ad e=>by
   obtain⟨h0,h1,C,fz,hbk⟩:=h.tokA ad e
   exact⟨h0,hA ad e,C,fz,by rw [heap_setCells g cs _ w (hne hbk (by decide)),hbk]⟩
  nod:=by rw [List.length_set];exact hnod
  nodF:=fun g e=>hF g (h.nodF g e)
  nrd:=((h.nrd.keep (fun g C fz _ hb=>hb) hF).put hi hn).keep (fun i C' fz' _ hb=>by rw [heap_setCells g cs _ w (hne hb (by decide)),hb]) (fun _ h=>h)
  spn:=own_same h.spn (fun i e=>by
   obtain⟨C',fz',h'⟩:=own_kind h.spn e
   exact heap_setCells g cs _ w (hne h' (by decide)))
  spnF:=fun g e=>hF g (h.spnF g e) }
end
end Go.Proofs.YtgbkbgiogdhnaaaGreatDoor
namespace Go.Proofs.YtgbkbgiogdhnaaaGreatDoor
open Go.RowKit
def PInv (st:PSt):Prop:=st.nodes.length≤4096∧st.spans.length≤st.nodes.length
structure PSub (m:Nat) (st st':PSt):Prop where
 left:∃j,m≤j∧j≤st.left.length∧st'.left=st.left.drop j
 nodes:st.nodes.length≤st'.nodes.length
 spans:st.spans.length≤st'.spans.length
theorem PSub.refl (st:PSt):PSub 0 st st:=⟨⟨0,Nat.le_refl _,Nat.zero_le _,rfl⟩,Nat.le_refl _,Nat.le_refl _⟩
theorem PSub.trans {m n:Nat} {a b c:PSt} (h:PSub m a b) (k:PSub n b c):PSub (m+n) a c:=by
 obtain⟨⟨j,h1,h2,h3⟩,h4,h5⟩:=h
 obtain⟨⟨i,k1,k2,k3⟩,k4,k5⟩:=k
 rw [h3,List.length_drop] at k2
 exact⟨⟨j+i,by omega,by omega,by rw [k3,h3,List.drop_drop]⟩,by omega,by omega⟩
theorem PSub.mono {m n:Nat} {a b:PSt} (h:PSub m a b) (hn:n≤m):PSub n a b:=by
 obtain⟨⟨j,h1,h2,h3⟩,h4,h5⟩:=h
 exact⟨⟨j,by omega,h2,h3⟩,h4,h5⟩
theorem PSub.len {m:Nat} {a b:PSt} (h:PSub m a b):b.left.length+m≤a.left.length:=by
 obtain⟨⟨j,h1,h2,h3⟩,_⟩:=h
 rw [h3,List.length_drop];omega
theorem PSub.ok {m:Nat} {a b:PSt} (h:PSub m a b) (ha:∀t∈a.left,TokOK t):∀t∈b.left,TokOK t:=by
 obtain⟨⟨j,h1,h2,h3⟩,_⟩:=h
 intro t ht
 rw [h3] at ht
 exact ha t (List.mem_of_mem_drop ht)
end Go.Proofs.YtgbkbgiogdhnaaaGreatDoor
namespace Go.Proofs.YtgbkbgiogdhnaaaGreatDoor
open Go.RowKit
def LibAt (B:Nat) (w:World):Prop:=∃W0,LibOK W0∧W0.heap.size=B∧Below B W0 w
theorem LibAt.ok {B:Nat} {w:World} (h:LibAt B w):LibOK w:=by obtain⟨W0,h1,rfl,h2⟩:=h;exact h1.keep h2
theorem LibAt.size {B:Nat} {w:World} (h:LibAt B w):B≤w.heap.size:=by obtain⟨W0,h1,rfl,h2⟩:=h;exact h2.size
theorem LibAt.step {B:Nat} {w w':World} (h:LibAt B w) (hb:Below B w w'):LibAt B w':=by obtain⟨W0,h1,h3,h2⟩:=h;exact⟨W0,h1,h3,h2.trans hb⟩
def ValR (w:World) (B pb:Nat) (F:Nat→Prop) (k:PK) (o:Except PErr (Int×PSt)) (e:Ending) (w':World):Prop:=
 match o with
 | .ok (v,st')=>∃F',e=.returned (.int .i64 v)∧PM w' B pb F' k st'∧PStep w w' F F'
 | .error x=>e=failE x∧Below B w w'
end Go.Proofs.YtgbkbgiogdhnaaaGreatDoor
namespace Go.Proofs.YtgbkbgiogdhnaaaGreatDoor
open Go.RowKit
section
variable {w:World} {B pb:Nat} {F:Nat→Prop} {k:PK} {A:Option Addr} {n c:Nat} {vn vs:Value} {ncs:List Value} {st:PSt}
end
end Go.Proofs.YtgbkbgiogdhnaaaGreatDoor
namespace Go.Proofs.YtgbkbgiogdhnaaaGreatDoor
open Go.RowKit
end Go.Proofs.YtgbkbgiogdhnaaaGreatDoor
namespace Go.Proofs.YtgbkbgiogdhnaaaGreatDoor
open Go.RowKit
section
variable {P:Program} {w:World} {ops:Array Oper} {o:Oper} {a:Act} {K:Act→World→Prop} {Q:Exit→Act→World→Prop} {E:Prop}
end
end Go.Proofs.YtgbkbgiogdhnaaaGreatDoor
namespace Go.Proofs.YtgbkbgiogdhnaaaGreatDoor
open Go.RowKit
structure LoopS (w:World) (B pb sb nb mb:Nat) (F0:Nat→Prop) (k:PK) (kd:Int) (cs:List Value) (L:Nat) (x:PLoop) (F:Nat→Prop) (A:Option Addr) (n c:Nat) (vn vs:Value) (ncs:List Value) (vk vi:Value) (wr:World):Prop where
 pm:PMx wr B pb F k A n c vn vs ncs x.st
 step:PStep w wr F0 F
 sp:Arr wr sb 87 cs
 spF:¬F sb
 nd:Arr wr nb 43 [.int .i64 kd,.string ⟨#[]⟩,.bool false,vk,vi]
 ndF:¬F nb
 mp:KeyMap wr mb x.ks.length x.ks
 mpF:¬F mb
 ok:wr.ownsRow w.heap.size 3 1 vk x.keys.length (I64 x.keys)
 oi:wr.ownsRow w.heap.size 3 1 vi x.items.length (I64 x.items)
 kF:∀g,vk.ownBlock=some g→¬F g
 iF:∀g,vi.ownBlock=some g→¬F g
 ki:∀g,vk.ownBlock=some g→vi.ownBlock≠some g
 tk:∀t∈x.st.left,TokOK t
 iv:PInv x.st
 li:LibAt B wr
 l1:x.items.length+x.st.left.length≤L
 l2:x.keys.length+x.st.left.length≤L
 l3:x.ks.length+x.st.left.length≤L
 bx:w.heap.size≤sb∧w.heap.size≤nb∧w.heap.size≤mb
 lob:B≤w.heap.size
section
variable {w:World} {B pb sb nb mb:Nat} {F0:Nat→Prop} {k:PK} {kd:Int} {cs:List Value} {L:Nat} {x:PLoop} {F:Nat→Prop} {A:Option Addr} {n c:Nat} {vn vs:Value} {ncs:List Value} {vk vi:Value} {wr:World}
theorem own_kept {w w':World} {F F':Nat→Prop} {b:Nat} {e:TypeId} {k:Nat} {v:Value} {n:Nat} {xs:List Value} (h:w.ownsRow b e k v n xs) (hs:PStep w w' F F') (hF:∀g,v.ownBlock=some g→¬F g):w'.ownsRow b e k v n xs:=
 own_same h (fun g hg=>hs.keep g (h.lt g hg).2 (hF g hg))
theorem LoopS.next (h:LoopS w B pb sb nb mb F0 k kd cs L x F A n c vn vs ncs vk vi wr) {w':World} {F':Nat→Prop} {A':Option Addr} {n' c':Nat} {vn' vs':Value} {ncs':List Value} {y:PLoop} (hs:PStep wr w' F F') (hp:PMx w' B pb F' k A' n' c' vn' vs' ncs' y.st)
  (h1:y.ks=x.ks) (h2:y.keys=x.keys) (h3:y.items=x.items) (h4:PInv y.st) (h5:∀t∈y.st.left,TokOK t) (h6:y.st.left.length≤x.st.left.length):LoopS w B pb sb nb mb F0 k kd cs L y F' A' n' c' vn' vs' ncs' vk vi w' where
 pm:=hp
 step:=h.step.trans hs
 sp:=hs.arr h.sp h.spF
 spF:=hs.out h.sp.lt h.spF
 nd:=hs.arr h.nd h.ndF
 ndF:=hs.out h.nd.lt h.ndF
 mp:=by rw [h1];exact h.mp.same (hs.keep mb h.mp.lt h.mpF)
 mpF:=hs.out h.mp.lt h.mpF
 ok:=by rw [h2];exact own_kept h.ok hs h.kF
 oi:=by rw [h3];exact own_kept h.oi hs h.iF
 kF:=fun g hg=>hs.out (h.ok.lt g hg).2 (h.kF g hg)
 iF:=fun g hg=>hs.out (h.oi.lt g hg).2 (h.iF g hg)
 ki:=h.ki
 tk:=h5
 iv:=h4
 li:=h.li.step (hs.below h.pm.lo h.li.size)
 l1:=by rw [h3];have:=h.l1;omega
 l2:=by rw [h2];have:=h.l2;omega
 l3:=by rw [h1];have:=h.l3;omega
 bx:=h.bx
 lob:=h.lob
theorem LoopS.below (h:LoopS w B pb sb nb mb F0 k kd cs L x F A n c vn vs ncs vk vi wr) {w':World} (hb:Below wr.heap.size wr w'):LoopS w B pb sb nb mb F0 k kd cs L x F A n c vn vs ncs vk vi w':=
 h.next (PStep.of_below hb) (h.pm.below hb) rfl rfl rfl h.iv h.tk (Nat.le_refl _)
theorem LoopS.tokNe (h:LoopS w B pb sb nb mb F0 k kd cs L x F A n c vn vs ncs vk vi wr) {g:Nat} {t:TypeId} {us:List Value} (ha:Arr wr g t us) (ht:t≠118):∀ad,A=some ad→ad.block≠g:=fun ad e e2=>by
 obtain⟨_,_,C,fz,hb⟩:=h.pm.tokA ad e
 rw [e2] at hb
 exact ht (cells_kind ha hb)
end
theorem map_kind {w:World} {b n:Nat} {ks:List (List Nat)} (h:KeyMap w b n ks) {g:Nat} {C:Array Value} {t:TypeId} {fz:Nat×Nat} (hg:w.heap[g]? = some (.cells C t fz)):g≠b:=by
 obtain⟨D,⟨es,clock,hb,_⟩,_⟩:=h
 rintro rfl
 rw [hb] at hg
 injection hg with hg
 cases hg
section
variable {w:World} {B pb sb nb mb:Nat} {F0:Nat→Prop} {k:PK} {kd:Int} {cs:List Value} {L:Nat} {x:PLoop} {F:Nat→Prop} {A:Option Addr} {n c:Nat} {vn vs:Value} {ncs:List Value} {vk vi:Value} {wr:World}
end
theorem ValR.out {w:World} {B pb:Nat} {F:Nat→Prop} {k:PK} {o:Except PErr (Int×PSt)} {w':World}:¬ValR w B pb F k o .outgrown w':=by
 intro h
 unfold ValR at h
 cases o with
 | error e=>obtain⟨h1,_⟩:=h;unfold failE at h1;cases h1
 | ok p=>obtain⟨v',st'⟩:=p;obtain⟨F',h1,_⟩:=h;cases h1
end Go.Proofs.YtgbkbgiogdhnaaaGreatDoor
namespace Go.Proofs.YtgbkbgiogdhnaaaGreatDoor
open Go.RowKit
theorem own_slice0 {w:World} {b:Nat} {e:TypeId} {k:Nat} {v:Value} {n:Nat} {xs:List Value} (h:w.ownsRow b e k v n xs) (hn:0<n):∃g c,v=.slice (some ⟨g,0,none⟩) n c∧n≤c∧c≤maxLen:=by
 rcases h.2 with⟨_,h0⟩ | ⟨g,cap,cur,rfl,_,_,h1,h2,_⟩
 ·omega
 ·exact⟨g,cap,rfl,h1,h2⟩
theorem IntsRd.of_own {w:World} {b:Nat} {A:Option Addr} {n c:Nat} {xs:List Int} (h:w.ownsRow b 3 1 (.slice A n c) n (I64 xs)) {F:Nat→Prop} (hF:∀g,(Value.slice A n c).ownBlock=some g→F g):IntsRd w F A n xs:=by
 have hl:n=xs.length:=by have:=h.1;simpa [I64] using this.symm
 refine⟨hl,fun j u hj=>?_,fun ad e=>?_⟩
 ·rcases h.2 with⟨_,h0⟩ | ⟨g,cap,cur,hv,_⟩
  ·have:xs = []:=List.eq_nil_of_length_eq_zero (by omega)
   subst this
   simp [I64] at hj
  ·injection hv with hv1 _ _
   subst hv1
   exact⟨_,rfl,h.cells (g:=g) rfl j u hj⟩
 ·subst e
  have hg:(Value.slice (some ad) n c).ownBlock=some ad.block:=rfl
  obtain⟨C,fz,hb⟩:=own_kind h hg
  exact⟨hF _ hg,C,fz,hb⟩
section
variable {w:World} {B pb sb nb mb:Nat} {F0:Nat→Prop} {k:PK} {kd:Int} {cs:List Value} {L:Nat} {x:PLoop} {F:Nat→Prop} {A:Option Addr} {n c:Nat} {vn vs:Value} {ncs:List Value} {vk vi:Value} {wr:World}
theorem LoopS.taken (h:LoopS w B pb sb nb mb F0 k kd cs L x F A n c vn vs ncs vk vi wr) {t:JTok} {r:List JTok} (hl:x.st.left=t :: r) {w1:World} {A':Option Addr} {n' c':Nat}
  (hp:PMx w1 B pb F k A' n' c' vn vs ncs { x.st with left:=r }) (hs:PStep wr w1 F F):LoopS w B pb sb nb mb F0 k kd cs L ⟨⟨r,x.st.nodes,x.st.spans⟩,x.ks,x.keys,x.items⟩ F A' n' c' vn vs ncs vk vi w1:=
 h.next hs hp rfl rfl rfl h.iv (fun t' ht=>h.tk t' (by rw [hl];exact List.mem_cons_of_mem _ ht)) (by rw [hl];simp)
theorem LoopS.closed (h:LoopS w B pb sb nb mb F0 k kd cs L x F A n c vn vs ncs vk vi wr) {g m cap i:Nat} (hv:vn=.slice (some ⟨g,0,none⟩) m cap) (hi:i<x.st.nodes.length) {A1 A2:Option Addr} {n1 n2 c1 c2:Nat} (hvk:vk=.slice A1 n1 c1) (hvi:vi=.slice A2 n2 c2) :
  ∃F',PM (wr.setCells g (i*5) [.int .i64 kd,.string ⟨#[]⟩,.bool false,.slice A1 n1 c1,.slice A2 n2 c2]) B pb F' k ⟨x.st.left,x.st.nodes.set i ⟨kd,[],false,x.keys,x.items⟩,x.st.spans⟩ ∧
   PStep w (wr.setCells g (i*5) [.int .i64 kd,.string ⟨#[]⟩,.bool false,.slice A1 n1 c1,.slice A2 n2 c2]) F0 F'∧Arr (wr.setCells g (i*5) [.int .i64 kd,.string ⟨#[]⟩,.bool false,.slice A1 n1 c1,.slice A2 n2 c2]) sb 87 cs:=by
 have hnk:n1=x.keys.length:=by have:=own_slice h.ok;rw [hvk] at this;obtain⟨_,_,e,_⟩:=this;injection e
 have hni:n2=x.items.length:=by have:=own_slice h.oi;rw [hvi] at this;obtain⟨_,_,e,_⟩:=this;injection e
 have hok:=h.ok
 have hoi:=h.oi
 have hkl:=fun g hg=>hok.lt g hg
 have hil:=fun g hg=>hoi.lt g hg
 rw [hvk,←hnk] at hok
 rw [hvi,←hni] at hoi
 have hgF:F g:=h.pm.nodF g (by rw [hv];rfl)
 have hsz:(wr.setCells g (i*5) [.int .i64 kd,.string ⟨#[]⟩,.bool false,.slice A1 n1 c1,.slice A2 n2 c2]).heap.size=wr.heap.size:=size_setCells _ _ _ _
 have hsame:=same_setCells g [.int .i64 kd,.string ⟨#[]⟩,.bool false,.slice A1 n1 c1,.slice A2 n2 c2] (i*5) wr
 have hww:=h.step.size
 refine⟨fun q=>F q∨vk.ownBlock=some q∨vi.ownBlock=some q,⟨A,n,c,vn,vs,_,h.pm.nodeSet hv hi (fun _ hf=>.inl hf) ?_ ?_ ?_ ?_⟩,?_,?_⟩
 ·rintro q (hf | hf | hf)
  ·exact h.pm.lo q hf
  ·exact Nat.le_trans h.lob (hkl q hf).1
  ·exact Nat.le_trans h.lob (hil q hf).1
 ·rintro q (hf | hf | hf)
  ·exact h.pm.hi q hf
  ·exact(hkl q hf).2
  ·exact(hil q hf).2
 ·rintro ad e (hf | hf | hf)
  ·exact(h.pm.tokA ad e).2.1 hf
  ·obtain⟨_,_,C,fz,hb⟩:=h.pm.tokA ad e
   obtain⟨C',fz',hb'⟩:=own_kind h.ok hf
   exact absurd (cells_kind hb hb') (by decide)
  ·obtain⟨_,_,C,fz,hb⟩:=h.pm.tokA ad e
   obtain⟨C',fz',hb'⟩:=own_kind h.oi hf
   exact absurd (cells_kind hb hb') (by decide)
 ·exact⟨A1,n1,c1,A2,n2,c2,rfl,IntsRd.of_own hok (fun q hq=>.inr (.inl (by rw [hvk];exact hq))),IntsRd.of_own hoi (fun q hq=>.inr (.inr (by rw [hvi];exact hq)))⟩
 ·refine⟨hsame.1.trans h.step.os,hsame.2.1.trans h.step.tape,hsame.2.2.trans h.step.output,by rw [hsz];exact hww,fun q hq hF=>?_,?_⟩
  ·rw [heap_setCells g _ _ wr (i:=q) (by
    rintro rfl
    rcases h.step.new q hgF with h1 | h1
    ·exact hF h1
    ·omega)]
   exact h.step.keep q hq hF
  ·rintro q (hf | hf | hf)
   ·exact h.step.new q hf
   ·exact .inr (hkl q hf).1
   ·exact .inr (hil q hf).1
 ·exact(heap_setCells g _ _ wr (by rintro rfl;exact h.spF hgF)).trans h.sp
end
theorem ValR.elim {w:World} {B pb:Nat} {F:Nat→Prop} {k:PK} {o:Except PErr (Int×PSt)} {e:Ending} {w':World} {M:Ending→World→Prop} (h:ValR w B pb F k o e w')
  (h1:∀v' st' F',o=.ok (v',st')→PM w' B pb F' k st'→PStep w w' F F'→M (.returned (.int .i64 v')) w') (h2:∀er,o=.error er→Below B w w'→M (failE er) w'):M e w':=by
 unfold ValR at h
 cases o with
 | error x=>obtain⟨rfl,hb⟩:=h;exact h2 x rfl hb
 | ok p=>obtain⟨v',st'⟩:=p;obtain⟨F',rfl,h3,h4⟩:=h;exact h1 v' st' F' rfl h3 h4
end Go.Proofs.YtgbkbgiogdhnaaaGreatDoor
