/- What a visit of canon's normal hands back; plain laws of its rows. -/
import Derived.Test.YtnnnagnjikdnnaaGreatDoorMAz
set_option linter.unusedVariables false
set_option linter.unusedSimpArgs false
set_option linter.defProp false
set_option linter.constructorNameAsVariable false
namespace Go.Proofs.YtnnnagnjikdnnaaGreatDoor
open Go.RowKit
def ownR (R:Nat→Prop) (z:Nat) (vk vi:Value) (b:Nat):Prop:=(R b∨z≤b)∧vk.ownBlock≠some b∧vi.ownBlock≠some b
def addR (R:Nat→Prop) (z:Nat) (b:Nat):Prop:=R b∨z≤b
def VNC (w0 w:World) (B g o c:Nat) (nodes:List GNode) (root:Int) (e:NmB) (R:Nat→Prop) (v:Int) (s':NSt) (en:Ending) (w':World):Prop:=
 en=.returned (.int .i64 v)∧∃ncs' es',Hid (NmE w0 w' B g o c nodes root e (addR R w.heap.size) s' ncs' es')∧Hid (NmS nodes.length s' es')∧PStep w w' (NmF e) (NmF e)
def VisN (w0:World) (B g o c:Nat) (nodes:List GNode) (root:Int) (e:NmB) (f:Nat):Prop:=∀(k:Nat) (w:World) (R:Nat→Prop) (s s':NSt) (v:Int) (ncs es:List Value),k<nodes.length→NmS nodes.length s es→NmE w0 w B g o c nodes root e R s ncs es→visitN nodes (entV nodes) f (k:Int) s=some (v,s') →
 Calls Tryz.prog 58 #[.int .i64 (k:Int),.pointer (some ⟨e.bat,0,none⟩),.pointer (some ⟨e.cn,0,none⟩),.pointer (some ⟨e.gr,0,none⟩),.pointer (some ⟨e.tp,0,none⟩),.pointer (some ⟨e.vi,0,none⟩),.pointer (some ⟨e.ou,0,none⟩)] w (VNC w0 w B g o c nodes root e R v s')
theorem own_app {w3:World} {zz:Nat} {v':Value} {ks:List Int} {x:Int} (hown:w3.ownsRow zz 3 1 v' (ks.length+1) (I64 ks ++ [.int .i64 x])):w3.ownsRow zz 3 1 v' (ks ++ [x]).length (I64 (ks ++ [x])):=by
 rw [I64_append,List.length_append,List.length_singleton];exact hown
structure NmL (w0 w wr:World) (B g o c:Nat) (nodes:List GNode) (root:Int) (e:NmB) (R:Nat→Prop) (z zz mb ob:Nat) (nd:GNode) (xs:List Int) (s:NSt) (ncs es:List Value) (vk vi:Value) (ks is:List Int):Prop where
 st:NmE w0 wr B g o c nodes root e (ownR R z vk vi) s ncs es
 sc:NmS nodes.length s es
 mb:Arr wr mb 30 [.int .i64 nd.kind,.string (mks nd.text),.bool nd.ord,vk,vi]
 rk:wr.ownsRow zz 3 1 vk ks.length (I64 ks)
 ri:wr.ownsRow zz 3 1 vi is.length (I64 is)
 ne:∀b,vk.ownBlock=some b→vi.ownBlock≠some b
 rd:Rd wr (some ⟨ob,0,none⟩) (I64 xs)
 ps:PStep w wr (NmF e) (NmF e)
 hz:zz≤wr.heap.size
structure NmC (w:World) (B:Nat) (e:NmB) (R:Nat→Prop) (z zz mb ob:Nat):Prop where
 lt:NmLt e z
 add:∀b,addR R z b→B≤b∧b≠e.am∧b≠e.cn
 hzz:z≤zz
 hmb:z≤mb∧mb<ob
 hob:ob<zz
 bz:B≤z
 wz:w.heap.size=z
theorem NmLt.nf {e:NmB} {z b:Nat} (h:NmLt e z) (hb:z≤b):¬NmF e b:=fun k=>by
 obtain⟨z1,z2,z3,z4,z5,z6,z7,z8,z9,z10⟩:=h
 rcases k with k | k | k | k <;> omega
section
variable {w0 w wr w7 w8:World} {B g o c:Nat} {nodes:List GNode} {root:Int} {e:NmB} {R:Nat→Prop} {z zz mb ob:Nat} {nd:GNode} {xs:List Int} {s s7:NSt} {ncs es ncs7 es7:List Value} {vk vi v8:Value} {ks is:List Int} {x:Int}
theorem NmL.push_k (h:NmL w0 w wr B g o c nodes root e R z zz mb ob nd xs s ncs es vk vi ks is) (hC:NmC w B e R z zz mb ob) (hE7:NmE w0 w7 B g o c nodes root e (addR (ownR R z vk vi) wr.heap.size) s7 ncs7 es7) (hS7:NmS nodes.length s7 es7) (hP7:PStep wr w7 (NmF e) (NmF e)) (ob1:Obj)
  (hown:w8.ownsRow zz 3 1 v8 (ks.length+1) (I64 ks ++ [.int .i64 x])) (hg:(w7.alloc ob1).grownBy w8 vk.ownBlock) (hat:v8.ownBlock=vk.ownBlock∨v8.ownBlock=some (w7.alloc ob1).heap.size) :
  NmL w0 w (w8.setCell ⟨mb,3,none⟩ v8) B g o c nodes root e R z zz mb ob nd xs s7 ncs7 es7 v8 vi (ks ++ [x]) is:=by
 obtain⟨hm1,hm2⟩:=hC.hmb
 have hoz:=hC.hob
 have hzz:=hC.hzz
 have nf:∀{b:Nat},z≤b→¬NmF e b:=fun hb=>hC.lt.nf hb
 have hbA:Below w7.heap.size w7 (w7.alloc ob1):=(Below.refl _ _).alloc (Nat.le_refl _) _
 have hszA:(w7.alloc ob1).heap.size=w7.heap.size+1:=by simp
 have hwr7:=hP7.size
 have hVlt:∀b,vk.ownBlock=some b→zz≤b∧b<wr.heap.size:=fun b e=>h.rk.lt b e
 have hOlt:∀b,vi.ownBlock=some b→zz≤b∧b<wr.heap.size:=fun b e=>h.ri.lt b e
 have hmbl:mb<wr.heap.size:=h.mb.lt
 have hVmb:vk.ownBlock≠some mb:=own_arr h.rk h.mb (by decide)
 have hOmb:vi.ownBlock≠some mb:=own_arr h.ri h.mb (by decide)
 have hOne:∀b,vi.ownBlock=some b→v8.ownBlock≠some b:=fun b e1 e2=>by
  rcases hat with e3 | e3
  ·rw [e3] at e2;exact h.ne b e2 e1
  ·rw [e3] at e2
   have:=Option.some.inj e2
   have:=(hOlt b e1).2
   omega
 have kp:∀b,b<wr.heap.size→z≤b→vk.ownBlock≠some b→w8.heap[b]? = wr.heap[b]?:=fun b hb hz hn=>(hg.block b (by omega) (fun e=>hn e.symm)).trans ((hbA.block b (by omega)).trans (hP7.keep b hb (nf hz)))
 have hmb8:Arr w8 mb 30 [.int .i64 nd.kind,.string (mks nd.text),.bool nd.ord,vk,vi]:=(kp mb hmbl hm1 hVmb).trans h.mb
 have hv8mb:v8.ownBlock≠some mb:=own_arr hown hmb8 (by decide)
 have hO8:w8.ownsRow zz 3 1 vi is.length (I64 is):=own_same h.ri fun b e1=>kp b (hOlt b e1).2 (by have:=(hOlt b e1).1;omega) (fun e2=>h.ne b e2 e1)
 have hown9:(w8.setCell ⟨mb,3,none⟩ v8).ownsRow zz 3 1 v8 (ks ++ [x]).length (I64 (ks ++ [x])):=own_far (p:=⟨mb,3,none⟩) (own_app hown) hv8mb v8
 have ho9:=own_far (p:=⟨mb,3,none⟩) hO8 hOmb v8
 -- the state
 have hE7':NmE w0 w7 B g o c nodes root e (fun b=>addR (ownR R z vk vi) wr.heap.size b∧b<w7.heap.size) s7 ncs7 es7:=hE7.rows (fun b hl hF=>⟨hF,hl⟩) (fun b hb=>hE7.rl b hb.1)
 have hE7a:=hE7'.kept hbA
 have hE8:=hE7a.far hg (z:=z) (fun b e1=>⟨by have:=(hVlt b e1).1;omega,.inl (fun hb=>by
  rcases hb.1 with hb | hb
  ·exact hb.2.1 e1
  ·have:=(hVlt b e1).2;omega)⟩) hC.lt hC.bz
 have hE8':NmE w0 w8 B g o c nodes root e (ownR R z v8 vi) s7 ncs7 es7:=hE8.rows (fun b hl hF=>by
  obtain⟨hb,hb7⟩:=hF
  have hnew:v8.ownBlock≠some b:=fun e1=>by
   rcases hat with e3 | e3
   ·rcases hb with hb | hb
    ·exact hb.2.1 (e3▸e1)
    ·have:=(hVlt b (e3▸e1)).2;omega
   ·rw [e3] at e1;have:=Option.some.inj e1;omega
  rcases hb with hb | hb
  ·exact⟨hb.1,hnew,hb.2.2⟩
  ·have hzw:z≤wr.heap.size:=by have:=h.ps.size;rw [hC.wz] at this;exact this
   exact⟨.inr (by omega),hnew,fun e1=>by have:=(h.ri.lt b e1).2;omega⟩) (fun b hb=>hC.add b hb.1)
 have hE9:=hE8'.far (grown_set w8 ⟨mb,3,none⟩ v8) (z:=z) (fun b e1=>by
  have:=Option.some.inj e1
  subst this
  exact⟨hm1,.inr ⟨_,_,hmb8,by decide⟩⟩) hC.lt hC.bz
 exact {
  st:=hE9
  sc:=hS7
  mb:=hmb8.store 3 v8
  rk:=hown9
  ri:=ho9
  ne:=fun b e1 e2=>hOne b e2 e1
  rd:=fun j u hj=>by
   obtain⟨ad,e1,hc⟩:=h.rd j u hj
   obtain rfl:=Option.some.inj e1
   have hob:ob<wr.heap.size:=by have h1:=block_lt_of_cell hc;rw [blk_add] at h1;exact h1
   refine⟨_,rfl,?_⟩
   rw [←hc]
   refine World.cell?_of_block ?_
   rw [blk_add]
   exact(setCell_heap_ne _ _ _ (show ob≠mb by omega)).trans (kp ob hob (by omega) (fun e2=>by have:=(hVlt ob e2).1;omega))
  ps:=(((h.ps.trans hP7).below' hbA).grown hg (fun b e1=>by have:=(hVlt b e1).1;rw [hC.wz];omega)).far (p:=⟨mb,3,none⟩) (.inl (by rw [hC.wz];exact hm1)) v8
  hz:=by have h1:=h.hz;have h2:=hg.size;rw [hszA] at h2;simp [World.setCell];omega }
theorem NmL.push_i (h:NmL w0 w wr B g o c nodes root e R z zz mb ob nd xs s ncs es vk vi ks is) (hC:NmC w B e R z zz mb ob) (hE7:NmE w0 w7 B g o c nodes root e (addR (ownR R z vk vi) wr.heap.size) s7 ncs7 es7) (hS7:NmS nodes.length s7 es7) (hP7:PStep wr w7 (NmF e) (NmF e)) (ob1:Obj)
  (hown:w8.ownsRow zz 3 1 v8 (is.length+1) (I64 is ++ [.int .i64 x])) (hg:(w7.alloc ob1).grownBy w8 vi.ownBlock) (hat:v8.ownBlock=vi.ownBlock∨v8.ownBlock=some (w7.alloc ob1).heap.size) :
  NmL w0 w (w8.setCell ⟨mb,4,none⟩ v8) B g o c nodes root e R z zz mb ob nd xs s7 ncs7 es7 vk v8 ks (is ++ [x]):=by
 obtain⟨hm1,hm2⟩:=hC.hmb
 have hoz:=hC.hob
 have hzz:=hC.hzz
 have nf:∀{b:Nat},z≤b→¬NmF e b:=fun hb=>hC.lt.nf hb
 have hbA:Below w7.heap.size w7 (w7.alloc ob1):=(Below.refl _ _).alloc (Nat.le_refl _) _
 have hszA:(w7.alloc ob1).heap.size=w7.heap.size+1:=by simp
 have hwr7:=hP7.size
 have hVlt:∀b,vi.ownBlock=some b→zz≤b∧b<wr.heap.size:=fun b e=>h.ri.lt b e
 have hOlt:∀b,vk.ownBlock=some b→zz≤b∧b<wr.heap.size:=fun b e=>h.rk.lt b e
 have hmbl:mb<wr.heap.size:=h.mb.lt
 have hVmb:vi.ownBlock≠some mb:=own_arr h.ri h.mb (by decide)
 have hOmb:vk.ownBlock≠some mb:=own_arr h.rk h.mb (by decide)
 have hOne:∀b,vk.ownBlock=some b→v8.ownBlock≠some b:=fun b e1 e2=>by
  rcases hat with e3 | e3
  ·rw [e3] at e2;exact h.ne b e1 e2
  ·rw [e3] at e2
   have:=Option.some.inj e2
   have:=(hOlt b e1).2
   omega
 have kp:∀b,b<wr.heap.size→z≤b→vi.ownBlock≠some b→w8.heap[b]? = wr.heap[b]?:=fun b hb hz hn=>(hg.block b (by omega) (fun e=>hn e.symm)).trans ((hbA.block b (by omega)).trans (hP7.keep b hb (nf hz)))
 have hmb8:Arr w8 mb 30 [.int .i64 nd.kind,.string (mks nd.text),.bool nd.ord,vk,vi]:=(kp mb hmbl hm1 hVmb).trans h.mb
 have hv8mb:v8.ownBlock≠some mb:=own_arr hown hmb8 (by decide)
 have hO8:w8.ownsRow zz 3 1 vk ks.length (I64 ks):=own_same h.rk fun b e1=>kp b (hOlt b e1).2 (by have:=(hOlt b e1).1;omega) (fun e2=>h.ne b e1 e2)
 have hown9:(w8.setCell ⟨mb,4,none⟩ v8).ownsRow zz 3 1 v8 (is ++ [x]).length (I64 (is ++ [x])):=own_far (p:=⟨mb,4,none⟩) (own_app hown) hv8mb v8
 have ho9:=own_far (p:=⟨mb,4,none⟩) hO8 hOmb v8
 -- the state
 have hE7':NmE w0 w7 B g o c nodes root e (fun b=>addR (ownR R z vk vi) wr.heap.size b∧b<w7.heap.size) s7 ncs7 es7:=hE7.rows (fun b hl hF=>⟨hF,hl⟩) (fun b hb=>hE7.rl b hb.1)
 have hE7a:=hE7'.kept hbA
 have hE8:=hE7a.far hg (z:=z) (fun b e1=>⟨by have:=(hVlt b e1).1;omega,.inl (fun hb=>by
  rcases hb.1 with hb | hb
  ·exact hb.2.2 e1
  ·have:=(hVlt b e1).2;omega)⟩) hC.lt hC.bz
 have hE8':NmE w0 w8 B g o c nodes root e (ownR R z vk v8) s7 ncs7 es7:=hE8.rows (fun b hl hF=>by
  obtain⟨hb,hb7⟩:=hF
  have hnew:v8.ownBlock≠some b:=fun e1=>by
   rcases hat with e3 | e3
   ·rcases hb with hb | hb
    ·exact hb.2.2 (e3▸e1)
    ·have:=(hVlt b (e3▸e1)).2;omega
   ·rw [e3] at e1;have:=Option.some.inj e1;omega
  rcases hb with hb | hb
  ·exact⟨hb.1,hb.2.1,hnew⟩
  ·have hzw:z≤wr.heap.size:=by have:=h.ps.size;rw [hC.wz] at this;exact this
   exact⟨.inr (by omega),fun e1=>by have:=(h.rk.lt b e1).2;omega,hnew⟩) (fun b hb=>hC.add b hb.1)
 have hE9:=hE8'.far (grown_set w8 ⟨mb,4,none⟩ v8) (z:=z) (fun b e1=>by
  have:=Option.some.inj e1
  subst this
  exact⟨hm1,.inr ⟨_,_,hmb8,by decide⟩⟩) hC.lt hC.bz
 exact {
  st:=hE9
  sc:=hS7
  mb:=hmb8.store 4 v8
  rk:=ho9
  ri:=hown9
  ne:=fun b e1 e2=>hOne b e1 e2
  rd:=fun j u hj=>by
   obtain⟨ad,e1,hc⟩:=h.rd j u hj
   obtain rfl:=Option.some.inj e1
   have hob:ob<wr.heap.size:=by have h1:=block_lt_of_cell hc;rw [blk_add] at h1;exact h1
   refine⟨_,rfl,?_⟩
   rw [←hc]
   refine World.cell?_of_block ?_
   rw [blk_add]
   exact(setCell_heap_ne _ _ _ (show ob≠mb by omega)).trans (kp ob hob (by omega) (fun e2=>by have:=(hVlt ob e2).1;omega))
  ps:=(((h.ps.trans hP7).below' hbA).grown hg (fun b e1=>by have:=(hVlt b e1).1;rw [hC.wz];omega)).far (p:=⟨mb,4,none⟩) (.inl (by rw [hC.wz];exact hm1)) v8
  hz:=by have h1:=h.hz;have h2:=hg.size;rw [hszA] at h2;simp [World.setCell];omega }
end
end Go.Proofs.YtnnnagnjikdnnaaGreatDoor
