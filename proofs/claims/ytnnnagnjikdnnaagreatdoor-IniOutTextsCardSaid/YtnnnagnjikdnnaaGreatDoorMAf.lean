/- The loop of value of json's parser: what holds at a round's head; its cases, plainly; steps of it. -/
import Derived.Test.YtnnnagnjikdnnaaGreatDoorMAe
import Derived.StillTailTactics
import Derived.Deep.RegionHeld3
import Derived.Laws.ResultCell
import Derived.Laws.Rows
set_option linter.unusedVariables false
set_option linter.unusedSimpArgs false
set_option linter.defProp false
set_option linter.constructorNameAsVariable false
namespace Go.Proofs.YtnnnagnjikdnnaaGreatDoor
open Go.RowKit
section
variable {w:World} {B pb sb nb mb:Nat} {F0:Nat→Prop} {k:PK} {kd:Int} {cs:List Value} {L:Nat} {x:PLoop} {F:Nat→Prop} {A:Option Addr} {n c:Nat} {vn vs:Value} {ncs:List Value} {vk vi:Value} {wr:World}
end
theorem I64_app (a:List Int) (v:Int):I64 a ++ [.int .i64 v]=I64 (a ++ [v]):=by simp [I64]
section
variable {w:World} {B pb sb nb mb:Nat} {F0:Nat→Prop} {k:PK} {kd:Int} {cs:List Value} {L:Nat} {x:PLoop} {F:Nat→Prop} {A:Option Addr} {n c:Nat} {vn vs:Value} {ncs:List Value} {vk vi:Value} {wr:World}
end
end Go.Proofs.YtnnnagnjikdnnaaGreatDoor
namespace Go.Proofs.YtnnnagnjikdnnaaGreatDoor
open Go.RowKit
theorem own_slice0 {w:World} {b:Nat} {e:TypeId} {k:Nat} {v:Value} {n:Nat} {xs:List Value} (h:w.ownsRow b e k v n xs) (hn:0<n):∃g c,v=.slice (some ⟨g,0,none⟩) n c∧n≤c∧c≤maxLen:=by
 rcases h.2 with⟨_,h0⟩ | ⟨g,cap,cur,rfl,_,_,h1,h2,_⟩
 ·omega
 ·exact⟨g,cap,rfl,h1,h2⟩
section
variable {w:World} {B pb sb nb mb:Nat} {F0:Nat→Prop} {k:PK} {kd:Int} {cs:List Value} {L:Nat} {x:PLoop} {F:Nat→Prop} {A:Option Addr} {n c:Nat} {vn vs:Value} {ncs:List Value} {vk vi:Value} {wr:World}
end
end Go.Proofs.YtnnnagnjikdnnaaGreatDoor
namespace Go.Proofs.YtnnnagnjikdnnaaGreatDoor
open Go.RowKit
structure Box (p:Prop):Prop where
 out:p
def Arg1 {G P:Prop} (_:Box G→P):Prop:=G
section
variable {w:World} {B pb sb nb mb:Nat} {F0:Nat→Prop} {k:PK} {kd:Int} {cs:List Value} {L:Nat} {x:PLoop} {F:Nat→Prop} {A:Option Addr} {n c:Nat} {vn vs:Value} {ncs:List Value} {vk vi:Value} {wr:World}
end
end Go.Proofs.YtnnnagnjikdnnaaGreatDoor
namespace Go.Proofs.YtnnnagnjikdnnaaGreatDoor
open Go.RowKit
def BRow (w:World) (B:Nat) (lab:Nat→Option Nat) (t:Nat) (v:Value) (xs:List Int):Prop:=w.ownsRow B 3 1 v xs.length (I64 xs)∧∀g,v.ownBlock=some g→lab g=some t
def BNode (w:World) (B:Nat) (lab:Nat→Option Nat) (i:Nat) (cs:List Value) (nd:GNode):Prop:=
 ∃vk vi,cs = [.int .i64 nd.kind,.string (mks nd.text),.bool nd.ord,vk,vi]∧BRow w B lab (2*i+2) vk nd.keys∧BRow w B lab (2*i+3) vi nd.items
theorem BRow.below {w w':World} {B:Nat} {lab:Nat→Option Nat} {t:Nat} {v:Value} {xs:List Int} (h:BRow w B lab t v xs) (hb:Below w.heap.size w w'):BRow w' B lab t v xs:=⟨own_below h.1 hb,h.2⟩
theorem BRow.far {w:World} {B:Nat} {lab:Nat→Option Nat} {t:Nat} {v:Value} {xs:List Int} (h:BRow w B lab t v xs) {p:Addr} (hp:v.ownBlock≠some p.block) (u:Value):BRow (w.setCell p u) B lab t v xs:=⟨own_far h.1 hp u,h.2⟩
theorem BNode.map {w w':World} {B:Nat} {lab lab':Nat→Option Nat} {i:Nat} {cs:List Value} {nd:GNode} (h:BNode w B lab i cs nd)
  (hk:∀t v xs,t=2*i+2∨t=2*i+3→BRow w B lab t v xs→BRow w' B lab' t v xs):BNode w' B lab' i cs nd:=by
 obtain⟨vk,vi,h1,h2,h3⟩:=h
 exact⟨vk,vi,h1,hk _ _ _ (.inl rfl) h2,hk _ _ _ (.inr rfl) h3⟩
section
variable {w w':World} {B:Nat} {s:List Nat} {vn vs vh vm:Value} {ncs:List Value} {lab:Nat→Option Nat} {st:CSt}
end
section
variable {W w3:World} {B:Nat} {s:List Nat} {vn vs vh vm:Value} {ncs:List Value} {lab:Nat→Option Nat} {st:CSt}
theorem cstep_set {w:World} {F:Nat→Prop} {g:Nat} (hg:F g) (i:Nat) (u:Value):PStep w (w.setCell ⟨g,i,none⟩ u) F F:=
 ⟨rfl,rfl,rfl,by simp [World.setCell],fun x hx hF=>setCell_heap_ne _ _ _ (fun e=>hF (by have:x=g:=e;rw [this];exact hg)),fun _ h=>.inl h⟩
theorem cstep_push {o:Obj} {v u:Value} {F F':Nat→Prop} (hgr:(W.alloc o).grownBy w3 v.ownBlock) (hv:∀g,v.ownBlock=some g→F g) {g:Nat} (hg:F g) {i:Nat} (hF:∀x,F' x→F x∨W.heap.size≤x):PStep W (w3.setCell ⟨g,i,none⟩ u) F F':=by
 have hb1:Below W.heap.size W (W.alloc o):=(Below.refl _ _).alloc (Nat.le_refl _) _
 refine⟨hgr.os.trans hb1.os,hgr.tape.trans hb1.tape,hgr.output.trans hb1.output,?_,fun x hx hnF=>?_,hF⟩
 ·have:=hgr.size;have:=hb1.size;simp [World.setCell];omega
 ·rw [setCell_heap_ne _ _ _ (fun e=>hnF (by have:x=g:=e;rw [this];exact hg)),hgr.block x (Nat.lt_of_lt_of_le hx hb1.size) (fun e=>hnF (hv x e.symm)),hb1.block x hx]
def labPut (lab:Nat→Option Nat) (v:Value) (t:Nat):Nat→Option Nat:=fun g=>if v.ownBlock=some g then some t else lab g
theorem own_grew {e e':TypeId} {k k' n n':Nat} {v v':Value} {xs xs':List Value} {o:Obj} {b b':Nat} (h:W.ownsRow b e k v n xs) (h0:W.ownsRow b' e' k' v' n' xs') (hne:e≠e') (hgr:(W.alloc o).grownBy w3 v'.ownBlock):w3.ownsRow b e k v n xs:=by
 have hb1:Below W.heap.size W (W.alloc o):=(Below.refl _ _).alloc (Nat.le_refl _) _
 have h1:=own_below h hb1
 have h2:=own_below h0 hb1
 exact own_same h1 (fun g hg=>hgr.block g (h1.lt g hg).2 (fun e2=>by
  rcases own_ne h1 h2 hne with e3 | e3
  ·rw [e3] at hg;cases hg
  ·exact e3 (hg.trans e2)))
theorem arr_grew {e' t:TypeId} {k' n' g:Nat} {v':Value} {xs us:List Value} {o:Obj} {b':Nat} (h:Arr W g t us) (h0:W.ownsRow b' e' k' v' n' xs) (hne:e'≠t) (hgr:(W.alloc o).grownBy w3 v'.ownBlock):Arr w3 g t us:=by
 have hb1:Below W.heap.size W (W.alloc o):=(Below.refl _ _).alloc (Nat.le_refl _) _
 exact(h.keep hb1).grown hgr (fun e=>own_arr (own_below h0 hb1) (h.keep hb1) hne e.symm)
theorem BRow.other {t t0:Nat} {v v0 v':Value} {xs xs0:List Int} {o:Obj} (h:BRow W B lab t v xs) (h0:BRow W B lab t0 v0 xs0) (ht:t≠t0) (hgr:(W.alloc o).grownBy w3 v0.ownBlock)
  (hat:v'.ownBlock=v0.ownBlock∨v'.ownBlock=some (W.alloc o).heap.size):BRow w3 B (labPut lab v' t0) t v xs:=by
 have hb1:Below W.heap.size W (W.alloc o):=(Below.refl _ _).alloc (Nat.le_refl _) _
 have h1:=own_below h.1 hb1
 refine⟨own_same h1 (fun g hg=>hgr.block g (h1.lt g hg).2 (fun e2=>?_)),fun g hg=>?_⟩
 ·have h6:=h.2 g hg
  have h7:=h0.2 g e2.symm
  rw [h6] at h7
  exact ht (Option.some.inj h7)
 ·unfold labPut
  by_cases e:v'.ownBlock=some g
  ·exfalso
   rcases hat with e2 | e2
   ·have h6:=h.2 g hg
    have h7:=h0.2 g (e2.symm.trans e)
    rw [h6] at h7
    exact ht (Option.some.inj h7)
   ·rw [e2] at e
    have:=(h.1.lt g hg).2
    have h8:=Option.some.inj e
    simp at h8
    omega
  ·rw [if_neg e];exact h.2 g hg
theorem BRow.pushed {t0:Nat} {v':Value} {xs0:List Int} {x:Int} (hown:w3.ownsRow B 3 1 v' (xs0.length+1) (I64 xs0 ++ [.int .i64 x])):BRow w3 B (labPut lab v' t0) t0 v' (xs0 ++ [x]):=by
 refine⟨?_,fun g hg=>by unfold labPut;rw [if_pos hg]⟩
 rw [List.length_append,←I64_app]
 exact hown
theorem labPut_B {t0:Nat} {v0 v':Value} {n:Nat} {xs:List Value} {o:Obj} (hB:∀g,(lab g).isSome=true→B≤g∧g<W.heap.size) (hown:w3.ownsRow B 3 1 v' n xs) (hgr:(W.alloc o).grownBy w3 v0.ownBlock) :
  ∀g,(labPut lab v' t0 g).isSome=true→B≤g∧g<w3.heap.size:=fun g hg=>by
 have hsz:=hgr.size
 simp at hsz
 unfold labPut at hg
 by_cases e:v'.ownBlock=some g
 ·exact hown.lt g e
 ·rw [if_neg e] at hg
  have:=hB g hg
  exact⟨this.1,by omega⟩
end
end Go.Proofs.YtnnnagnjikdnnaaGreatDoor
namespace Go.Proofs.YtnnnagnjikdnnaaGreatDoor
open Go.RowKit
structure KSt where
 i:Nat
 nodes:List GNode
structure KM (w:World) (B:Nat) (s:List Nat) (vn:Value) (ncs:List Value) (lab:Nat→Option Nat) (x:Nat→Prop) (st:KSt):Prop where
 par:Arr w B 116 [.string (mks s),.int .i64 (st.i:Int),vn]
 nod:w.ownsRow B 30 5 vn st.nodes.length ncs
 nds:∀i nd,st.nodes[i]? = some nd→¬x i→BNode w B lab i ((ncs.drop (i*5)).take 5) nd
 labB:∀g,(lab g).isSome=true→B≤g∧g<w.heap.size
def KF (B:Nat) (vn:Value) (lab:Nat→Option Nat) (g:Nat):Prop:=g=B∨vn.ownBlock=some g∨(lab g).isSome=true
def KRows (w:World) (B:Nat) (lab:Nat→Option Nat) (n:Nat) (w':World) (lab':Nat→Option Nat):Prop:=∀t v xs,t<2*n+2→BRow w B lab t v xs→BRow w' B lab' t v xs
theorem KRows.refl (w:World) (B:Nat) (lab:Nat→Option Nat) (n:Nat):KRows w B lab n w lab:=fun _ _ _ _ h=>h
theorem KRows.trans {w w1 w2:World} {B n m:Nat} {lab lab1 lab2:Nat→Option Nat} (h:KRows w B lab n w1 lab1) (k:KRows w1 B lab1 m w2 lab2) (hm:n≤m):KRows w B lab n w2 lab2:=fun t v xs ht hr=>k t v xs (by omega) (h t v xs ht hr)
section
variable {w w':World} {B:Nat} {s:List Nat} {vn:Value} {ncs:List Value} {lab:Nat→Option Nat} {x:Nat→Prop} {st:KSt}
theorem KM.cfB (h:KM w B s vn ncs lab x st):∀g,KF B vn lab g→B≤g:=by
 rintro g (rfl | e | e)
 ·exact Nat.le_refl _
 ·exact(h.nod.lt g e).1
 ·exact(h.labB g e).1
theorem KM.cfLt (h:KM w B s vn ncs lab x st):∀g,KF B vn lab g→g<w.heap.size:=by
 rintro g (rfl | e | e)
 ·exact h.par.lt
 ·exact(h.nod.lt g e).2
 ·exact(h.labB g e).2
theorem KM.lt (h:KM w B s vn ncs lab x st):B<w.heap.size:=h.par.lt
theorem KM.nlen (h:KM w B s vn ncs lab x st):ncs.length=st.nodes.length*5:=by have:=h.nod.1;omega
theorem KM.below (h:KM w B s vn ncs lab x st) (hb:Below w.heap.size w w'):KM w' B s vn ncs lab x st:=
 ⟨h.par.keep hb,own_below h.nod hb,fun i nd hi hx=>(h.nds i nd hi hx).map (fun _ _ _ _ hr=>hr.below hb),fun g hg=>⟨(h.labB g hg).1,Nat.lt_of_lt_of_le (h.labB g hg).2 hb.size⟩⟩
theorem KM.drew (h:KM w B s vn ncs lab x st):KM w.drew B s vn ncs lab x st:=h.below (Below.drew (Below.refl _ _))
theorem KM.nodNe (h:KM w B s vn ncs lab x st):vn.ownBlock≠some B:=own_arr h.nod h.par (by decide)
theorem KM.rowNe (h:KM w B s vn ncs lab x st) {t:Nat} {v:Value} {xs:List Int} (hr:BRow w B lab t v xs):v.ownBlock≠some B:=own_arr hr.1 h.par (by decide)
theorem KM.c0 (h:KM w B s vn ncs lab x st):w.cell? ⟨B,0,none⟩=some (.string (mks s)):=h.par.cell' (i:=0) rfl
theorem KM.c1 (h:KM w B s vn ncs lab x st):w.cell? ⟨B,1,none⟩=some (.int .i64 (st.i:Int)):=h.par.cell' (i:=1) rfl
theorem KM.c2 (h:KM w B s vn ncs lab x st):w.cell? ⟨B,2,none⟩=some vn:=h.par.cell' (i:=2) rfl
theorem KM.f (h:KM w B s vn ncs lab x st) (i:Nat):w.frozen? ⟨B,i,none⟩=false:=h.par.frozen i
theorem KM.hide (h:KM w B s vn ncs lab x st) (y:Nat→Prop) (hy:∀i,x i→y i):KM w B s vn ncs lab y st:=⟨h.par,h.nod,fun i nd hi hn=>h.nds i nd hi (fun e=>hn (hy i e)),h.labB⟩
theorem KM.setI (h:KM w B s vn ncs lab x st) (i:Nat):KM (w.setCell ⟨B,1,none⟩ (.int .i64 (i:Int))) B s vn ncs lab x { st with i:=i }:=
 ⟨h.par.store 1 (.int .i64 (i:Int)),own_far h.nod (p:=⟨B,1,none⟩) h.nodNe _,fun i nd hi hx=>(h.nds i nd hi hx).map (fun _ _ _ _ hr=>hr.far (p:=⟨B,1,none⟩) (h.rowNe hr) _),fun g hg=>by have:=h.labB g hg;simpa [World.setCell] using this⟩
theorem KM.far (h:KM w B s vn ncs lab x st) {p:Addr} (hp:¬KF B vn lab p.block) (u:Value):KM (w.setCell p u) B s vn ncs lab x st:=
 ⟨h.par.far (fun e=>hp (.inl e.symm)) u,own_far h.nod (fun e=>hp (.inr (.inl e))) u,fun i nd hi hx=>(h.nds i nd hi hx).map (fun _ _ _ _ hr=>hr.far (fun e=>hp (.inr (.inr (by rw [hr.2 _ e];rfl)))) u),fun g hg=>by have:=h.labB g hg;simpa [World.setCell] using this⟩
theorem BRow.farK {t:Nat} {v:Value} {xs:List Int} (h:BRow w B lab t v xs) {p:Addr} (hp:¬KF B vn lab p.block) (u:Value):BRow (w.setCell p u) B lab t v xs:=h.far (fun e=>hp (.inr (.inr (by rw [h.2 _ e];rfl)))) u
end
section
variable {W w3:World} {B:Nat} {s:List Nat} {vn:Value} {ncs:List Value} {lab:Nat→Option Nat} {x:Nat→Prop} {st:KSt}
theorem KM.addNode (h:KM W B s vn ncs lab x st) (nd:GNode) (cs:List Value) (v':Value) {o:Obj}
  (hown:w3.ownsRow B 30 5 v' (st.nodes.length+1) (ncs ++ cs)) (hgr:(W.alloc o).grownBy w3 vn.ownBlock)
  (hat:v'.ownBlock=vn.ownBlock∨v'.ownBlock=some (W.alloc o).heap.size) :
  Arr w3 B 116 [.string (mks s),.int .i64 (st.i:Int),vn] ∧
  KM (w3.setCell ⟨B,2,none⟩ v') B s v' (ncs ++ cs) lab (fun i=>x i∨i=st.nodes.length) { st with nodes:=st.nodes ++ [nd] }∧PStep W (w3.setCell ⟨B,2,none⟩ v') (KF B vn lab) (KF B v' lab) ∧
  ∀n,KRows W B lab n (w3.setCell ⟨B,2,none⟩ v') lab:=by
 have hlt:=h.lt
 have hl:=h.nlen
 have hsz:(W.alloc o).heap.size=W.heap.size+1:=by simp
 have P3:=arr_grew h.par h.nod (by decide) hgr
 have hv':v'.ownBlock≠some B:=by
  rcases hat with e | e
  ·rw [e];exact h.nodNe
  ·rw [e,hsz];intro e';have:=Option.some.inj e';omega
 have hrow:∀{t v xs},BRow W B lab t v xs→BRow (w3.setCell ⟨B,2,none⟩ v') B lab t v xs:=fun hr=>BRow.far (p:=⟨B,2,none⟩) ⟨own_grew hr.1 h.nod (by decide) hgr,hr.2⟩ (h.rowNe hr) v'
 refine⟨P3,⟨P3.store 2 v',?_,?_,fun g hg=>⟨(h.labB g hg).1,by have:=(h.labB g hg).2;have:=hgr.size;rw [hsz] at this;simp [World.setCell];omega⟩⟩,cstep_push hgr (fun g e=>.inr (.inl e)) (.inl rfl) ?_,fun _ _ _ _ _ hr=>hrow hr⟩
 ·rw [List.length_append];exact own_far hown (p:=⟨B,2,none⟩) hv' v'
 ·intro i y hy hxi
  have hlt2:i<st.nodes.length:=by
   have hy2:=(List.getElem?_eq_some_iff.1 hy).1
   have hne:i≠st.nodes.length:=fun e=>hxi (.inr e)
   simp at hy2
   omega
  have hy:(st.nodes ++ [nd])[i]? = some y:=hy
  rw [List.getElem?_append_left hlt2] at hy
  rw [List.drop_append_of_le_length (by rw [hl];omega),List.take_append_of_le_length (by rw [List.length_drop,hl];omega)]
  exact(h.nds i y hy (fun e=>hxi (.inl e))).map (fun _ _ _ _ hr=>hrow hr)
 ·rintro g (e | e | e)
  ·exact .inl (.inl e)
  ·rcases hat with e2 | e2
   ·exact .inl (.inr (.inl (e2.symm.trans e)))
   ·rw [e2,hsz] at e;have:=Option.some.inj e;exact .inr (by omega)
  ·exact .inl (.inr (.inr e))
theorem KM.grow {n t0:Nat} {v0 v':Value} {xs0:List Int} {k:Int} {o:Obj} (h:KM W B s vn ncs lab x st) (hx:x n) (ht:t0=2*n+2∨t0=2*n+3) (h0:BRow W B lab t0 v0 xs0)
  (hown:w3.ownsRow B 3 1 v' (xs0.length+1) (I64 xs0 ++ [.int .i64 k])) (hgr:(W.alloc o).grownBy w3 v0.ownBlock)
  (hat:v'.ownBlock=v0.ownBlock∨v'.ownBlock=some (W.alloc o).heap.size) :
  KM w3 B s vn ncs (labPut lab v' t0) x st∧BRow w3 B (labPut lab v' t0) t0 v' (xs0 ++ [k])∧(∀t v xs,t≠t0→BRow W B lab t v xs→BRow w3 B (labPut lab v' t0) t v xs)∧PStep W w3 (KF B vn lab) (KF B vn (labPut lab v' t0)):=by
 have hlt:=h.lt
 have hsz:(W.alloc o).heap.size=W.heap.size+1:=by simp
 have P3:=arr_grew h.par h0.1 (by decide) hgr
 have hrow:∀t v xs,t≠t0→BRow W B lab t v xs→BRow w3 B (labPut lab v' t0) t v xs:=fun t v xs hne hr=>hr.other h0 hne hgr hat
 have hb1:Below W.heap.size W (W.alloc o):=(Below.refl _ _).alloc (Nat.le_refl _) _
 refine⟨⟨P3,own_grew h.nod h0.1 (by decide) hgr,fun i y hy hxi=>?_,labPut_B h.labB hown hgr⟩,BRow.pushed hown,hrow,⟨hgr.os.trans hb1.os,hgr.tape.trans hb1.tape,hgr.output.trans hb1.output,by have:=hgr.size;have:=hb1.size;omega,fun g hg hnF=>?_,?_⟩⟩
 ·have hne:i≠n:=fun e=>hxi (by rw [e];exact hx)
  exact(h.nds i y hy hxi).map (fun t v xs ht' hr=>hrow t v xs (by omega) hr)
 ·rw [hgr.block g (Nat.lt_of_lt_of_le hg hb1.size) (fun e=>hnF (.inr (.inr (by rw [h0.2 g e.symm];rfl)))),hb1.block g hg]
 ·rintro y (e | e | e)
  ·exact .inl (.inl e)
  ·exact .inl (.inr (.inl e))
  ·unfold labPut at e
   by_cases e1:v'.ownBlock=some y
   ·rcases hat with e2 | e2
    ·exact .inl (.inr (.inr (by rw [h0.2 y (e2.symm.trans e1)];rfl)))
    ·rw [e2,hsz] at e1;have h8:=Option.some.inj e1;exact .inr (by omega)
   ·rw [if_neg e1] at e;exact .inl (.inr (.inr e))
theorem take5_setL {xs cs:List Value} {n:Nat} (hc:cs.length=5) (hl:n*5+5≤xs.length):((setL xs (n*5) cs).drop (n*5)).take 5=cs:=by
 apply List.ext_getElem?
 intro j
 rw [List.getElem?_take]
 by_cases hj:j<5
 ·rw [if_pos hj,List.getElem?_drop,setL_get _ _ _ _ (by omega),if_pos (by omega),Nat.add_sub_cancel_left]
 ·rw [if_neg hj,List.getElem?_eq_none (by omega)]
theorem else5_setL {xs cs:List Value} {n i:Nat} (hc:cs.length=5) (hl:n*5+5≤xs.length) (hi:i≠n):((setL xs (n*5) cs).drop (i*5)).take 5=(xs.drop (i*5)).take 5:=by
 apply List.ext_getElem?
 intro j
 rw [List.getElem?_take,List.getElem?_take]
 by_cases hj:j<5
 ·rw [if_pos hj,if_pos hj,List.getElem?_drop,setL_get _ _ _ _ (by omega),if_neg (by omega),List.getElem?_drop]
 ·rw [if_neg hj,if_neg hj]
theorem KM.putNode {n:Nat} {nd:GNode} {vk vi:Value} {y:Nat→Prop} (h:KM W B s vn ncs lab x st) (hy:∀i,x i→y i∨i=n) (hn:n<st.nodes.length) {gn cap:Nat} (hvn:vn=.slice (some ⟨gn,0,none⟩) st.nodes.length cap)
  (h2:BRow W B lab (2*n+2) vk nd.keys) (h3:BRow W B lab (2*n+3) vi nd.items) :
  KM (W.setCells gn (n*5) [.int .i64 nd.kind,.string (mks nd.text),.bool nd.ord,vk,vi]) B s vn (setL ncs (n*5) [.int .i64 nd.kind,.string (mks nd.text),.bool nd.ord,vk,vi]) lab y { st with nodes:=st.nodes.set n nd } ∧
  PStep W (W.setCells gn (n*5) [.int .i64 nd.kind,.string (mks nd.text),.bool nd.ord,vk,vi]) (KF B vn lab) (KF B vn lab) ∧
  ∀m,KRows W B lab m (W.setCells gn (n*5) [.int .i64 nd.kind,.string (mks nd.text),.bool nd.ord,vk,vi]) lab:=by
 have hl:=h.nlen
 have hob:vn.ownBlock=some gn:=by rw [hvn];rfl
 have hkeep:∀g,g≠gn→(W.setCells gn (n*5) [.int .i64 nd.kind,.string (mks nd.text),.bool nd.ord,vk,vi]).heap[g]? = W.heap[g]?:=fun g hg=>heap_setCells gn _ _ W hg
 have hB:B≠gn:=fun e=>h.nodNe (by rw [hob,e])
 have hrowNe:∀{e kk v m xs},W.ownsRow B e kk v m xs→e≠30→∀g,v.ownBlock=some g→g≠gn:=fun {e kk v m xs} ho hne g hg e2=>by
  rcases own_ne ho h.nod hne with e3 | e3
  ·rw [e3] at hg;cases hg
  ·exact e3 (by rw [hg,e2,hob])
 have hrow:∀{t v xs},BRow W B lab t v xs→BRow (W.setCells gn (n*5) [.int .i64 nd.kind,.string (mks nd.text),.bool nd.ord,vk,vi]) B lab t v xs:=fun hr=>⟨own_same hr.1 (fun g hg=>hkeep g (hrowNe hr.1 (by decide) g hg)),hr.2⟩
 obtain⟨q1,q2,q3⟩:=same_setCells gn [.int .i64 nd.kind,.string (mks nd.text),.bool nd.ord,vk,vi] (n*5) W
 refine⟨⟨(hkeep B hB).trans h.par,?_,?_,fun g hg=>by rw [size_setCells];exact h.labB g hg⟩,⟨q1,q2,q3,by rw [size_setCells];exact Nat.le_refl _,fun g _ hF=>hkeep g (fun e=>hF (.inr (.inl (by rw [hob,e])))),fun _ hf=>.inl hf⟩,fun _ _ _ _ _ hr=>hrow hr⟩
 ·rw [List.length_set]
  have h1:=h.nod
  rw [hvn] at h1 ⊢
  exact own_puts _ _ h1
 ·intro i z hz hzy
  have hlen:n*5+5≤ncs.length:=by rw [hl];omega
  rcases Nat.decEq i n with hne | rfl
  ·have hz:(st.nodes.set n nd)[i]? = some z:=hz
   rw [List.getElem?_set_ne (fun e=>hne e.symm)] at hz
   rw [else5_setL rfl hlen hne]
   exact(h.nds i z hz (fun e=>by rcases hy i e with e | e;exact hzy e;exact hne e)).map (fun _ _ _ _ hr=>hrow hr)
  ·have hz:(st.nodes.set i nd)[i]? = some z:=hz
   rw [List.getElem?_set_self hn] at hz
   obtain rfl:nd=z:=by simpa using hz
   rw [take5_setL rfl hlen]
   exact⟨vk,vi,rfl,hrow h2,hrow h3⟩
end
end Go.Proofs.YtnnnagnjikdnnaaGreatDoor
namespace Go.Proofs.YtnnnagnjikdnnaaGreatDoor
open Go.RowKit
def textK (s:List Nat):Nat→Nat→List Nat→Option (List Nat×Nat)
 | 0,_,_=>none
 | f+1,j,acc=>match s[j]? with
  | none=>none
  | some c=>if c=34 then some (acc,j+1)
   else if c=92 then match s[j+1]? with
    | none=>none
    | some d=>textK s f (j+2) (acc ++ [d])
   else textK s f (j+1) (acc ++ [c])
abbrev zeroK:GNode:=⟨0,[],false,[],[]⟩
def keyK (vk:KSt→Option (Nat×KSt)) (s:List Nat) (mp:Bool) (ks:List Int) (st:KSt):Option (List Int×KSt):=
 if mp then match vk st with
  | none=>none
  | some (k,st2)=>if s[st2.i]? = some 61 then some (ks ++ [(k:Int)],{ st2 with i:=st2.i+1 }) else none
 else some (ks,st)
def commaK (s:List Nat) (is:List Int) (st:KSt):Option KSt:=if is.length=0 then some st else if s[st.i]? = some 44 then some { st with i:=st.i+1 } else none
def itemsK (vk:KSt→Option (Nat×KSt)) (s:List Nat) (en:Nat) (mp:Bool):Nat→List Int→List Int→KSt→Option (List Int×List Int×KSt)
 | 0,_,_,_=>none
 | g+1,ks,is,st=>match s[st.i]? with
  | none=>none
  | some c=>if c=en then some (ks,is,{ st with i:=st.i+1 })
   else match commaK s is st with
    | none=>none
    | some st1=>match keyK vk s mp ks st1 with
     | none=>none
     | some (ks2,st2)=>match vk st2 with
      | none=>none
      | some (v,st3)=>if st3.nodes.length≤4096∧is.length≤4096 then itemsK vk s en mp g ks2 (is ++ [(v:Int)]) st3 else none
def valK (s:List Nat):Nat→Nat→KSt→Option (Nat×KSt)
 | 0,_,_=>none
 | f+1,d,st=>if st.nodes.length<4096∧d≤32 then match s[st.i]? with
   | none=>none
   | some c=>if c=34 then match textK s (s.length+1) (st.i+1) [] with
     | none=>none
     | some (t,j)=>some (st.nodes.length,⟨j,st.nodes ++ [⟨5,t,false,[],[]⟩]⟩)
    else if c=91 then match itemsK (valK s f (d+1)) s 93 false (s.length+1) [] [] ⟨st.i+1,st.nodes ++ [zeroK]⟩ with
     | none=>none
     | some (ks,is,st2)=>if st.nodes.length<st2.nodes.length then some (st.nodes.length,{ st2 with nodes:=st2.nodes.set st.nodes.length ⟨9,[],false,ks,is⟩ }) else none
    else if c=123 then match itemsK (valK s f (d+1)) s 125 true (s.length+1) [] [] ⟨st.i+1,st.nodes ++ [zeroK]⟩ with
     | none=>none
     | some (ks,is,st2)=>if st.nodes.length<st2.nodes.length then some (st.nodes.length,{ st2 with nodes:=st2.nodes.set st.nodes.length ⟨10,[],false,ks,is⟩ }) else none
    else none
  else none
end Go.Proofs.YtnnnagnjikdnnaaGreatDoor
namespace Go.Proofs.YtnnnagnjikdnnaaGreatDoor
open Go.RowKit
def AtW (w:World) (B i':Nat) (w':World):Prop:=Below w.heap.size (w.setCell ⟨B,1,none⟩ (.int .i64 (i':Int))) w'
structure HF (z B:Nat) (w w':World):Prop where
 os:w'.os=w.os
 tape:w'.tape=w.tape
 output:w'.output=w.output
 size:z≤w'.heap.size
 keep:∀k,k<z→k≠B→w'.heap[k]? = w.heap[k]?
section
variable {w w1 w2:World} {z B:Nat}
theorem HF.refl (h:z≤w.heap.size):HF z B w w:=⟨rfl,rfl,rfl,h,fun _ _ _=>rfl⟩
theorem HF.alloc (h:HF z B w w1) (o:Obj):HF z B w (w1.alloc o):=⟨h.os,h.tape,h.output,by have:=h.size;simp;omega,fun k hk hB=>by
 rw [←h.keep k hk hB]
 exact((Below.refl _ w1).alloc (Nat.le_refl _) o).block k (by have:=h.size;omega)⟩
theorem HF.drew (h:HF z B w w1):HF z B w w1.drew:=⟨h.os,h.tape,h.output,h.size,h.keep⟩
theorem HF.drewN (h:HF z B w w1) (n:Nat):HF z B w (w1.drewN n):=⟨h.os,h.tape,h.output,h.size,h.keep⟩
theorem HF.set (h:HF z B w w1) {g:Nat} (hg:g=B∨z≤g) (i:Nat) (u:Value):HF z B w (w1.setCell ⟨g,i,none⟩ u):=⟨h.os,h.tape,h.output,by have:=h.size;simpa [World.setCell] using this,fun k hk hB=>by
 rw [←h.keep k hk hB]
 exact setCell_heap_ne _ _ _ (fun e=>by have:k=g:=e;rcases hg with e2 | e2 <;> omega)⟩
theorem HF.below (h:HF z B w w1) (hb:Below w1.heap.size w1 w2):HF z B w w2:=⟨hb.os.trans h.os,hb.tape.trans h.tape,hb.output.trans h.output,Nat.le_trans h.size hb.size,fun k hk hB=>by
 rw [←h.keep k hk hB];exact hb.block k (Nat.lt_of_lt_of_le hk h.size)⟩
theorem HF.fin {t:TypeId} {P:List Value} {i':Nat} (h:HF w.heap.size B w w1) (hP:Arr w B t P) (hP1:Arr w1 B t (P.set 1 (.int .i64 (i':Int)))):AtW w B i' w1:=by
 refine⟨h.os,h.tape,h.output,by have:=h.size;simpa [World.setCell] using this,fun k hk=>?_⟩
 by_cases e:k=B
 ·subst e
  have h2:Arr (w.setCell ⟨k,1,none⟩ (.int .i64 (i':Int))) k t (P.set 1 (.int .i64 (i':Int))):=hP.store 1 _
  exact Eq.trans hP1 h2.symm
 ·rw [h.keep k hk e]
  exact(setCell_heap_ne _ _ _ (fun e2=>e e2)).symm
theorem AtW.hf {i':Nat} (h:AtW w B i' w1):HF w.heap.size B w w1:=⟨h.os,h.tape,h.output,by have:=h.size;simpa [World.setCell] using this,fun k hk hB=>by
 rw [h.block k hk]
 exact setCell_heap_ne _ _ _ (fun e2=>hB e2)⟩
theorem AtW.arr {t:TypeId} {P:List Value} {i':Nat} (h:AtW w B i' w1) (hP:Arr w B t P):Arr w1 B t (P.set 1 (.int .i64 (i':Int))):=(h.block B hP.lt).trans (hP.store 1 _)
theorem AtW.size {i':Nat} (h:AtW w B i' w1):w.heap.size≤w1.heap.size:=h.hf.size
theorem HF.at_ {i':Nat} (h:HF z B w w1) (hk:AtW w1 B i' w2):HF z B w w2:=⟨hk.os.trans h.os,hk.tape.trans h.tape,hk.output.trans h.output,Nat.le_trans h.size hk.size,fun k hk2 hB=>by
 rw [←h.keep k hk2 hB];exact hk.hf.keep k (Nat.lt_of_lt_of_le hk2 h.size) hB⟩
theorem AtW.trans {t:TypeId} {P:List Value} {i1 i2:Nat} (hP:Arr w B t P) (h:AtW w B i1 w1) (k:AtW w1 B i2 w2):AtW w B i2 w2:=by
 refine HF.fin (P:=P) (HF.at_ h.hf k) hP ?_
 have h1:=k.arr (h.arr hP)
 rw [List.set_set] at h1
 exact h1
end
end Go.Proofs.YtnnnagnjikdnnaaGreatDoor
namespace Go.Proofs.YtnnnagnjikdnnaaGreatDoor
open Go.RowKit
theorem AtW.drew {w w1:World} {B i:Nat} (h:AtW w B i w1):AtW w B i w1.drew:=Below.drew h
end Go.Proofs.YtnnnagnjikdnnaaGreatDoor
namespace Go.Proofs.YtnnnagnjikdnnaaGreatDoor
open Go.RowKit
theorem u8s_getD (l:List Nat) (i:Nat):((u8s l).getD i 0).toNat=l.getD i 0 % 256:=by
 unfold u8s
 rw [List.getD_eq_getElem?_getD,List.getD_eq_getElem?_getD,List.getElem?_map]
 cases l[i]? with
 | none=>rfl
 | some c=>simp
theorem decL_N (l:List Nat):decL l=Lib.decodeN l.length (l.getD 0 0 % 256) (l.getD 1 0 % 256) (l.getD 2 0 % 256) (l.getD 3 0 % 256):=by
 unfold decL
 rw [Lib.decodeL_N,u8s_getD,u8s_getD,u8s_getD,u8s_getD]
 congr 1
 unfold u8s
 exact List.length_map ..
theorem decN1 (n n' b0 b1 b2 b3 c1 c2 c3:Nat) (h:b1 / 64≠2) (h':c1 / 64≠2):Lib.decodeN n' b0 c1 c2 c3=Lib.decodeN n b0 b1 b2 b3∧(Lib.decodeN n b0 b1 b2 b3).2≤1:=by
 by_cases h0:b0<128
 ·rw [Lib.decodeN_ascii _ _ _ _ _ h0,Lib.decodeN_ascii _ _ _ _ _ h0];exact⟨rfl,Nat.le_refl _⟩
 ·rw [Lib.decodeN_alone _ _ _ _ _ (by omega) (.inr h),Lib.decodeN_alone _ _ _ _ _ (by omega) (.inr h')];exact⟨rfl,Nat.le_refl _⟩
set_option maxRecDepth 100000 in
set_option maxHeartbeats 4000000 in
theorem decN2 (n n' b0 b1 b2 b3 c2 c3:Nat) (hn:2≤n) (hn':2≤n') (h:b2 / 64≠2) (h':c2 / 64≠2):Lib.decodeN n' b0 b1 c2 c3=Lib.decodeN n b0 b1 b2 b3∧(Lib.decodeN n b0 b1 b2 b3).2≤2:=by
 unfold Lib.decodeN
 have e1:(1<n)=True:=eq_true (by omega)
 have e2:(1<n')=True:=eq_true (by omega)
 have e3:(b2 / 64=2)=False:=eq_false h
 have e4:(c2 / 64=2)=False:=eq_false h'
 simp only [e1,e2,e3,e4,and_false,true_and,false_and,if_false]
 (repeat' split) <;> first | simp | exact⟨rfl,by simp⟩
set_option maxRecDepth 100000 in
set_option maxHeartbeats 4000000 in
theorem decN3 (n n' b0 b1 b2 b3 c3:Nat) (hn:3≤n) (hn':3≤n') (h:b3 / 64≠2) (h':c3 / 64≠2):Lib.decodeN n' b0 b1 b2 c3=Lib.decodeN n b0 b1 b2 b3∧(Lib.decodeN n b0 b1 b2 b3).2≤3:=by
 unfold Lib.decodeN
 have e1:(1<n)=True:=eq_true (by omega)
 have e2:(1<n')=True:=eq_true (by omega)
 have e5:(2<n)=True:=eq_true (by omega)
 have e6:(2<n')=True:=eq_true (by omega)
 have e3:(b3 / 64=2)=False:=eq_false h
 have e4:(c3 / 64=2)=False:=eq_false h'
 simp only [e1,e2,e3,e4,e5,e6,and_false,true_and,if_false]
 (repeat' split) <;> first | simp | exact⟨rfl,by simp⟩
set_option maxRecDepth 100000 in
set_option maxHeartbeats 4000000 in
theorem decN4 (n n' b0 b1 b2 b3:Nat) (hn:4≤n) (hn':4≤n'):Lib.decodeN n' b0 b1 b2 b3=Lib.decodeN n b0 b1 b2 b3∧(Lib.decodeN n b0 b1 b2 b3).2≤4:=by
 unfold Lib.decodeN
 have e1:(1<n)=True:=eq_true (by omega)
 have e2:(1<n')=True:=eq_true (by omega)
 have e3:(2<n)=True:=eq_true (by omega)
 have e4:(2<n')=True:=eq_true (by omega)
 have e5:(3<n)=True:=eq_true (by omega)
 have e6:(3<n')=True:=eq_true (by omega)
 simp only [e1,e2,e3,e4,e5,e6,true_and]
 (repeat' split) <;> first | simp | exact⟨rfl,by simp⟩
theorem decL_local {r x y:List Nat} (hr:r≠[]) (hx:x.getD 0 0<128) (hy:y.getD 0 0<128):decL (r ++ y)=decL (r ++ x)∧(decL (r ++ x)).2≤r.length:=by
 rw [decL_N,decL_N]
 match r,hr with
 | [a],_=>
  simp only [List.cons_append,List.nil_append,List.getD_cons_succ,List.getD_cons_zero,List.length_cons]
  exact decN1 _ _ _ _ _ _ _ _ _ (by omega) (by omega)
 | [a,b],_=>
  simp only [List.cons_append,List.nil_append,List.getD_cons_succ,List.getD_cons_zero,List.length_cons]
  exact decN2 _ _ _ _ _ _ _ _ (by omega) (by omega) (by omega) (by omega)
 | [a,b,c],_=>
  simp only [List.cons_append,List.nil_append,List.getD_cons_succ,List.getD_cons_zero,List.length_cons]
  exact decN3 _ _ _ _ _ _ _ (by omega) (by omega) (by omega) (by omega)
 | a :: b :: c :: d :: t,_=>
  simp only [List.cons_append,List.getD_cons_succ,List.getD_cons_zero,List.length_cons]
  have:=decN4 ((t ++ x).length+1+1+1+1) ((t ++ y).length+1+1+1+1) (a % 256) (b % 256) (c % 256) (d % 256) (by omega) (by omega)
  exact⟨this.1,by omega⟩
theorem idxB_at {c:Nat} {l:List Nat} {n:Nat} (h:idxB c l=some n):n<l.length∧l.getD n 0=c:=by
 induction l generalizing n with
 | nil=>cases h
 | cons a l ih=>
  unfold idxB at h
  split at h
  ·rename_i e;cases h;exact⟨by simp,e⟩
  ·cases h1:idxB c l with
   | none=>rw [h1] at h;cases h
   | some m=>rw [h1] at h;cases h;have:=ih h1;exact⟨by simp;omega,this.2⟩
end Go.Proofs.YtnnnagnjikdnnaaGreatDoor
namespace Go.Proofs.YtnnnagnjikdnnaaGreatDoor
structure TS where
 nx:Nat
 index:List Int
 low:List Int
 inn:List Int
 sizes:List Int
 stack:List Int
 on:List Bool
def gI (l:List Int) (x:Int):Int:=l.getD x.toNat 0
def sI (l:List Int) (x v:Int):List Int:=l.set x.toNat v
def pushT (at_:Int) (s:TS):TS:=⟨s.nx+1,sI s.index at_ (s.nx+1:Nat),sI s.low at_ (s.nx+1:Nat),s.inn,s.sizes,s.stack ++ [at_],s.on.set at_.toNat true⟩
def stepT (g:Int→TS→Option TS) (at_ x:Int) (s:TS):Option TS:=
 if gI s.index x=0 then match g x s with
  | none=>none
  | some s'=>some { s' with low:=sI s'.low at_ (min (gI s'.low at_) (gI s'.low x)) }
 else if s.on.getD x.toNat false then some { s with low:=sI s.low at_ (min (gI s.low at_) (gI s.index x)) }
 else some s
def popT (at_:Int):Nat→Nat→TS→Option TS
 | 0,_,_=>none
 | f+1,k,s=>match s.stack.getLast? with
  | none=>none
  | some x=>
   let s':TS:={ s with stack:=s.stack.dropLast,on:=s.on.set x.toNat false,inn:=sI s.inn x (s.sizes.length:Nat) }
   if x=at_ then some { s' with sizes:=s'.sizes ++ [((k+1:Nat):Int)] } else popT at_ f (k+1) s'
def doneT (at_:Int) (s:TS):Option TS:=
 if gI s.low at_=gI s.index at_ then popT at_ (s.stack.length+1) 0 s else some s
def visitT (nodes:List GNode):Nat→Int→TS→Option TS
 | 0,_,_=>none
 | f+1,at_,s=>match runG (stepT (visitT nodes f) at_) (ndAt nodes at_.toNat).keys (pushT at_ s) with
  | none=>none
  | some s1=>match runG (stepT (visitT nodes f) at_) (ndAt nodes at_.toNat).items s1 with
   | none=>none
   | some s2=>doneT at_ s2
def startT (n:Nat):TS:=⟨0,List.replicate n 0,List.replicate n 0,List.replicate n (-1),[],[],List.replicate n false⟩
def compV (nodes:List GNode) (root:Int):Option TS:=visitT nodes (nodes.length+1) root (startT nodes.length)
/-! ### Depth -/
def edgeD (inn:List Int) (c:Nat) (st:List Int×Bool) (x:Int):List Int×Bool:=
 if gI inn x=(c:Int) then (st.1,false) else (st.1.set c (max (st.1.getD c 0) (gI st.1 (gI inn x))),st.2)
def nodeD (nodes:List GNode) (inn:List Int) (c:Nat) (st:List Int×Bool) (i:Nat):List Int×Bool:=(refs (ndAt nodes i)).foldl (edgeD inn c) st
def membersV (inn:List Int) (c:Nat):List Nat:=(List.range inn.length).filter fun i=>decide (inn.getD i 0=(c:Int))
def compD (nodes:List GNode) (inn sizes:List Int) (st:List Int×Bool) (c:Nat):List Int×Bool:=
 let st':=(membersV inn c).foldl (nodeD nodes inn c) st
 (st'.1.set c (st'.1.getD c 0+sizes.getD c 0),st'.2)
def belowV (nodes:List GNode) (inn sizes:List Int):List Int×Bool:=(List.range sizes.length).foldl (compD nodes inn sizes) (List.replicate sizes.length 0,true)
def depthV (nodes:List GNode) (root:Int):Option (Int×Bool):=(compV nodes root).map fun s=>
 let b:=belowV nodes s.inn s.sizes
 (gI b.1 (gI s.inn root) - 1,b.2)
end Go.Proofs.YtnnnagnjikdnnaaGreatDoor
