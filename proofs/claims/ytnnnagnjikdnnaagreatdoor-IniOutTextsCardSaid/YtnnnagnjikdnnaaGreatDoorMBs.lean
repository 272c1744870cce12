/- The walk of (*ini.parser).add. -/
import Derived.Test.YtnnnagnjikdnnaaGreatDoorMBr
import Derived.Test.YtnnnagnjikdnnaaGreatDoorMBq
import Derived.Test.YtnnnagnjikdnnaaGreatDoorMAf
import Derived.Deep.CutRange
import Derived.Laws.ResultCell
import Derived.Laws.Rows
set_option linter.unusedVariables false
set_option linter.unusedSimpArgs false
set_option linter.defProp false
set_option linter.constructorNameAsVariable false
namespace Go.Proofs.YtnnnagnjikdnnaaGreatDoor
open Go.RowKit
theorem five_cells {w:World} {b gn cap n k:Nat} {ncs:List Value} (h:w.ownsRow b 30 5 (.slice (some ⟨gn,0,none⟩) n cap) n ncs) (hk:k<n) {u0 u1 u2 u3 u4:Value} (hc:(ncs.drop (k*5)).take 5 = [u0,u1,u2,u3,u4]) :
  (w.cell? ⟨gn,k*5,none⟩=some u0∧w.cell? ⟨gn,k*5+1,none⟩=some u1∧w.cell? ⟨gn,k*5+2,none⟩=some u2∧w.cell? ⟨gn,k*5+3,none⟩=some u3∧w.cell? ⟨gn,k*5+4,none⟩=some u4) ∧
  ∀j,j<5→w.frozen? ⟨gn,k*5+j,none⟩=false:=by
 have hg:∀j,j<5→ncs[k*5+j]? = ([u0,u1,u2,u3,u4]:List Value)[j]?:=fun j hj=>by
  rw [←hc,List.getElem?_take,if_pos hj,List.getElem?_drop]
 have hl:=h.1
 refine⟨⟨(own_cell h (hg 0 (by decide))).1,(own_cell h (hg 1 (by decide))).1,(own_cell h (hg 2 (by decide))).1,(own_cell h (hg 3 (by decide))).1,(own_cell h (hg 4 (by decide))).1⟩,fun j hj=>?_⟩
 exact(own_cell h (List.getElem?_eq_getElem (by omega))).2
def iload (t:TypeId) (x:Operand):Op:=.load t x
@[go_sem] theorem iload_is (t:TypeId) (x:Operand):iload t x=.load t x:=rfl
theorem iload_eq (t:TypeId) (x:Operand):Op.load t x=iload t x:=rfl
section
variable {P:Program} {w:World} {ops:Array Oper} {o:Oper} {a:Act} {K:Act→World→Prop} {Q:Exit→Act→World→Prop} {E:Prop}
theorem step_apT (hg:o.guard=none) (s x:Operand) (t:TypeId) (ho:o.op=.call { callee:=.builtin .append,args:=#[s,x],argTypes:=#[t,t] }) (base:Nat) (e:TypeId) (z:Value) (k bytes:Nat)
  (ht:P.underlying t=some (.slice e)) (h2:(P.info? e).map (fun i=>(i.zero,i.size,i.bytes))=some (some z,k,bytes)) (hz:z.cells.size=k) (hk:0<k)
  (v:Value) (n:Nat) (xs:List Value) (hs:a.eval s=v) (hown:w.ownsRow base e k v n xs) (ad:Addr) (c:Nat) (us:List Value) (hus:us.length=2*k) (hx:a.eval x=.slice (some ad) 2 c)
  (hc:∀j u,us[j]? = some u→w.cell? (ad.add j)=some u) (h1:us.all (·.oneCell')=true) (hm:n+2≤maxLen) (hb:(n+2)*bytes≤140737488355328) (hbase:base≤w.heap.size)
  (hK:∀v' w',w'.ownsRow base e k v' (n+2) (xs ++ us)→w.grownBy w' v.ownBlock→(v'.ownBlock=v.ownBlock∨v'.ownBlock=some w.heap.size)→K (a.put o.dst v') w') :
  if Region.wanted o (yielded ops a.tmps)=true then Oper.wp P o a w K Q else E:=by
 have hw:Region.wanted o (yielded ops a.tmps)=true:=by simp [Region.wanted,hg]
 rw [if_pos hw]
 obtain⟨i,hi,hz1,hz2,hz3⟩:=info_parts h2
 obtain⟨v',w',hr,h3,h4,_,h5⟩:=run_append_own_at (P:=P) w base t o.type e i z k bytes ht hi hz1 hz2 hz3 hz hk v n xs hown ad 2 c us (by omega) hc (fun u hu=>(List.all_eq_true.1 h1) u hu) hm hb hbase
 unfold Oper.wp execOp
 simp only [ho,resolve,invoke,builtin,Sem.run_bind,Sem.run_pure,Result.andThen_ok,List.map_toArray,List.map_cons,List.map_nil,hs,hx,hr]
 exact hK _ _ h3 h4 h5
end
theorem results_row_i {P:Program} {fn:Func} {p u:Tmp} {ty:TypeId} (h:fn.results=#[.cell p ty,.tmp u]) (tmps:Array Value) (w:World) (g:Nat) (t:TypeId) (cs:Array Value) (fr:Nat×Nat) (d:TypeDesc) (x:Value)
  (hp:tmps.getD p undef=.pointer (some ⟨g,0,none⟩)) (hx:tmps.getD u undef=x) (hg:w.heap[g]? = some (.cells cs t fr))
  (hu:P.underlying ty=some d) (hd:(match d with | .struct _ | .array _ _=>true | _=>false)=true) (hi:(P.info? ty).map (·.size)=some cs.size) :
  (results fn tmps).run P w=.ok (.tuple #[.agg cs,x]) w:=by
 rw [results_cell_tmp h,hp,hx]
 simp [asAddr,run_loadVar_row w g t ty cs fr d hg hu hd hi,Result.andThen]
theorem boxes4 (w:World) (t0 t1 t2 t3:TypeId) (a0 a1 a2 a3:List Value):∃q0 q1 q2 q3:Nat,Hid (w.heap.size=q0)∧Hid (w.heap.size+1=q1)∧Hid (w.heap.size+1+1=q2)∧Hid (w.heap.size+1+1+1=q3) ∧
  Hid (∀W,W=(((w.alloc (.cells a0.toArray t0)).alloc (.cells a1.toArray t1)).alloc (.cells a2.toArray t2)).alloc (.cells a3.toArray t3) →
   Hid (Arr W q0 t0 a0)∧Hid (Arr W q1 t1 a1)∧Hid (Arr W q2 t2 a2)∧Hid (Arr W q3 t3 a3)∧Hid (Below w.heap.size w W)∧Hid (W.heap.size=w.heap.size+4)∧Hid (w.heap.size=q0∧q0<q1∧q1<q2∧q2<q3∧q3<W.heap.size)):=by
 refine⟨_,_,_,_,rfl,rfl,rfl,rfl,?_⟩
 rintro W rfl
 have b1:=Arr.new w t0 a0
 have b2:=Arr.new (w.alloc (.cells a0.toArray t0)) t1 a1
 have b3:=Arr.new ((w.alloc (.cells a0.toArray t0)).alloc (.cells a1.toArray t1)) t2 a2
 have b4:=Arr.new (((w.alloc (.cells a0.toArray t0)).alloc (.cells a1.toArray t1)).alloc (.cells a2.toArray t2)) t3 a3
 simp only [World.size_alloc] at b1 b2 b3 b4
 refine⟨((b1.alloc _).alloc _).alloc _,(b2.alloc _).alloc _,b3.alloc _,b4,((((Below.refl _ _).alloc (Nat.le_refl _) _).alloc (by simp) _).alloc (by simp;omega) _).alloc (by simp;omega) _,?_,rfl,by omega,by omega,by omega,?_⟩
 ·show _=_
  simp only [World.size_alloc]
 ·simp only [World.size_alloc]
  omega
structure AB (W:World) (F:Nat→Prop) (q0 q2 q3 q4:Nat) (b0 b2 b3 b4:List Value):Prop where
 h0:Arr W q0 68 b0
 h2:Arr W q2 72 b2
 h3:Arr W q3 68 b3
 h4:Arr W q4 30 b4
 n0:¬F q0
 n2:¬F q2
 n3:¬F q3
 n4:¬F q4
theorem AB.step {W W':World} {F F':Nat→Prop} {q0 q2 q3 q4:Nat} {b0 b2 b3 b4:List Value} (h:AB W F q0 q2 q3 q4 b0 b2 b3 b4) (hs:PStep W W' F F'):AB W' F' q0 q2 q3 q4 b0 b2 b3 b4:=
 ⟨hs.arr h.h0 h.n0,hs.arr h.h2 h.n2,hs.arr h.h3 h.n3,hs.arr h.h4 h.n4,hs.out h.h0.lt h.n0,hs.out h.h2.lt h.n2,hs.out h.h3.lt h.n3,hs.out h.h4.lt h.n4⟩
structure AI (w W:World) (B:Nat) (s:List Nat) (vn vs:Value) (ncs:List Value) (lab:Nat→Option Nat) (x:Option Nat) (st:ISt) (F0:Nat→Prop) (q0 q2 q3 q4:Nat) (b0 b2 b3 b4:List Value) (tn:Nat) (vk vi:Value) (ks is:List Int):Prop where
 im:IM W B s vn vs ncs lab x st
 ab:AB W (IF B vn vs lab) q0 q2 q3 q4 b0 b2 b3 b4
 hk:BRow W B lab (2*tn+2) vk ks
 hi:BRow W B lab (2*tn+3) vi is
 ps:PStep w W F0 (IF B vn vs lab)
 l2:w.heap.size≤q2
 l3:w.heap.size≤q3
 l4:w.heap.size≤q4
 d2:q0≠q2∧q3≠q2∧q4≠q2
 d3:q0≠q3∧q2≠q3∧q4≠q3
 d4:q0≠q4∧q2≠q4∧q3≠q4
section
variable {w W:World} {B:Nat} {s:List Nat} {vn vs:Value} {ncs:List Value} {lab:Nat→Option Nat} {x:Option Nat} {st:ISt} {F0:Nat→Prop} {q0 q2 q3 q4:Nat} {b0 b2 b3 b4:List Value} {tn:Nat} {vk vi:Value} {ks is:List Int}
theorem AI.drew (h:AI w W B s vn vs ncs lab x st F0 q0 q2 q3 q4 b0 b2 b3 b4 tn vk vi ks is):AI w W.drew B s vn vs ncs lab x st F0 q0 q2 q3 q4 b0 b2 b3 b4 tn vk vi ks is:=
 ⟨h.im.drew,h.ab.step (PStep.of_below (Below.drew (Below.refl _ _))),h.hk.below (Below.drew (Below.refl _ _)),h.hi.below (Below.drew (Below.refl _ _)),h.ps.drew,h.l2,h.l3,h.l4,h.d2,h.d3,h.d4⟩
theorem AI.put2 (h:AI w W B s vn vs ncs lab x st F0 q0 q2 q3 q4 b0 b2 b3 b4 tn vk vi ks is) (i:Nat) (u:Value):AI w (W.setCell ⟨q2,i,none⟩ u) B s vn vs ncs lab x st F0 q0 q2 q3 q4 b0 (b2.set i u) b3 b4 tn vk vi ks is:=
 ⟨h.im.far (p:=⟨q2,i,none⟩) h.ab.n2 u,⟨h.ab.h0.far h.d2.1 u,h.ab.h2.store i u,h.ab.h3.far h.d2.2.1 u,h.ab.h4.far h.d2.2.2 u,h.ab.n0,h.ab.n2,h.ab.n3,h.ab.n4⟩,h.hk.far (p:=⟨q2,i,none⟩) (fun e=>h.ab.n2 (.inr (.inr (.inr (by rw [h.hk.2 _ e];rfl))))) u,h.hi.far (p:=⟨q2,i,none⟩) (fun e=>h.ab.n2 (.inr (.inr (.inr (by rw [h.hi.2 _ e];rfl))))) u,h.ps.far (p:=⟨q2,i,none⟩) (.inl h.l2) u,h.l2,h.l3,h.l4,h.d2,h.d3,h.d4⟩
theorem AI.put4 (h:AI w W B s vn vs ncs lab x st F0 q0 q2 q3 q4 b0 b2 b3 b4 tn vk vi ks is) (i:Nat) (u:Value):AI w (W.setCell ⟨q4,i,none⟩ u) B s vn vs ncs lab x st F0 q0 q2 q3 q4 b0 b2 b3 (b4.set i u) tn vk vi ks is:=
 ⟨h.im.far (p:=⟨q4,i,none⟩) h.ab.n4 u,⟨h.ab.h0.far h.d4.1 u,h.ab.h2.far h.d4.2.1 u,h.ab.h3.far h.d4.2.2 u,h.ab.h4.store i u,h.ab.n0,h.ab.n2,h.ab.n3,h.ab.n4⟩,h.hk.far (p:=⟨q4,i,none⟩) (fun e=>h.ab.n4 (.inr (.inr (.inr (by rw [h.hk.2 _ e];rfl))))) u,h.hi.far (p:=⟨q4,i,none⟩) (fun e=>h.ab.n4 (.inr (.inr (.inr (by rw [h.hi.2 _ e];rfl))))) u,h.ps.far (p:=⟨q4,i,none⟩) (.inl h.l4) u,h.l2,h.l3,h.l4,h.d2,h.d3,h.d4⟩
theorem AI.growK {w3:World} {v':Value} {k:Int} {o:Obj} (h:AI w W B s vn vs ncs lab (some tn) st F0 q0 q2 q3 q4 b0 b2 b3 b4 tn vk vi ks is)
  (hown:w3.ownsRow B 3 1 v' (ks.length+1) (I64 ks ++ [.int .i64 k])) (hgr:(W.alloc o).grownBy w3 vk.ownBlock) (hat:v'.ownBlock=vk.ownBlock∨v'.ownBlock=some (W.alloc o).heap.size) :
  AI w w3 B s vn vs ncs (labPut lab v' (2*tn+2)) (some tn) st F0 q0 q2 q3 q4 b0 b2 b3 b4 tn v' vi (ks ++ [k]) is:=by
 obtain⟨h1,h2,h3,h4⟩:=h.im.grow (.inl rfl) h.hk hown hgr hat
 exact⟨h1,h.ab.step h4,h2,h3 _ _ _ (by omega) h.hi,h.ps.trans h4,h.l2,h.l3,h.l4,h.d2,h.d3,h.d4⟩
theorem AI.growI {w3:World} {v':Value} {k:Int} {o:Obj} (h:AI w W B s vn vs ncs lab (some tn) st F0 q0 q2 q3 q4 b0 b2 b3 b4 tn vk vi ks is)
  (hown:w3.ownsRow B 3 1 v' (is.length+1) (I64 is ++ [.int .i64 k])) (hgr:(W.alloc o).grownBy w3 vi.ownBlock) (hat:v'.ownBlock=vi.ownBlock∨v'.ownBlock=some (W.alloc o).heap.size) :
  AI w w3 B s vn vs ncs (labPut lab v' (2*tn+3)) (some tn) st F0 q0 q2 q3 q4 b0 b2 b3 b4 tn vk v' ks (is ++ [k]):=by
 obtain⟨h1,h2,h3,h4⟩:=h.im.grow (.inr rfl) h.hi hown hgr hat
 exact⟨h1,h.ab.step h4,h3 _ _ _ (by omega) h.hk,h2,h.ps.trans h4,h.l2,h.l3,h.l4,h.d2,h.d3,h.d4⟩
end
set_option maxRecDepth 100000 in
set_option maxHeartbeats 16000000 in
def add_shell (w:World) (B tn ts kd:Nat) (s key tx:List Nat) (vs:Value) (lab:Nat→Option Nat) (st:ISt) (sp:JSpan):=
 fun(H1:Box _) {vn:Value} {ncs:List Value} (h:IM w B s vn vs ncs lab none st) (ha:AddOK st.nodes tn key) (hs:st.spans.length≤4096)=>
 (show Calls Tryz.prog 79 #[.pointer (some ⟨B,0,none⟩),.agg #[.int .i64 (tn:Int),.int .i64 (ts:Int)],.string (mks key),leafV kd tx,.agg (spanC sp).toArray] w fun e w'=>
   e=.returned (.tuple #[.agg #[.int .i64 ((st.nodes.length+1:Nat):Int),.int .i64 (st.spans.length:Int)],.bool true]) ∧
   ∃vn' vs' ncs' lab' sp',IM w' B s vn' vs' ncs' lab' none { st with nodes:=addN st.nodes tn key ⟨kd,tx,false,[],[]⟩,spans:=st.spans ++ [sp'] }∧PStep w w' (IF B vn vs lab) (IF B vn' vs' lab') from by
  obtain⟨nd,hnd⟩:∃x,ndAt st.nodes tn=x:=⟨_,rfl⟩
  have hgn:st.nodes[tn]? = some nd:=by rw [←hnd];unfold ndAt;rw [List.getD_eq_getElem?_getD,List.getElem?_eq_getElem ha.lt];rfl
  obtain⟨vk,vi,hcs,hvk,hvi⟩:=h.nds tn nd hgn (by simp)
  have HX:=Lib.hid h
  have HA:=Lib.hid ha
  have HND:=Lib.hid hnd
  have hnw:=ha.new
  have hkl:=ha.kl
  have hil:=ha.il
  rw [hnd] at hnw hkl hil
  have HNW:=Lib.hid hnw
  have HKL:=Lib.hid hkl
  have HIL:=Lib.hid hil
  clear hnw hkl hil
  have hvkl:=hvk.1
  obtain⟨Ak,ck,rfl,hck1,hck2⟩:=own_slice hvk.1
  obtain⟨Ai,ci,rfl,hci1,hci2⟩:=own_slice hvi.1
  obtain⟨gn,cap,rfl,hcap1,hcap2⟩:=own_slice0 h.nod (Nat.lt_of_le_of_lt (Nat.zero_le _) ha.lt)
  obtain⟨q0,q1,q2,q3,hq0,hq1,hq2,hq3,HBX⟩:=boxes4 w 68 30 72 68 [.int .i64 (tn:Int),.int .i64 (ts:Int)] [.int .i64 (kd:Int),.string (mks tx),.bool false,.slice none 0 0,.slice none 0 0] (spanC sp) [.int .i64 0,.int .i64 0]
  go_enter Tryz.func79,Tryz.ntmps79
  go_upto_region 1 with(fail)
  obtain⟨W,hWe⟩:∃W,W=(((w.alloc (.cells #[.int .i64 (tn:Int),.int .i64 (ts:Int)] 68)).alloc (.cells #[.int .i64 (kd:Int),.string (mks tx),.bool false,.slice none 0 0,.slice none 0 0] 30)).alloc (.cells (spanC sp).toArray 72)).alloc (.cells #[.int .i64 0,.int .i64 0] 68):=⟨_,rfl⟩
  obtain⟨H0,H1,H2,H3,HB,HZ,HL⟩:=HBX.out W hWe
  rw [←hWe,hq3.out,hq2.out,hq1.out,hq0.out]
  have hlt:=ha.lt
  have hcs':=Lib.hid hcs
  have HW:=Lib.hid (h.below HB.out)
  have HK:=Lib.hid (hvk.below HB.out)
  have HI:=Lib.hid (hvi.below HB.out)
  have HN:=Lib.hid hgn
  have HS:=Lib.hid hs
  clear HBX hWe h hvk hvi hvkl hcs hnd hgn ha hs
  obtain⟨Z,hZ⟩:∃Z:Obj,Z=.cells #[.int .i64 0,.string ⟨#[]⟩,.bool false,.slice none 0 0,.slice none 0 0] 30:=⟨_,rfl⟩
  have c5:=HW.out.par.cell' (i:=5) rfl
  have d5:=(HW.out.par.alloc Z).cell' (i:=5) rfl
  have x0:=H0.out.cell' (i:=0) rfl
  have y0:=(H0.out.alloc Z).cell' (i:=0) rfl
  have hb1:Below W.heap.size W (W.alloc Z):=(Below.refl _ _).alloc (Nat.le_refl _) _
  obtain⟨⟨f0,f1,f2,f3,f4⟩,-⟩:=five_cells HW.out.nod hlt hcs'.out
  obtain⟨⟨g0,g1,g2,g3,g4⟩,-⟩:=five_cells (HW.out.below hb1).nod hlt hcs'.out
  subst hZ
  clear hb1
  have hti:(tn:Int)<st.nodes.length:=by omega
  have ht0:(0:Int)≤tn:=by omega
  go_upto_region 2 with(fail)
  go_region
  obtain⟨q4,hq4⟩:∃x,Hid (W.heap.size=x):=⟨_,rfl⟩
  rw [hq4.out]
  obtain⟨W2,hW2⟩:∃W2,W2=(W.alloc (.cells #[.int .i64 nd.kind,.string (mks nd.text),.bool nd.ord,.slice Ak nd.keys.length ck,.slice Ai nd.items.length ci] 30)).drew:=⟨_,rfl⟩
  have hb2:Below W.heap.size W W2:=by rw [hW2];exact((Below.refl _ _).alloc (Nat.le_refl _) _).drew
  have MB:Hid (Arr W2 q4 30 [.int .i64 nd.kind,.string (mks nd.text),.bool nd.ord,.slice Ak nd.keys.length ck,.slice Ai nd.items.length ci]):=by
   rw [hW2,←hq4.out];exact Arr.new W _ _
  rw [←hW2]
  have H0':=Lib.hid (H0.out.keep hb2)
  have H1':=Lib.hid (H1.out.keep hb2)
  have H2':=Lib.hid (H2.out.keep hb2)
  have H3':=Lib.hid (H3.out.keep hb2)
  have HW':=Lib.hid (HW.out.below hb2)
  have HK':=Lib.hid (HK.out.below hb2)
  have HI':=Lib.hid (HI.out.below hb2)
  have HB':=Lib.hid (HB.out.trans (hb2.mono HB.out.size))
  have HL':Hid (w.heap.size=q0∧q0<q1∧q1<q2∧q2<q3∧q3<q4∧q4<W2.heap.size):=by
   have h1:=HL.out
   have h2:=MB.out.lt
   have h3:=hq4.out
   exact⟨h1.1,h1.2.1,h1.2.2.1,h1.2.2.2.1,by omega,h2⟩
  clear hW2 hb2 c5 d5 x0 y0 f0 f1 f2 f3 f4 g0 g1 g2 g3 g4 H0 H1 H2 H3 HW HK HI HB HL HZ hq0 hq1 hq2 hq3 hq4 hti ht0 W
  have m3:=MB.out.cell' (i:=3) rfl
  go_upto_region 4 with(fail)
  go_loopw [32] (fun iv wr=>∃i:Nat,i≤nd.keys.length∧iv=.int .i64 (i:Int)∧Hid (W2=wr)) (fun iv _=>nd.keys.length - (intOf iv).toNat)
  case atStart=>exact⟨0,Nat.zero_le _,rfl,rfl⟩
  case round=>
   obtain⟨i,hi,rfl,hwr⟩:=hrel
   obtain rfl:=hwr.out
   by_cases hin:i=nd.keys.length
   ·have i1:¬(i:Int)<nd.keys.length:=by omega
    have i2:=Lib.hid hin
    clear hin hi
    go_upto_region 9 with(fail)
    clear hwr i1 m3
    have hl4:=Lib.hid HA.out.len
    have hN5:(st.nodes.length:Int)≤4094:=by have:=HA.out.len;omega
    have hN6:¬((st.nodes.length:Int)+2 > 4096):=by omega
    have c5:=HW'.out.par.cell' (i:=5) rfl
    go_upto_region 12 with(fail)
    clear c5 hN5 hN6
    -- the two nodes
    have hBl:=HW'.out.lt
    have hlo:st.nodes.length+2≤4096:=hl4.out
    have hPd:Arr W2.drew B 70 (parIB s (.slice (some ⟨gn,0,none⟩) st.nodes.length cap) vs st):=HW'.out.drew.par
    have hownd:W2.drew.ownsRow B 30 5 (.slice (some ⟨gn,0,none⟩) st.nodes.length cap) st.nodes.length ncs:=HW'.out.drew.nod
    have hnpb:=HW'.out.nodNe
    have c5:=HW'.out.par.cell' (i:=5) rfl
    have x0:=H1'.out.cell' (i:=0) rfl
    have x1:=H1'.out.cell' (i:=1) rfl
    have x2:=H1'.out.cell' (i:=2) rfl
    have x3:=H1'.out.cell' (i:=3) rfl
    have x4:=H1'.out.cell' (i:=4) rfl
    have d5:=(HW'.out.par.alloc (.cells #[.int .i64 5,.string (mks key),.bool false,.slice none 0 0,.slice none 0 0,.int .i64 (kd:Int),.string (mks tx),.bool false,.slice none 0 0,.slice none 0 0] 30)).cell' (i:=5) rfl
    have HAI:Hid (AI w W2 B s (.slice (some ⟨gn,0,none⟩) st.nodes.length cap) vs ncs lab none st (IF B (.slice (some ⟨gn,0,none⟩) st.nodes.length cap) vs lab) q0 q2 q3 q4 [.int .i64 (tn:Int),.int .i64 (ts:Int)] (spanC sp) [.int .i64 0,.int .i64 0] [.int .i64 nd.kind,.string (mks nd.text),.bool nd.ord,.slice Ak nd.keys.length ck,.slice Ai nd.items.length ci] tn (.slice Ak nd.keys.length ck) (.slice Ai nd.items.length ci) nd.keys nd.items):=by
     have hf:∀q,w.heap.size≤q→¬IF B (.slice (some ⟨gn,0,none⟩) st.nodes.length cap) vs lab q:=fun q hq hF=>by have:=HX.out.cfLt q hF;omega
     have hl:=HL'.out
     exact⟨HW'.out,⟨H0'.out,H2'.out,H3'.out,MB.out,hf _ (by omega),hf _ (by omega),hf _ (by omega),hf _ (by omega)⟩,HK'.out,HI'.out,PStep.of_below HB'.out,by omega,by omega,by omega,by omega,by omega,by omega⟩
    obtain⟨V0,hV0⟩:∃V0,V0=Value.slice (some ⟨gn,0,none⟩) st.nodes.length cap:=⟨_,rfl⟩
    go_cut [] (fun wx=>∃vn' ncs',AI w wx B s vn' vs ncs' lab (some tn) { st with nodes:=st.nodes ++ [tN key,⟨kd,tx,false,[],[]⟩] } (IF B V0 vs lab) q0 q2 q3 q4 [.int .i64 (tn:Int),.int .i64 (ts:Int)] (spanC sp) [.int .i64 0,.int .i64 0] [.int .i64 nd.kind,.string (mks nd.text),.bool nd.ord,.slice Ak nd.keys.length ck,.slice Ai nd.items.length ci] tn (.slice Ak nd.keys.length ck) (.slice Ai nd.items.length ci) nd.keys nd.items)
    case first=>
     go_region_law (refine step_apT rfl (.tmp 69) (.tmp 73) 24 rfl B 30 _ 5 _ Tryz.underlying24 Tryz.infoS30 rfl (by decide) _ st.nodes.length ncs rfl (hownd.alloc _) ⟨W2.heap.size,0,none⟩ _ [.int .i64 5,.string (mks key),.bool false,.slice none 0 0,.slice none 0 0,.int .i64 (kd:Int),.string (mks tx),.bool false,.slice none 0 0,.slice none 0 0] rfl rfl (cells_new _ _ _) rfl (by unfold maxLen;omega) (by omega) (by simp;omega) ?_;intro v' w3 hown3 hgr3 hat3;obtain⟨A3,c3,rfl,hc3,hm3⟩:=own_slice hown3;have P3:=(hPd.alloc (.cells #[.int .i64 5,.string (mks key),.bool false,.slice none 0 0,.slice none 0 0,.int .i64 (kd:Int),.string (mks tx),.bool false,.slice none 0 0,.slice none 0 0] 30)).grown hgr3 (fun e=>hnpb e.symm);have p5:=P3.cell' (i:=5) rfl;have q5:=P3.frozen 5;have hgr3':(W2.drew.alloc (.cells #[.int .i64 5,.string (mks key),.bool false,.slice none 0 0,.slice none 0 0,.int .i64 (kd:Int),.string (mks tx),.bool false,.slice none 0 0,.slice none 0 0] 30)).grownBy w3 (Value.slice (some ⟨gn,0,none⟩) st.nodes.length cap).ownBlock:=hgr3;have hat3':(Value.slice A3 (st.nodes.length+2) c3).ownBlock=(Value.slice (some ⟨gn,0,none⟩) st.nodes.length cap).ownBlock∨(Value.slice A3 (st.nodes.length+2) c3).ownBlock=some (W2.drew.alloc (.cells #[.int .i64 5,.string (mks key),.bool false,.slice none 0 0,.slice none 0 0,.int .i64 (kd:Int),.string (mks tx),.bool false,.slice none 0 0,.slice none 0 0] 30)).heap.size:=hat3;clear hgr3 hat3)
     all_goals
      obtain⟨_,hP,hS,hR⟩:=(HW'.out.drew.hide tn).addTwo (tN key) ⟨kd,tx,false,[],[]⟩ rfl rfl rfl rfl (.slice A3 (st.nodes.length+2) c3) hown3 hgr3' hat3'
      have hA:=HAI.out.drew
      have HP:Hid (AI w (w3.setCell ⟨B,5,none⟩ (.slice A3 (st.nodes.length+2) c3)) B s (.slice A3 (st.nodes.length+2) c3) vs (ncs ++ (leafCs (tN key) ++ leafCs ⟨kd,tx,false,[],[]⟩)) lab (some tn) { st with nodes:=st.nodes ++ [tN key,⟨kd,tx,false,[],[]⟩] } (IF B V0 vs lab) q0 q2 q3 q4 [.int .i64 (tn:Int),.int .i64 (ts:Int)] (spanC sp) [.int .i64 0,.int .i64 0] [.int .i64 nd.kind,.string (mks nd.text),.bool nd.ord,.slice Ak nd.keys.length ck,.slice Ai nd.items.length ci] tn (.slice Ak nd.keys.length ck) (.slice Ai nd.items.length ci) nd.keys nd.items):=
       ⟨hP,hA.ab.step hS,hR _ _ _ hA.hk,hR _ _ _ hA.hi,by rw [hV0];exact hA.ps.trans hS,hA.l2,hA.l3,hA.l4,hA.d2,hA.d3,hA.d4⟩
      clear hP hS hR hA hown3 hgr3' hat3' P3 p5 q5
      go_wp2_with (fail)
      go_meet
      exact⟨_,_,HP.out⟩
    case rest=>
     clear c5 x0 x1 x2 x3 x4 d5 hPd hownd hnpb HAI HW' HK' HI' HB' H0' H1' H2' H3' MB
     obtain⟨vn5,ncs5,C5⟩:=hcut
     obtain⟨W5,hw5⟩:∃x,x=wc:=⟨_,rfl⟩
     subst hw5
     have HC5:=Lib.hid C5
     clear C5
     clear HX HA HN HNW HS HL' hcs' hl4 hlt hck1 hck2 hci1 hci2 hcap1 hcap2 i2 hlo hBl
     have HV0:=Lib.hid hV0
     clear hV0
     revert HC5 HND HKL HIL HV0
     revert u11 u15 u17 u18 u19 u20 u21 u22 u23 u24 u25 u26 u27 u28 u29 u33 u34 u35 u36 u37 u38 u39 u40 u41 u42 u43 u44 u45 u46 u47 u48 u49 u50 u51 u52 u53 u54 u55 u56 u57 u58 u59 u60 u61 u62 u63 u64 u65 u66 u67 u68 u69 u70 u71 u72 u73 u74 u75 u76 u77 u78 u79 u80 u81 u82 u83 u84 u85 u86 u87 u88 u89 u90 u91 u92 u93 u94 u95 u96 u97 u98 u99 u100 u101 u102 u103 u104 u105 u106 u107 u108 u109 u110 u111 u112 u113 u114 u115 u116 u117 u118 u119 u120 u121 u122 u123 u124 u125 u126 u127 u128 u129
     revert u33 u34 u35 u36 u37 u38 u39 u40 u41 u42 u43 u44 u45 u46 u47 u48 u49 u50 u51
     repeat (rename_i x;revert x)
     revert W5 ncs5 vn5 V0 W2 q4 q3 q2 q1 q0 i gn cap Ak ck Ai ci nd
     exact H1.out
   ·have i1:(i:Int)<nd.keys.length:=by omega
    have i0:(0:Int)≤i:=by omega
    obtain⟨x,hx⟩:∃x,nd.keys[i]? = some x:=⟨_,List.getElem?_eq_getElem (by omega)⟩
    obtain⟨k,rfl,hk,hne⟩:=HNW.out x (List.mem_of_getElem? hx)
    obtain⟨y,hy⟩:∃y,st.nodes[k]? = some y:=⟨_,List.getElem?_eq_getElem hk⟩
    obtain⟨yk,yi,hyc,_,_⟩:=HW'.out.nds k y hy (by simp)
    obtain⟨gk,ck',hAk,_,_⟩:=own_slice0 HK'.out.1 (by omega)
    injection hAk with hAk hAk2 hAk3
    clear hAk2 hAk3
    subst hAk
    have e0:=(own_cell HK'.out.1 (I64_get hx)).1
    obtain⟨⟨_,f1,_,_,_⟩,-⟩:=five_cells HW'.out.nod hk hyc
    have c5:=HW'.out.par.cell' (i:=5) rfl
    have k1:(k:Int)<st.nodes.length:=by omega
    have k0:(0:Int)≤k:=by omega
    have hyt:ndAt st.nodes k=y:=by unfold ndAt;rw [List.getD_eq_getElem?_getD,hy];rfl
    rw [hyt] at hne
    clear hx hy hyc hyt
    have hk9:=HKL.out
    have i9:(i:Int)≤4096:=by omega
    go_wp2_with (fail)
    go_roundw
    case rel=>exact⟨i+1,by omega,i64e (by omega),trivial⟩
    case measure=>simp [intOf];omega
)
end Go.Proofs.YtnnnagnjikdnnaaGreatDoor
