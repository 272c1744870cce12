/- The walk of ini.Parse at a source whose lines are known. -/
import Derived.Test.YtnnnagnjikdnnaaGreatDoorMBr
import Derived.Test.YtnnnagnjikdnnaaGreatDoorMBu
import Derived.Test.YtnnnagnjikdnnaaGreatDoorMAt
import Derived.Test.YtnnnagnjikdnnaaGreatDoorMAd
import Derived.Test.YtnnnagnjikdnnaaGreatDoorMAu
import Derived.Test.YtnnnagnjikdnnaaGreatDoorMAa
import Derived.Test.YtnnnagnjikdnnaaGreatDoorMBg
import Derived.Test.YtnnnagnjikdnnaaGreatDoorMBd
set_option linter.unusedVariables false
set_option linter.unusedSimpArgs false
set_option linter.defProp false
set_option linter.constructorNameAsVariable false
namespace Go.Proofs.YtnnnagnjikdnnaaGreatDoor
open Go Go.RowKit Go.Shelf
attribute [local go_sem] Oper.semAt_some
theorem grown_cells {W W':World} {row:Option Nat} (hg:W.grownBy W' row) (hr:∀r,row=some r→∃o:Obj,W.heap[r]? = some o∧o.isCells=false) {k:Nat} {cs:Array Value} {t:TypeId} {fz:Nat×Nat} (hk:W.heap[k]? = some (.cells cs t fz)):W'.heap[k]? = some (.cells cs t fz):=by
 rw [hg.block k (Array.getElem?_eq_some_iff.1 hk).1 (fun e=>by
  obtain⟨o,ho,hc⟩:=hr k e.symm
  rw [hk] at ho
  obtain rfl:=Option.some.inj ho
  simp [Obj.isCells] at hc)]
 exact hk
theorem own_grown_cells {W W':World} {row:Option Nat} (hg:W.grownBy W' row) (hr:∀r,row=some r→∃o:Obj,W.heap[r]? = some o∧o.isCells=false) {b:Nat} {e:TypeId} {k:Nat} {v:Value} {n:Nat} {xs:List Value} (h:W.ownsRow b e k v n xs):W'.ownsRow b e k v n xs:=
 own_same h fun g hgv=>by
  obtain⟨C,fz,hc⟩:=own_kind h hgv
  rw [grown_cells hg hr hc,hc]
theorem IM.grownC {W W':World} {row:Option Nat} {B:Nat} {s:List Nat} {vn vs:Value} {ncs:List Value} {lab:Nat→Option Nat} {x:Option Nat} {st:ISt} (h:IM W B s vn vs ncs lab x st) (hg:W.grownBy W' row) (hr:∀r,row=some r→∃o:Obj,W.heap[r]? = some o∧o.isCells=false):IM W' B s vn vs ncs lab x st:=
 ⟨grown_cells hg hr h.par,own_grown_cells hg hr h.nod,fun i nd hi hx=>(h.nds i nd hi hx).map fun _ _ _ _ hb=>⟨own_grown_cells hg hr hb.1,hb.2⟩,own_grown_cells hg hr h.spn,fun g hgl=>⟨(h.labB g hgl).1,Nat.lt_of_lt_of_le (h.labB g hgl).2 hg.size⟩⟩
theorem PStep.grownC {W0 W W':World} {row:Option Nat} {F F':Nat→Prop} (h:PStep W0 W F F') (hg:W.grownBy W' row) (hr:∀r,row=some r→W0.heap.size≤r):PStep W0 W' F F':=h.grown hg hr
theorem lines_cb {S:List Nat} (w:World):Calls Tryz.prog 24 #[.string (mks S)] w fun e w'=>e=.returned (.func (.func 45) #[] #[.pointer (some ⟨w.heap.size,0,none⟩)])∧w'=w.alloc (.cells #[.string (mks S)] 9):=by
 go_enter Tryz.func24,Tryz.ntmps24
 go_wp2
 go_ret
 exact⟨rfl,rfl⟩
theorem ints_ofI {w:World} {B:Nat} {lab:Nat→Option Nat} {t:Nat} {v:Value} {xs:List Int} (h:BRow w B lab t v xs):∃A c,v=.slice A xs.length c∧IntsRd w (fun _=>True) A xs.length xs:=by
 obtain⟨A,c,hv,_,_,_,hrd,_⟩:=own_rd h.1
 refine⟨A,c,hv,rfl,hrd,fun ad e=>⟨trivial,?_⟩⟩
 subst hv
 subst e
 have hb:=own_kind h.1 (g:=ad.block) rfl
 obtain⟨C,fz,hb⟩:=hb
 exact⟨C,fz,hb⟩
theorem IM.grd {s:List Nat} {w:World} {B g c:Nat} {vs:Value} {ncs:List Value} {lab:Nat→Option Nat} {st:ISt} (h:IM w B s (.slice (some ⟨g,0,none⟩) st.nodes.length c) vs ncs lab none st):GRd w w.heap.size g 0 st.nodes:=by
 refine grd_own h.nod ⟨h.nlen,fun i nd hi=>?_⟩
 obtain⟨vk,vi,e,h2,h3⟩:=h.nds i nd hi (by simp)
 obtain⟨K,ck,rfl,hk⟩:=ints_ofI h2
 obtain⟨I,ci,rfl,hi⟩:=ints_ofI h3
 exact⟨K,_,ck,I,_,ci,e,hk,hi⟩
structure PI (W0:World) (B:Nat) (S:List Nat) (F0:Nat→Prop) (L:List (Nat×Nat)) (fin:Nat×List GNode) (k:Nat) (W:World) (vn vs:Value) (ncs:List Value) (lab:Nat→Option Nat) (st:ISt):Prop where
 run:RunI S (L.drop k) (st.tn,st.nodes) fin
 im:IM W B S vn vs ncs lab none st
 ts:st.ts<st.spans.length
 sl:st.spans.length≤k+1
 ps:PStep W0 W F0 (IF B vn vs lab)
 f1:¬IF B vn vs lab W0.heap.size
 f2:¬IF B vn vs lab (W0.heap.size+1)
def PIx (W0:World) (B:Nat) (S:List Nat) (F0:Nat→Prop) (L:List (Nat×Nat)) (fin:Nat×List GNode) (k:Nat) (W:World):Prop:=∃vn vs ncs lab st,PI W0 B S F0 L fin k W vn vs ncs lab st
theorem PIx.own {W0:World} {B:Nat} {S:List Nat} {F0:Nat→Prop} {L:List (Nat×Nat)} {fin:Nat×List GNode}:OwnFrom W0.heap.size (PIx W0 B S F0 L fin):=by
 rintro k W W' row ⟨vn,vs,ncs,lab,st,h⟩ hg hr
 exact⟨vn,vs,ncs,lab,st,h.run,h.im.grownC hg (fun r e=>(hr r e).2),h.ts,h.sl,h.ps.grownC hg (fun r e=>(hr r e).1),h.f1,h.f2⟩
theorem wpIn_gen {F:Fence} {n:Nat} {P:Program} {c:Code} {Q:Exit→Act→World→Prop} {T0:Array Value} {W:World} (h:∀T,T=T0→c.wpIn F n P Q { tmps:=T,defers:=[] } W):c.wpIn F n P Q { tmps:=T0,defers:=[] } W:=h _ rfl
theorem boxesU (w:World) (t0 t1 t2:TypeId) (a0 a1 a2:List Value):∃q0 q1 q2:Nat,Hid (w.heap.size=q0)∧Hid (w.heap.size+1=q1)∧Hid (w.heap.size+1+1=q2) ∧
  Hid (∀W,W=((w.alloc (.cells a0.toArray t0)).alloc (.cells a1.toArray t1)).alloc (.cells a2.toArray t2) →
   Hid (Arr W q0 t0 a0)∧Hid (Arr W q1 t1 a1)∧Hid (Arr W q2 t2 a2)∧Hid (Below w.heap.size w W)∧Hid (w.heap.size=q0∧q0<q1∧q1<q2∧q2<W.heap.size)):=by
 refine⟨_,_,_,rfl,rfl,rfl,?_⟩
 rintro W rfl
 have b1:=Arr.new w t0 a0
 have b2:=Arr.new (w.alloc (.cells a0.toArray t0)) t1 a1
 have b3:=Arr.new ((w.alloc (.cells a0.toArray t0)).alloc (.cells a1.toArray t1)) t2 a2
 simp only [World.size_alloc] at b1 b2 b3
 refine⟨(b1.alloc _).alloc _,b2.alloc _,b3,(((Below.refl _ _).alloc (Nat.le_refl _) _).alloc (by simp) _).alloc (by simp;omega) _,rfl,by omega,by omega,?_⟩
 simp only [World.size_alloc]
 omega
set_option maxRecDepth 20000 in
set_option maxHeartbeats 8000000 in
theorem parse_ib {S:List Nat} {L:List (Nat×Nat)} {fin:Nat×List GNode} (hS:By S) (hv:VU S) (hc:∀x∈S,32≤x∨x=10) (hl:S.length≤65536) (hL:LnsAt S 0 L) (hLl:L.length≤4000) (hR:RunI S L (0,[⟨10,[],false,[],[]⟩]) fin) (hfn:0<fin.2.length) (w:World) (hw:LibOK w) :
  Calls Tryz.prog 9 #[.string (mks S)] w fun e w'=>∃(g c:Nat) (sa:Option Addr) (sn sc:Nat),e=.returned (.tuple #[.agg #[.int .i64 3,.string (mks S),.slice (some ⟨g,0,none⟩) fin.2.length c,.int .i64 0,.slice sa sn sc,.slice none 0 0],.int .i64 0,.int .i64 0])∧Below w.heap.size w w'∧GRd w' w'.heap.size g 0 fin.2:=by
 obtain⟨m,hm⟩:∃m,S.length=m:=⟨_,rfl⟩
 have hsz:(mks S).size=m:=by rw [size_mks];exact hm
 have hml:¬(m:Int) > 65536:=by omega
 obtain⟨q0,q1,q2,hq0,hq1,hq2,HBX⟩:=boxesU w 37 3 31 [.int .i64 0,.string ⟨#[]⟩,.slice none 0 0,.int .i64 0,.slice none 0 0,.slice none 0 0] [.int .i64 0] [.int .i64 0]
 have DC:Hid (∀w',LibOK w'→Calls Tryz.prog 22 #[.string (mks S)] w' fun e w''=>e=.returned (.tuple #[.int .i64 (-1),.int .i64 0])∧Below w'.heap.size w' w''):=fun w' h=>by
  have h1:=check_any S (by omega) w' h
  have hv':checkV S=none:=hv
  rw [hv'] at h1
  exact h1
 have DK:Hid (∀w',Calls Tryz.prog 23 #[.string (mks S)] w' fun en w''=>en=.returned (.int .i64 (-1))∧Below w'.heap.size w' w''):=fun w'=>control_cb hS (by omega) hc w'
 have DL:Hid (∀w',Calls Tryz.prog 24 #[.string (mks S)] w' fun e w''=>e=.returned (.func (.func 45) #[] #[.pointer (some ⟨w'.heap.size,0,none⟩)])∧w''=w'.alloc (.cells #[.string (mks S)] 9)):=fun w'=>lines_cb w'
 have HS:=Lib.hid hS
 have HM:=Lib.hid hm
 have HLI:=Lib.hid hL
 have HRU:=Lib.hid hR
 have HLL:=Lib.hid hLl
 have HL6:=Lib.hid hl
 have HW:=Lib.hid hw
 have HFN:=Lib.hid hfn
 clear hS hv hc hl hL hLl hR hw hm hfn
 refine callsIn_wide (n:=9).1 ?_
 refine callsIn_of_wp_marks Tryz.func9 rfl trivial ?_ rfl
 simp only [Tryz.ntmps9,List.size_toArray,List.length_cons,List.length_nil,Nat.reduceAdd,Nat.reduceSub,Array.replicate_succ,Array.replicate_zero,List.push_toArray,List.append_toArray,List.nil_append,List.cons_append]
 gi_upto_region 1 with(fail)
 obtain⟨W,hWe⟩:∃W,W=((w.alloc (.cells #[.int .i64 0,.string ⟨#[]⟩,.slice none 0 0,.int .i64 0,.slice none 0 0,.slice none 0 0] 37)).alloc (.cells #[.int .i64 0] 3)).alloc (.cells #[.int .i64 0] 31):=⟨_,rfl⟩
 obtain⟨H0,H1,H2,HB,HQ⟩:=HBX.out W hWe
 rw [←hWe,hq2.out,hq1.out,hq0.out]
 have HW1:=Lib.hid (HW.out.keep HB.out)
 clear HBX hWe
 gi_upto_region 4 with(refine⟨trivial,?_⟩;gi_at_call 22;refine(callsIn_wide.2 (DC.out _ HW1.out)).mono ?_;rintro e w1 ⟨rfl,hb1⟩;have HB1:=Lib.hid hb1;clear hb1)
 gi_upto_region 7 with(refine⟨trivial,?_⟩;gi_at_call 23;refine(callsIn_wide.2 (DK.out _)).mono ?_;rintro e w2 ⟨rfl,hb2⟩;have HB2:=Lib.hid (HB1.out.trans (hb2.mono HB1.out.size));clear hb2)
 have H0a:=Lib.hid (H0.out.keep HB2.out)
 have H1a:=Lib.hid (H1.out.keep HB2.out)
 have H2a:=Lib.hid (H2.out.keep HB2.out)
 have HBa:=Lib.hid (HB.out.trans (HB2.out.mono HB.out.size))
 have HQa:Hid (w.heap.size=q0∧q0<q1∧q1<q2∧q2<w2.heap.size):=by have:=HQ.out;have h2:=HB2.out.size;exact⟨this.1,this.2.1,this.2.2.1,by omega⟩
 clear H0 H1 H2 HB HQ HB1 HB2 HW1 DC DK
 gi_upto_region 10 with(fail)
 obtain⟨B,hB⟩:∃B,Hid (w2.heap.size=B):=⟨_,rfl⟩
 obtain⟨pg,hpg⟩:∃pg,Hid (w2.heap.size+1=pg):=⟨_,rfl⟩
 obtain⟨W3,hW3⟩:∃W3,W3=(w2.alloc (.cells #[.int .i64 0,.int .i64 0,.string (mks S),.int .i64 0,.string ⟨#[]⟩,.slice none 0 0,.int .i64 0,.slice none 0 0,.slice none 0 0,.int .i64 0,.int .i64 0] 70)).alloc (.cells #[.pointer (some ⟨w2.heap.size,0,none⟩)] 66):=⟨_,rfl⟩
 have HP3:Hid (Arr W3 B 70 [.int .i64 0,.int .i64 0,.string (mks S),.int .i64 0,.string ⟨#[]⟩,.slice none 0 0,.int .i64 0,.slice none 0 0,.slice none 0 0,.int .i64 0,.int .i64 0]):=by
  rw [hW3,←hB.out]
  exact(Arr.new w2 _ [.int .i64 0,.int .i64 0,.string (mks S),.int .i64 0,.string ⟨#[]⟩,.slice none 0 0,.int .i64 0,.slice none 0 0,.slice none 0 0,.int .i64 0,.int .i64 0]).alloc _
 have HG3:Hid (Arr W3 pg 66 [.pointer (some ⟨B,0,none⟩)]):=by
  have h:=Arr.new (w2.alloc (.cells #[.int .i64 0,.int .i64 0,.string (mks S),.int .i64 0,.string ⟨#[]⟩,.slice none 0 0,.int .i64 0,.slice none 0 0,.slice none 0 0,.int .i64 0,.int .i64 0] 70)) 66 [.pointer (some ⟨w2.heap.size,0,none⟩)]
  rw [hW3,←hpg.out,←hB.out]
  simp only [World.size_alloc] at h
  exact h
 have hb3:Below w2.heap.size w2 W3:=by rw [hW3];exact((Below.refl _ _).alloc (Nat.le_refl _) _).alloc (by simp) _
 have HS3:Hid (w2.heap.size=B∧B+1=pg∧W3.heap.size=pg+1):=by
  refine⟨hB.out,by rw [←hB.out];exact hpg.out,?_⟩
  rw [hW3,←hpg.out]
  simp only [World.size_alloc]
 rw [←hW3,hpg.out,hB.out]
 have H0b:=Lib.hid (H0a.out.keep hb3)
 have H1b:=Lib.hid (H1a.out.keep hb3)
 have H2b:=Lib.hid (H2a.out.keep hb3)
 have HBb:=Lib.hid (HBa.out.trans (hb3.mono HBa.out.size))
 clear hW3 hb3 H0a H1a H2a HBa hB hpg
 have g0:=HG3.out.cell' (i:=0) rfl
 have HP5:=(HP3.out.alloc (.cells #[.int .i64 10,.string ⟨#[]⟩,.bool false,.slice none 0 0,.slice none 0 0] 30)).alloc (.cells #[.int .i64 0,.int .i64 (-1),.int .i64 0,.int .i64 0,.int .i64 (m:Int),.int .i64 0,.int .i64 0,.bool false,.bool false] 72)
 have p3:=HP5.cell' (i:=3) rfl
 have f3:=HP5.frozen 3
 have p4:=HP5.cell' (i:=4) rfl
 have f4:=HP5.frozen 4
 have p5:=HP5.cell' (i:=5) rfl
 have f5:=HP5.frozen 5
 have p6:=HP5.cell' (i:=6) rfl
 have f6:=HP5.frozen 6
 have p7:=HP5.cell' (i:=7) rfl
 have f7:=HP5.frozen 7
 have p8:=HP5.cell' (i:=8) rfl
 have f8:=HP5.frozen 8
 clear HP5
 gi_upto_region 11 with(fail)
 obtain⟨n1,hn1⟩:∃x,Hid (W3.heap.size=x):=⟨_,rfl⟩
 obtain⟨W6,hW6⟩:∃W6,W6=((((((((W3.alloc (.cells #[.int .i64 10,.string ⟨#[]⟩,.bool false,.slice none 0 0,.slice none 0 0] 30)).alloc (.cells #[.int .i64 0,.int .i64 (-1),.int .i64 0,.int .i64 0,.int .i64 (m:Int),.int .i64 0,.int .i64 0,.bool false,.bool false] 72)).setCell ⟨B,3,none⟩ (.int .i64 3)).setCell ⟨B,4,none⟩ (.string (mks S))).setCell ⟨B,5,none⟩ (.slice (some ⟨W3.heap.size,0,none⟩) 1 1)).setCell ⟨B,6,none⟩ (.int .i64 0)).setCell ⟨B,7,none⟩ (.slice (some ⟨W3.heap.size+1,0,none⟩) 1 1)).setCell ⟨B,8,none⟩ (.slice none 0 0)):=⟨_,rfl⟩
 have hBn:B+2=n1:=by have:=HS3.out;have:=hn1.out;omega
 have hPar:Arr W6 B 70 [.int .i64 0,.int .i64 0,.string (mks S),.int .i64 3,.string (mks S),.slice (some ⟨W3.heap.size,0,none⟩) 1 1,.int .i64 0,.slice (some ⟨W3.heap.size+1,0,none⟩) 1 1,.slice none 0 0,.int .i64 0,.int .i64 0]:=by
  rw [hW6]
  exact(((((((HP3.out.alloc _).alloc _).store 3 _).store 4 _).store 5 _).store 6 _).store 7 _).store 8 _
 have hA1:Arr W6 n1 30 [.int .i64 10,.string ⟨#[]⟩,.bool false,.slice none 0 0,.slice none 0 0]:=by
  have h:=(Arr.new W3 30 [.int .i64 10,.string ⟨#[]⟩,.bool false,.slice none 0 0,.slice none 0 0]).alloc (.cells #[.int .i64 0,.int .i64 (-1),.int .i64 0,.int .i64 0,.int .i64 (m:Int),.int .i64 0,.int .i64 0,.bool false,.bool false] 72)
  rw [hn1.out] at h
  rw [hW6]
  have hne:∀j,n1≠(⟨B,j,none⟩:Addr).block:=fun j=>by show n1≠B;omega
  exact(((((h.far (p:=⟨B,3,none⟩) (hne 3) _).far (p:=⟨B,4,none⟩) (hne 4) _).far (p:=⟨B,5,none⟩) (hne 5) _).far (p:=⟨B,6,none⟩) (hne 6) _).far (p:=⟨B,7,none⟩) (hne 7) _).far (p:=⟨B,8,none⟩) (hne 8) _
 have hA2:Arr W6 (n1+1) 72 [.int .i64 0,.int .i64 (-1),.int .i64 0,.int .i64 0,.int .i64 (m:Int),.int .i64 0,.int .i64 0,.bool false,.bool false]:=by
  have h:=Arr.new (W3.alloc (.cells #[.int .i64 10,.string ⟨#[]⟩,.bool false,.slice none 0 0,.slice none 0 0] 30)) 72 [.int .i64 0,.int .i64 (-1),.int .i64 0,.int .i64 0,.int .i64 (m:Int),.int .i64 0,.int .i64 0,.bool false,.bool false]
  simp only [World.size_alloc] at h
  rw [hn1.out] at h
  rw [hW6]
  have hne:∀j,n1+1≠(⟨B,j,none⟩:Addr).block:=fun j=>by show n1+1≠B;omega
  exact(((((h.far (p:=⟨B,3,none⟩) (hne 3) _).far (p:=⟨B,4,none⟩) (hne 4) _).far (p:=⟨B,5,none⟩) (hne 5) _).far (p:=⟨B,6,none⟩) (hne 6) _).far (p:=⟨B,7,none⟩) (hne 7) _).far (p:=⟨B,8,none⟩) (hne 8) _
 have hsz6:W6.heap.size=n1+2:=by
  rw [hW6,←hn1.out]
  simp [World.setCell]
 have keep3:∀g,g<n1→g≠B→W6.heap[g]? = W3.heap[g]?:=fun g hg hne=>by
  have hb:Below W3.heap.size W3 ((W3.alloc (.cells #[.int .i64 10,.string ⟨#[]⟩,.bool false,.slice none 0 0,.slice none 0 0] 30)).alloc (.cells #[.int .i64 0,.int .i64 (-1),.int .i64 0,.int .i64 0,.int .i64 (m:Int),.int .i64 0,.int .i64 0,.bool false,.bool false] 72)):=((Below.refl _ _).alloc (Nat.le_refl _) _).alloc (by simp) _
  rw [hW6]
  simp only [World.setCell]
  rw [←hb.block g (by rw [hn1.out];exact hg)]
  simp [Array.getElem?_modify,Ne.symm hne]
 have HBc:Hid (Below w.heap.size w W6):=by
  have hwB:w.heap.size≤B:=by have:=HQa.out;have:=HS3.out;omega
  rw [hW6]
  exact(((((((HBb.out.alloc HBb.out.size _).alloc (by have:=HBb.out.size;simp;omega) _).setCell (p:=⟨B,3,none⟩) hwB _).setCell (p:=⟨B,4,none⟩) hwB _).setCell (p:=⟨B,5,none⟩) hwB _).setCell (p:=⟨B,6,none⟩) hwB _).setCell (p:=⟨B,7,none⟩) hwB _).setCell (p:=⟨B,8,none⟩) hwB _
 rw [←hW6,hn1.out]
 rw [hn1.out] at hPar
 have hqB:=HQa.out
 have hs3:=HS3.out
 have H0c:=Lib.hid ((keep3 q0 (by omega) (by omega)).trans H0b.out)
 have H1c:=Lib.hid ((keep3 q1 (by omega) (by omega)).trans H1b.out)
 have H2c:=Lib.hid ((keep3 q2 (by omega) (by omega)).trans H2b.out)
 have HGc:=Lib.hid ((keep3 pg (by omega) (by omega)).trans HG3.out)
 have HIM:Hid (IM W6 B S (.slice (some ⟨n1,0,none⟩) 1 1) (.slice (some ⟨n1+1,0,none⟩) 1 1) [.int .i64 10,.string ⟨#[]⟩,.bool false,.slice none 0 0,.slice none 0 0] (fun _=>none) none ⟨0,0,[⟨10,[],false,[],[]⟩],[⟨0,-1,0,0,(m:Int),0,0,false,false⟩]⟩):=by
  refine⟨hPar,⟨rfl,.inr ⟨n1,1,#[.int .i64 10,.string ⟨#[]⟩,.bool false,.slice none 0 0,.slice none 0 0],rfl,by omega,hA1,Nat.le_refl _,by decide,rfl,rfl⟩⟩,fun i nd hi _=>?_,⟨rfl,.inr ⟨n1+1,1,#[.int .i64 0,.int .i64 (-1),.int .i64 0,.int .i64 0,.int .i64 (m:Int),.int .i64 0,.int .i64 0,.bool false,.bool false],rfl,by omega,hA2,Nat.le_refl _,by decide,rfl,rfl⟩⟩,fun g hg=>by cases hg⟩
  cases i with
  | zero=>
   have hnd:nd=(⟨10,[],false,[],[]⟩:GNode):=by
    have h:some (⟨10,[],false,[],[]⟩:GNode)=some nd:=hi
    exact(Option.some.inj h).symm
   subst hnd
   exact bnode_leaf (w:=W6) (B:=B) (lab:=fun _=>none) (i:=0) (nd:=⟨10,[],false,[],[]⟩) rfl rfl
  | succ i=>simp at hi
 have HN6:=Lib.hid hsz6
 have HN7:=Lib.hid hBn
 have HPG:Hid (B+1=pg):=hs3.2.1
 have h9:w.heap.size=q0∧q0<q1∧q1<q2∧q2<B:=by omega
 have HQB:=Lib.hid h9
 clear h9
 clear hW6 keep3 hPar hA1 hA2 hsz6 hBn H0b H1b H2b HBb HG3 HP3 hqB hs3 g0 p3 p4 p5 p6 p7 p8 f3 f4 f5 f6 f7 f8 hn1 HS3 W3
 gi_wp2_with (refine⟨trivial,?_⟩;gi_at_call 24;refine(callsIn_wide.2 (DL.out _)).mono ?_;rintro e w7 ⟨rfl,rfl⟩)
 refine wpIn_gen ?_
 intro T hT
 obtain⟨sb,hsb⟩:∃sb,Hid (W6.heap.size=sb):=⟨_,rfl⟩
 obtain⟨W7,hW7⟩:∃W7,W7=W6.alloc (.cells #[.string (mks S)] 9):=⟨_,rfl⟩
 have hb7:Below W6.heap.size W6 W7:=by rw [hW7];exact(Below.refl _ _).alloc (Nat.le_refl _) _
 have hS7:Arr W7 sb 9 [.string (mks S)]:=by rw [hW7,←hsb.out];exact Arr.new W6 _ _
 have hsz7:W7.heap.size=sb+1:=by rw [hW7,←hsb.out];simp
 have c7:=hS7.cell' (i:=0) rfl
 rw [hsb.out] at hT
 rw [←hW7]
 have HI7:=Lib.hid (HIM.out.below hb7)
 have H07:=Lib.hid (Arr.keep (xs:=_) H0c.out hb7)
 have H17:=Lib.hid (Arr.keep (xs:=[.int .i64 0]) H1c.out hb7)
 have H27:=Lib.hid (Arr.keep (xs:=[.int .i64 0]) H2c.out hb7)
 have HG7:=Lib.hid (Arr.keep (xs:=[.pointer (some ⟨B,0,none⟩)]) HGc.out hb7)
 have HB7:=Lib.hid (HBc.out.trans (hb7.mono HBc.out.size))
 have HS7:=Lib.hid hS7
 have HZ7:=Lib.hid hsz7
 refine wpIn_rangeFunc_list (n:=9) (gf:=45) (lb:=#[.pointer (some ⟨sb,0,none⟩)]) (L:=L) rfl (by decide) (by rw [hT];rfl) trivial (enters_of Tryz.func45 (by kernel_rfl) rfl)
  (lines_list (n:=9 - 1) HS.out (by have:=HL6.out;omega) HLI.out (by decide) W7 c7) (fun h k=>k.trans h) ?hKb (Below.refl _ _) (fun _=>rfl)
  (PIx W7 B S (IF B (.slice (some ⟨n1,0,none⟩) 1 1) (.slice (some ⟨n1+1,0,none⟩) 1 1) (fun _=>none)) L fin) PIx.own ?h0
  (fun p W=>∃bl,p.2.2 = { tmps:=(T.setIfInBounds 46 (.agg #[.int .i64 (p.2.1.1:Int),.int .i64 (p.2.1.2:Int)])).setIfInBounds 9 (.pointer (some ⟨bl,0,none⟩)),defers:=[] }∧Arr W bl 77 [.int .i64 (p.2.1.1:Int),.int .i64 (p.2.1.2:Int)]∧PIx W7 B S (IF B (.slice (some ⟨n1,0,none⟩) 1 1) (.slice (some ⟨n1+1,0,none⟩) 1 1) (fun _=>none)) L fin p.1 W) ?hAx ?assign ?body ?done
 case hKb=>
  intro W l o o' hl _ _ _
  exact World.putObj_heap_other (by omega)
 case h0=>
  exact⟨_,_,_,_,⟨0,0,[⟨10,[],false,[],[]⟩],[⟨0,-1,0,0,(m:Int),0,0,false,false⟩]⟩,HRU.out,HI7.out,by show 0<1;decide,by show 1≤0+1;decide,PStep.refl _ _,fun hf=>by have:=HI7.out.cfLt _ hf;omega,fun hf=>by have:=HI7.out.cfLt _ hf;omega⟩
 case hAx=>
  rintro⟨k,x,a'⟩ W W' row ⟨bl,e,ha,hp⟩ hg hr
  exact⟨bl,e,grown_cells hg (fun r e=>(hr r e).2) ha,PIx.own k W W' row hp hg hr⟩
 case assign=>
  intro l k x W K hsz hx hi hK
  have hK':∀a' W',Keep2 W7.heap.size W W'→W'.heap[sb]? = W.heap[sb]?→a' = { tmps:=(T.setIfInBounds 46 (.agg #[.int .i64 (x.1:Int),.int .i64 (x.2:Int)])).setIfInBounds 9 (.pointer (some ⟨W.heap.size,0,none⟩)),defers:=[] }→W'=W.alloc (.cells #[.int .i64 (x.1:Int),.int .i64 (x.2:Int)] 77)→K a' W':=fun a' W' h1 h2 h3 h4=>hK a' W' h1 h2 ⟨W.heap.size,h3,by rw [h4];exact Arr.new W _ _,by rw [h4];exact PIx.own.alloc _ hi⟩
  have HK:=Lib.hid hK'
  have hsbW:sb<W.heap.size:=by omega
  clear hK hK' hi
  rw [hT] at HK ⊢
  simp only [List.setIfInBounds_toArray,List.set_cons_succ,List.set_cons_zero] at HK ⊢
  gi_wp2
  have hkk:∀g,g<W.heap.size→(W.alloc (.cells #[.int .i64 (x.1:Int),.int .i64 (x.2:Int)] 77)).heap[g]? = W.heap[g]?:=fun g hg=>((Below.refl _ W).alloc (Nat.le_refl _) _).block g hg
  refine HK.out _ _ ⟨by simp,fun g o hg ho=>?_⟩ (hkk sb hsbW) rfl rfl
  rw [hkk g (Array.getElem?_eq_some_iff.1 ho).1]
  exact ho
 case body=>
  rintro l k x a' W hsz hx ⟨bl,ha',hbl,vn,vs,ncs,lab,st,h⟩
  have hk:=(List.getElem?_eq_some_iff.1 hx).1
  have hd:L.drop k=x :: L.drop (k+1):=by
   rw [List.drop_eq_getElem_cons hk]
   congr 1
   exact(List.getElem?_eq_some_iff.1 hx).2
  have hrun:=h.run
  rw [hd] at hrun
  obtain⟨it,s1,hx1,hx2,hone,hstep,hrest⟩:∃it s1,x.1≤x.2∧x.2≤S.length∧OneAt S x.1 x.2 it∧StepI it (st.tn,st.nodes) s1∧RunI S (L.drop (k+1)) s1 fin:=by
   cases hrun with
   | cons it h1 h2 ho hs hL=>exact⟨it,_,h1,h2,ho,hs,hL⟩
  have DO:=Lib.hid (one_ib h.im HS.out (by have:=HL6.out;omega) hx2 hone hstep (by have:=h.sl;have:=HLL.out;omega) h.ts)
  have hpgF:¬IF B (.slice (some ⟨n1,0,none⟩) 1 1) (.slice (some ⟨n1+1,0,none⟩) 1 1) (fun _=>none) pg:=by
   have h1:=HPG.out
   have h2:=HN7.out
   rintro(e | e | e | e)
   ·omega
   ·have e2:some n1=some pg:=e
    have:=Option.some.inj e2;omega
   ·have e2:some (n1+1)=some pg:=e
    have:=Option.some.inj e2;omega
   ·cases e
  have hsbF:¬IF B (.slice (some ⟨n1,0,none⟩) 1 1) (.slice (some ⟨n1+1,0,none⟩) 1 1) (fun _=>none) sb:=by
   have h1:=HN6.out
   have h2:=HN7.out
   have h3:=hsb.out
   rintro(e | e | e | e)
   ·omega
   ·have e2:some n1=some sb:=e
    have:=Option.some.inj e2;omega
   ·have e2:some (n1+1)=some sb:=e
    have:=Option.some.inj e2;omega
   ·cases e
  have g0:=(h.ps.arr HG7.out hpgF).cell' (i:=0) rfl
  have l0:=hbl.cell' (i:=0) rfl
  have l1:=hbl.cell' (i:=1) rfl
  have HH:=Lib.hid h
  have HRE:=Lib.hid hrest
  have hsbn:=Lib.hid (h.ps.out (by omega:sb<W7.heap.size) hsbF)
  have ha2:a' = { tmps:=(T.setIfInBounds 46 (.agg #[.int .i64 (x.1:Int),.int .i64 (x.2:Int)])).setIfInBounds 9 (.pointer (some ⟨bl,0,none⟩)),defers:=[] }:=ha'
  subst ha2
  clear ha' h hrun hone hstep hrest hbl hd hx1 hx2
  rw [hT]
  simp only [List.setIfInBounds_toArray,List.set_cons_succ,List.set_cons_zero]
  gi_wp2_with (refine⟨trivial,?_⟩;gi_at_call 25;refine(CallsIn.inRound l (callsIn_wide.2 DO.out)).mono ?_;rintro e W9 ⟨rfl,vn9,vs9,ncs9,lab9,ts9,sp9,hI9,ht9,hl9,hP9⟩;have HI9:=Lib.hid hI9;have HP9:=Lib.hid hP9;have HT9:=Lib.hid ht9;have HL9:=Lib.hid hl9;clear hI9 hP9 ht9 hl9)
  refine⟨⟨HP9.out.size,fun g o hg ho=>?_⟩,HP9.out.keep sb (by omega) hsbn.out,?_⟩
  ·have hF:¬IF B vn vs lab g:=by
    rcases hg with rfl | rfl
    ·exact HH.out.f1
    ·exact HH.out.f2
   rw [HP9.out.keep g (Array.getElem?_eq_some_iff.1 ho).1 hF]
   exact ho
  ·exact⟨_,_,_,_,_,HRE.out,HI9.out,HT9.out,by have:=HL9.out;have:=HH.out.sl;show sp9.length≤k+1+1;omega,HH.out.ps.trans HP9.out,HP9.out.out (by omega) HH.out.f1,HP9.out.out (by omega) HH.out.f2⟩
 case done=>
  rintro D W hD ⟨vn,vs,ncs,lab,st,h⟩ hK
  have hrun:=h.run
  rw [List.drop_length] at hrun
  have hfin:fin=(st.tn,st.nodes):=by
   cases hrun
   rfl
  obtain⟨gv,cv,rfl,hcv1,hcv2⟩:=own_slice0 h.im.nod (by have:=HFN.out;rw [hfin] at this;exact this)
  obtain⟨As,cs,rfl,hcs1,hcs2⟩:=own_slice h.im.spn
  clear hcv1 hcv2 hcs1 hcs2
  have hF0:∀g,g<B∨g=pg→¬IF B (.slice (some ⟨n1,0,none⟩) 1 1) (.slice (some ⟨n1+1,0,none⟩) 1 1) (fun _=>none) g:=fun g hg=>by
   have h1:=HPG.out
   have h2:=HN7.out
   rintro(e | e | e | e)
   ·omega
   ·have e2:some n1=some g:=e
    have:=Option.some.inj e2;omega
   ·have e2:some (n1+1)=some g:=e
    have:=Option.some.inj e2;omega
   ·cases e
  have hq:=HQB.out
  have hn6:=HN6.out
  have hn7:=HN7.out
  have hsb7:=hsb.out
  have g0:=(h.ps.arr HG7.out (hF0 pg (.inr rfl))).cell' (i:=0) rfl
  have R0:=h.ps.arr (xs:=[.int .i64 0,.string ⟨#[]⟩,.slice none 0 0,.int .i64 0,.slice none 0 0,.slice none 0 0]) H07.out (hF0 q0 (.inl (by omega)))
  have R1:=h.ps.arr H17.out (hF0 q1 (.inl (by omega)))
  have R2:=h.ps.arr H27.out (hF0 q2 (.inl (by omega)))
  have r00:=R0.cell' (i:=0) rfl
  have rf00:=R0.frozen 0
  have r01:=R0.cell' (i:=1) rfl
  have rf01:=R0.frozen 1
  have r02:=R0.cell' (i:=2) rfl
  have rf02:=R0.frozen 2
  have r03:=R0.cell' (i:=3) rfl
  have rf03:=R0.frozen 3
  have r04:=R0.cell' (i:=4) rfl
  have rf04:=R0.frozen 4
  have r05:=R0.cell' (i:=5) rfl
  have rf05:=R0.frozen 5
  have r1:=R1.cell' (i:=0) rfl
  have rf1:=R1.frozen 0
  have r2:=R2.cell' (i:=0) rfl
  have rf2:=R2.frozen 0
  have b3:=h.im.par.cell' (i:=3) rfl
  have b4:=h.im.par.cell' (i:=4) rfl
  have b5:=h.im.par.cell' (i:=5) rfl
  have b6:=h.im.par.cell' (i:=6) rfl
  have b7:=h.im.par.cell' (i:=7) rfl
  have b8:=h.im.par.cell' (i:=8) rfl
  have HH:=Lib.hid h
  have HF:=Lib.hid hfin
  have HR0:=Lib.hid R0
  have HR1:=Lib.hid R1
  have HR2:=Lib.hid R2
  have HKK:=Lib.hid hK
  have nF0:=Lib.hid (h.ps.out (by omega:q0<W7.heap.size) (hF0 q0 (.inl (by omega))))
  have nF1:=Lib.hid (h.ps.out (by omega:q1<W7.heap.size) (hF0 q1 (.inl (by omega))))
  have nF2:=Lib.hid (h.ps.out (by omega:q2<W7.heap.size) (hF0 q2 (.inl (by omega))))
  have HBW:=Lib.hid (HB7.out.trans (h.ps.below (B:=w.heap.size) (fun g hg=>by have:=HI7.out.cfB g hg;omega) HB7.out.size))
  have nD0:Hid (D≠q0):=fun e=>by omega
  have nD1:Hid (D≠q1):=fun e=>by omega
  have nD2:Hid (D≠q2):=fun e=>by omega
  have wD:Hid (w.heap.size≤D):=Nat.le_trans HB7.out.size hD
  have wq0:w.heap.size≤q0:=by omega
  have wq1:w.heap.size≤q1:=by omega
  have wq2:w.heap.size≤q2:=by omega
  have h01:q0≠q1:=by omega
  have h10:q1≠q0:=by omega
  have h02:q0≠q2:=by omega
  have h20:q2≠q0:=by omega
  have h12:q1≠q2:=by omega
  have h21:q2≠q1:=by omega
  clear h hrun hfin hF0 R0 R1 R2 hK hq hn6 hn7 hsb7
  rw [hT]
  gi_wp2_with (fail)
  obtain⟨WF,hWF⟩:∃WF,WF=((((((((W.setCell ⟨q0,0,none⟩ (.int .i64 3)).setCell ⟨q0,1,none⟩ (.string (mks S))).setCell ⟨q0,2,none⟩ (.slice (some ⟨gv,0,none⟩) st.nodes.length cv)).setCell ⟨q0,3,none⟩ (.int .i64 0)).setCell ⟨q0,4,none⟩ (.slice As st.spans.length cs)).setCell ⟨q0,5,none⟩ (.slice none 0 0)).setCell ⟨q1,0,none⟩ (.int .i64 0)).setCell ⟨q2,0,none⟩ (.int .i64 0)):=⟨_,rfl⟩
  rw [←hWF]
  have hKF:WF.heap[D]? = some (.deferred (some [])):=by
   rw [hWF]
   simp only [World.setCell]
   simp [Array.getElem?_modify,nD0.out,nD1.out,nD2.out,HKK.out]
  have IF9:IM WF B S (.slice (some ⟨gv,0,none⟩) st.nodes.length cv) (.slice As st.spans.length cs) ncs lab none st:=by rw [hWF];exact((((((((HH.out.im.far (p:=⟨q0,0,none⟩) nF0.out _).far (p:=⟨q0,1,none⟩) nF0.out _).far (p:=⟨q0,2,none⟩) nF0.out _).far (p:=⟨q0,3,none⟩) nF0.out _).far (p:=⟨q0,4,none⟩) nF0.out _).far (p:=⟨q0,5,none⟩) nF0.out _).far (p:=⟨q1,0,none⟩) nF1.out _).far (p:=⟨q2,0,none⟩) nF2.out _)
  have BF9:Below w.heap.size w WF:=by rw [hWF];exact((((((((HBW.out.setCell (p:=⟨q0,0,none⟩) wq0 _).setCell (p:=⟨q0,1,none⟩) wq0 _).setCell (p:=⟨q0,2,none⟩) wq0 _).setCell (p:=⟨q0,3,none⟩) wq0 _).setCell (p:=⟨q0,4,none⟩) wq0 _).setCell (p:=⟨q0,5,none⟩) wq0 _).setCell (p:=⟨q1,0,none⟩) wq1 _).setCell (p:=⟨q2,0,none⟩) wq2 _)
  have A0:Arr WF q0 37 [.int .i64 3,.string (mks S),.slice (some ⟨gv,0,none⟩) st.nodes.length cv,.int .i64 0,.slice As st.spans.length cs,.slice none 0 0]:=by rw [hWF];exact((((((((HR0.out.store 0 _).store 1 _).store 2 _).store 3 _).store 4 _).store 5 _).far (p:=⟨q1,0,none⟩) h01 _).far (p:=⟨q2,0,none⟩) h02 _)
  have A1:Arr WF q1 3 [.int .i64 0]:=by rw [hWF];exact((((((((HR1.out.far (p:=⟨q0,0,none⟩) h10 _).far (p:=⟨q0,1,none⟩) h10 _).far (p:=⟨q0,2,none⟩) h10 _).far (p:=⟨q0,3,none⟩) h10 _).far (p:=⟨q0,4,none⟩) h10 _).far (p:=⟨q0,5,none⟩) h10 _).store 0 _).far (p:=⟨q2,0,none⟩) h12 _)
  have A2:Arr WF q2 31 [.int .i64 0]:=by rw [hWF];exact((((((((HR2.out.far (p:=⟨q0,0,none⟩) h20 _).far (p:=⟨q0,1,none⟩) h20 _).far (p:=⟨q0,2,none⟩) h20 _).far (p:=⟨q0,3,none⟩) h20 _).far (p:=⟨q0,4,none⟩) h20 _).far (p:=⟨q0,5,none⟩) h20 _).far (p:=⟨q1,0,none⟩) h21 _).store 0 _)
  have hput:∀g,g≠D→(WF.putObj D (.deferred none)).heap[g]? = WF.heap[g]?:=fun g hg=>World.putObj_heap_other (fun e=>hg e)
  have B0:Arr (WF.putObj D (.deferred none)) q0 37 _:=(hput q0 (Ne.symm nD0.out)).trans A0
  have B1:Arr (WF.putObj D (.deferred none)) q1 3 _:=(hput q1 (Ne.symm nD1.out)).trans A1
  have B2:Arr (WF.putObj D (.deferred none)) q2 31 _:=(hput q2 (Ne.symm nD2.out)).trans A2
  have IM9:IM (WF.putObj D (.deferred none)) B S (.slice (some ⟨gv,0,none⟩) st.nodes.length cv) (.slice As st.spans.length cs) ncs lab none st:=IF9.grownC (grownBy_putObj' WF D (.deferred none)) (fun r e=>by obtain rfl:=Option.some.inj e;exact⟨_,hKF,rfl⟩)
  have BL9:Below w.heap.size w (WF.putObj D (.deferred none)):=BF9.grown (grownBy_putObj' WF D (.deferred none)) BF9.size (fun k e=>by obtain rfl:=Option.some.inj e;exact wD.out)
  have c0:=B0.cell' (i:=0) rfl
  have c1:=B0.cell' (i:=1) rfl
  have c2:=B0.cell' (i:=2) rfl
  have c3:=B0.cell' (i:=3) rfl
  have c4:=B0.cell' (i:=4) rfl
  have c5:=B0.cell' (i:=5) rfl
  have d0:=B1.cell' (i:=0) rfl
  have e0:=B2.cell' (i:=0) rfl
  refine⟨by simp,.inl ⟨_,_,rfl,run_takeDeferred hKF,?_⟩⟩
  refine⟨.tuple #[.agg #[.int .i64 3,.string (mks S),.slice (some ⟨gv,0,none⟩) st.nodes.length cv,.int .i64 0,.slice As st.spans.length cs,.slice none 0 0],.int .i64 0,.int .i64 0],?_,?_⟩
  ·simp [results,Tryz.results9,go_sem,c0,c1,c2,c3,c4,c5,d0,e0]
  ·have hf:=HF.out
   rw [hf]
   exact⟨gv,cv,As,st.spans.length,cs,rfl,BL9,IM9.grd⟩
end Go.Proofs.YtnnnagnjikdnnaaGreatDoor
namespace Go.Proofs.YtnnnagnjikdnnaaGreatDoor
open Go.RowKit
end Go.Proofs.YtnnnagnjikdnnaaGreatDoor
namespace Go.Proofs.YtnnnagnjikdnnaaGreatDoor
open Go.RowKit
end Go.Proofs.YtnnnagnjikdnnaaGreatDoor
namespace Go.Proofs.YtnnnagnjikdnnaaGreatDoor
open Go.RowKit
end Go.Proofs.YtnnnagnjikdnnaaGreatDoor
namespace Go.Proofs.YtnnnagnjikdnnaaGreatDoor
open Go.RowKit
def cload (t:TypeId) (x:Operand):Op:=.load t x
@[go_sem] theorem cload_is (t:TypeId) (x:Operand):cload t x=.load t x:=rfl
section
variable {s:List Nat} {h:CH} {n d:Nat} {w w':World} {B:Nat} {vn vs vh vm:Value} {lab:Nat→Option Nat} {st:CSt} {e:Ending}
end
end Go.Proofs.YtnnnagnjikdnnaaGreatDoor
namespace Go.Proofs.YtnnnagnjikdnnaaGreatDoor
open Go.RowKit
end Go.Proofs.YtnnnagnjikdnnaaGreatDoor
namespace Go.Proofs.YtnnnagnjikdnnaaGreatDoor
open Go.RowKit
end Go.Proofs.YtnnnagnjikdnnaaGreatDoor
namespace Go.Proofs.YtnnnagnjikdnnaaGreatDoor
open Go.RowKit
end Go.Proofs.YtnnnagnjikdnnaaGreatDoor
namespace Go.Proofs.YtnnnagnjikdnnaaGreatDoor
open Go.RowKit
/-! ### A list of nulls -/
/-! ### The list of the widths -/
section
variable {m:Nat} {t:List Nat}
end
end Go.Proofs.YtnnnagnjikdnnaaGreatDoor
