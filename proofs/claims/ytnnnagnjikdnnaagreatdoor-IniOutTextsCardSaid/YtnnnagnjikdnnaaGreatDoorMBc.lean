/- canon.of and canon.normal, for any graph; the block of zero nodes. -/
import Derived.Test.YtnnnagnjikdnnaaGreatDoorMBb
import Derived.Test.YtnnnagnjikdnnaaGreatDoorMAw
import Derived.Test.YtnnnagnjikdnnaaGreatDoorMAt
import Derived.Test.YtnnnagnjikdnnaaGreatDoorMAu
import Derived.Test.YtnnnagnjikdnnaaGreatDoorMAj
import Derived.Recover
import Derived.Defers
import Derived.Test.YtnnnagnjikdnnaaGreatDoorMAk
import Derived.Deep.QuietTactic
import Derived.BigQuiet
set_option linter.unusedVariables false
set_option linter.unusedSimpArgs false
set_option linter.defProp false
set_option linter.constructorNameAsVariable false
namespace Go.Proofs.YtnnnagnjikdnnaaGreatDoor
open Go.RowKit
theorem infoSlI:(Tryz.prog.info? 28).map (fun i=>(i.zero,i.size,i.bytes))=some (some (.slice none 0 0),1,24):=by kernel_rfl
section
variable {P:Program} {w:World} {ops:Array Oper} {rest:List Oper} {o:Oper} {a:Act} {Q:Exit→Act→World→Prop}
theorem wpList_mkZ (hg:o.guard=none) (l c:Operand) (t:TypeId) (hop:o.op=.makeSlice t l c) (e:TypeId) (z:Value) (k bytes:Nat) (h1:P.underlying t=some (.slice e))
  (h2:(P.info? e).map (fun i=>(i.zero,i.size,i.bytes))=some (some z,k,bytes)) (kl kc:IntKind) (L C:Int) (hl:a.eval l=.int kl L) (hc:a.eval c=.int kc C)
  (n m:Nat) (hL:L=n) (hC:C=m) (hnm:n≤m) (hb:bytes*m≤281474976710656) (hm:m≤maxLen)
  (hK:∀g w',Hid (g=w.heap.size)→Hid (Arr w' g e (madeCells z.cells (m*k)).toList)→Below w.heap.size w w'→Hid (w'.heap.size=g+1) →
   wpList P ops Q rest (a.put o.dst (.slice (some ⟨g,0,none⟩) n m)) w'):wpList P ops Q (o :: rest) a w:=by
 obtain⟨i,hi,hz1,hz2,hz3⟩:=info_parts h2
 refine wpList_plain hg fun K hK'=>?_
 subst hL;subst hC
 have hb':(i.bytes:Int)*(m:Int)≤281474976710656:=by
  have h:((i.bytes*m:Nat):Int)≤281474976710656:=by subst hz3;omega
  rwa [Int.natCast_mul] at h
 have hm':(m:Int)≤9223372036854775807:=by simp [maxLen] at hm;omega
 have hrun:=run_make (P:=P) w t e i z h1 hi hz1 kl kc n m (by omega) (by omega) hb' hm'
 simp only [Int.toNat_natCast,hz2] at hrun
 unfold Oper.wp
 simp [execOp,hop,hl,hc,hrun,Result.andThen]
 have hA:Hid (Arr (w.alloc (.cells (madeCells z.cells (m*k)) e)) w.heap.size e (madeCells z.cells (m*k)).toList):=heap_alloc_new w _
 refine hK' _ _ (hK w.heap.size _ rfl hA ((Below.refl _ _).alloc (Nat.le_refl _) _) ?_)
 show _=_
 simp
end
theorem take_five {l:List Value} {p:Nat} {a b c d e:Value} (h0:l[p]? = some a) (h1:l[p+1]? = some b) (h2:l[p+2]? = some c) (h3:l[p+3]? = some d) (h4:l[p+4]? = some e):(l.drop p).take 5 = [a,b,c,d,e]:=by
 apply List.ext_getElem?
 intro i
 rw [List.getElem?_take]
 split
 ·rw [List.getElem?_drop]
  match i with
  | 0=>simpa using h0
  | 1=>simpa using h1
  | 2=>simpa using h2
  | 3=>simpa using h3
  | 4=>simpa using h4
 ·rw [List.getElem?_eq_none (by simp;omega)]
def zNd:Value:=.agg #[.int .i64 0,.string ⟨#[]⟩,.bool false,.slice none 0 0,.slice none 0 0]
theorem made_get {n i j:Nat} (hi:i<n) (hj:j<5):(madeCells zNd.cells (n*5)).toList[i*5+j]? = some (zNd.cells[j]!):=by
 have hs:zNd.cells.size=5:=by kernel_rfl
 unfold madeCells
 rw [hs]
 simp [List.getElem?_eq_getElem,show i*5+j<n*5 by omega,show(i*5+j) % 5=j by omega]
theorem NodesRd.zero (w:World) (F:Nat→Prop) (n:Nat):NodesRd w F (madeCells zNd.cells (n*5)).toList (List.replicate n nd0):=by
 refine⟨by simp [madeCells],fun i nd hi=>?_⟩
 have hin:i<n:=by have:=(List.getElem?_eq_some_iff.1 hi).1;simpa using this
 have hnd:nd=nd0:=by
  obtain⟨h,e⟩:=List.getElem?_eq_some_iff.1 hi
  rw [←e];simp
 subst hnd
 have hc:=take_five (l:=(madeCells zNd.cells (n*5)).toList) (p:=i*5) (made_get (j:=0) hin (by omega)) (made_get (j:=1) hin (by omega)) (made_get (j:=2) hin (by omega)) (made_get (j:=3) hin (by omega)) (made_get (j:=4) hin (by omega))
 rw [hc]
 refine⟨none,0,0,none,0,0,rfl,⟨rfl,fun j u hj=>by simp [I64,nd0] at hj,fun ad e=>nomatch e⟩,⟨rfl,fun j u hj=>by simp [I64,nd0] at hj,fun ad e=>nomatch e⟩⟩
theorem grd_arr {w:World} {g:Nat} {F:Nat→Prop} {nodes:List GNode} {ncs:List Value} (hN:Arr w g 30 ncs) (hNr:NodesRd w F ncs nodes):GRd w w.heap.size g 0 nodes:=by
 refine⟨hN.lt,Nat.le_refl _,fun i nd hi=>?_⟩
 obtain⟨K,nk,ck,I,ni,ci,hcs,⟨hk1,hk2,hk3⟩,⟨hi1,hi2,hi3⟩⟩:=hNr.2 i nd hi
 subst hk1
 subst hi1
 obtain⟨e0,e1,e2,e3,e4⟩:=node_cells hcs
 have hb:∀{A:Option Addr},(∀ad,A=some ad→F ad.block∧∃C fz,w.heap[ad.block]? = some (.cells C 3 fz))→∀ad,A=some ad→ad.block<w.heap.size:=fun h ad e=>by
  obtain⟨_,C,fz,hc⟩:=h ad e
  exact(Array.getElem?_eq_some_iff.1 hc).1
 rw [Nat.zero_add]
 exact⟨K,ck,I,ci,hN.cell' e0,hN.cell' e1,hN.cell' e2,hN.cell' e3,hN.cell' e4,⟨hk2,hb hk3⟩,hi2,hb hi3⟩
set_option maxRecDepth 20000 in
set_option maxHeartbeats 4000000 in
theorem of_any {g o c n:Nat} {root:Int} (hn:n≤4096) (w:World) :
  Calls Tryz.prog 57 #[.agg #[.slice (some ⟨g,o,none⟩) n c,.int .i64 root]] w fun e w'=>∃tb sb,e=.returned (.pointer (some ⟨tb,0,none⟩))∧w.heap.size≤tb∧w.heap.size≤sb∧Below w.heap.size w w'∧TabN w' tb sb g o c n root (List.replicate n (.slice none 0 0)):=by
 have h1:Hid (Arr (w.alloc (.cells #[.slice (some ⟨g,o,none⟩) n c,.int .i64 root] 26)) w.heap.size 26 [.slice (some ⟨g,o,none⟩) n c,.int .i64 root]):=Arr.new w _ _
 have hB1:Hid (Below w.heap.size w (w.alloc (.cells #[.slice (some ⟨g,o,none⟩) n c,.int .i64 root] 26))):=(Below.refl _ _).alloc (Nat.le_refl _) _
 have mk_n:Hid (∀(w:World),(Instr.makeSlice 134 (.int .i64 (n:Int)) (.int .i64 (n:Int))).run Tryz.prog w=.ok (.slice (some ⟨w.heap.size,0,none⟩) n n) (w.alloc (.cells (List.replicate n (Value.slice none 0 0)).toArray 28))):=fun w=>by
  obtain⟨i,hi,hz1,hz2,hz3⟩:=info_parts infoSlI
  have h:=run_make (P:=Tryz.prog) w 134 28 i (.slice none 0 0) Tryz.underlying134 hi hz1 .i64 .i64 n n (by omega) (by omega) (by rw [hz3];omega) (by omega)
  rw [h]
  simp only [Int.toNat_natCast,hz2,Nat.mul_one,madeCells_one (.slice none 0 0) rfl]
 obtain⟨zs,hzs⟩:∃zs,List.replicate n (Value.slice none 0 0)=zs:=⟨_,rfl⟩
 rw [hzs] at mk_n ⊢
 clear hzs
 go_enter Tryz.func57,Tryz.ntmps57
 go_upto_region 1 with(fail)
 generalize w.alloc (.cells #[.slice (some ⟨g,o,none⟩) n c,.int .i64 root] 26)=W at *
 have x0:W.drew.cell? ⟨w.heap.size,0,none⟩=some (.slice (some ⟨g,o,none⟩) n c):=h1.out.cell' (i:=0) rfl
 have x1:W.drew.cell? ⟨w.heap.size,1,none⟩=some (.int .i64 root):=h1.out.cell' (i:=1) rfl
 have hmk:=mk_n.out W.drew
 have h1a:Hid (Arr (W.alloc (.cells zs.toArray 28)) w.heap.size 26 [.slice (some ⟨g,o,none⟩) n c,.int .i64 root]):=h1.out.alloc _
 have y0:=h1.out.cell' (i:=0) rfl
 have y1:=h1.out.cell' (i:=1) rfl
 have z0:=h1a.out.cell' (i:=0) rfl
 have z1:=h1a.out.cell' (i:=1) rfl
 go_region
 obtain⟨hS2,hT2,hb2,hz2⟩:=box2 W 28 145 zs [.slice (some ⟨g,o,none⟩) n c,.int .i64 root,.slice (some ⟨W.heap.size,0,none⟩) n n]
 have hs:=hB1.out.size
 go_wp2_with (fail)
 go_ret
 exact⟨W.heap.size+1,W.heap.size,rfl,by omega,hs,(hB1.out.trans (hb2.mono hs)).drew,⟨hT2.out,hS2.out⟩⟩
end Go.Proofs.YtnnnagnjikdnnaaGreatDoor
namespace Go.Proofs.YtnnnagnjikdnnaaGreatDoor
open Go.RowKit
def KFr (w w':World):Prop:=w.heap.size≤w'.heap.size∧∀b,b<w.heap.size→((∃C fz,w.heap[b]? = some (.cells C 30 fz))∨(∃C fz,w.heap[b]? = some (.cells C 3 fz)))→w'.heap[b]? = w.heap[b]?
theorem KFr.refl (w:World):KFr w w:=⟨Nat.le_refl _,fun _ _ _=>rfl⟩
theorem KFr.trans {a b c:World} (h:KFr a b) (k:KFr b c):KFr a c:=by
 refine⟨Nat.le_trans h.1 k.1,fun j hj hk=>?_⟩
 have e:=h.2 j hj hk
 rw [←e] at hk
 exact(k.2 j (Nat.lt_of_lt_of_le hj h.1) hk).trans e
theorem KFr.below {w w':World} (h:Below w.heap.size w w'):KFr w w':=⟨h.size,fun b hb _=>h.block b hb⟩
theorem KFr.set {w:World} {b:Nat} {t:TypeId} {xs:List Value} (ha:Arr w b t xs) (h1:t≠30) (h2:t≠3) (i:Nat) (u:Value):KFr w (w.setCell ⟨b,i,none⟩ u):=by
 refine⟨by simp [World.setCell],fun j _ hk=>setCell_heap_ne _ _ _ ?_⟩
 rintro rfl
 rcases hk with⟨C,fz,hk⟩ | ⟨C,fz,hk⟩
 ·exact h1 (cells_kind ha hk)
 ·exact h2 (cells_kind ha hk)
def GK (w:World) (ob:Nat) (N:List GNode):Prop:=∀w',KFr w w'→GRd w' w'.heap.size ob 0 N
theorem GK.step {w w':World} {ob:Nat} {N:List GNode} (h:GK w ob N) (k:KFr w w'):GK w' ob N:=fun w'' k'=>h w'' (k.trans k')
theorem GK.rd {w:World} {ob:Nat} {N:List GNode} (h:GK w ob N):GRd w w.heap.size ob 0 N:=h w (KFr.refl w)
theorem gk_own {w:World} {B g c:Nat} {nodes:List GNode} {ncs:List Value} (hN:w.ownsRow B 30 5 (.slice (some ⟨g,0,none⟩) nodes.length c) nodes.length ncs) (hNr:NodesRd w (fun _=>True) ncs nodes):GK w g nodes:=fun w' k=>
 grd_own (own_same hN fun b hb=>k.2 b (hN.lt b hb).2 (.inl (own_kind hN hb))) (hNr.over fun b hb _ hk=>⟨k.2 b hb (.inr hk),trivial⟩)
theorem gk_arr {w:World} {om:Nat} {N:List GNode} {ncs:List Value} (ha:Arr w om 30 ncs) (hN:NodesRd w (fun _=>True) ncs N):GK w om N:=fun w' k=>
 grd_arr ((k.2 om ha.lt (.inl ⟨_,_,ha⟩)).trans ha) (hN.over fun b hb _ hk=>⟨k.2 b hb (.inr hk),trivial⟩)
end Go.Proofs.YtnnnagnjikdnnaaGreatDoor
namespace Go.Proofs.YtnnnagnjikdnnaaGreatDoor
open Go.RowKit
theorem kcatch_idle (p q:Addr) (w:World) :
  CallsD Tryz.prog 60 #[.pointer (some p),.pointer (some q)] .returning w fun e u' w'=>e=.returned (.tuple #[])∧u'=.returning∧w'=w:=by
 refine callsD_of_wpS Tryz.func60 rfl fun c₀ cs hu=>?_
 apply wpS_seq
 apply wpS_region
 simp [wpOpsS,go_sem,recoverD,hu,Tryz.ntmps60,Exit.thenS]
 apply wpS_seq
 apply wpS_region
 simp [wpOpsS,go_sem,Exit.thenS]
 refine wpS_cond (t:=false) (by simp [Act.eval,Array.replicate]) ?_
 simp only [Bool.false_eq_true,if_false]
 refine wpS_of_wp (wp_skip ?_)
 cases c₀
 simp_all [bodyPostS,results,Tryz.results60]
theorem ints_ofK {w:World} {B:Nat} {lab:Nat→Option Nat} {t:Nat} {v:Value} {xs:List Int} (h:BRow w B lab t v xs):∃A c,v=.slice A xs.length c∧IntsRd w (fun _=>True) A xs.length xs:=by
 obtain⟨A,c,hv,_,_,_,hrd,_⟩:=own_rd h.1
 refine⟨A,c,hv,rfl,hrd,fun ad e=>⟨trivial,?_⟩⟩
 subst hv
 subst e
 obtain⟨C,fz,hb⟩:=own_kind h.1 (g:=ad.block) rfl
 exact⟨C,fz,hb⟩
theorem KM.gk {s:List Nat} {w:World} {B g c:Nat} {ncs:List Value} {lab:Nat→Option Nat} {st:KSt} (h:KM w B s (.slice (some ⟨g,0,none⟩) st.nodes.length c) ncs lab (fun _=>False) st):GK w g st.nodes:=by
 refine gk_own h.nod ⟨h.nlen,fun i nd hi=>?_⟩
 obtain⟨vk,vi,e,h2,h3⟩:=h.nds i nd hi (fun h=>h)
 obtain⟨K,ck,rfl,hk⟩:=ints_ofK h2
 obtain⟨I,ci,rfl,hi⟩:=ints_ofK h3
 exact⟨K,_,ck,I,_,ci,e,hk,hi⟩
def ParseK (nodes:List GNode) (w:World) (e:Ending) (w':World):Prop:=
 ∃g c,e=.returned (.tuple #[.agg #[.slice (some ⟨g,0,none⟩) nodes.length c,.int .i64 0],.bool true])∧Below w.heap.size w w'∧GK w' g nodes
set_option maxRecDepth 100000 in
set_option maxHeartbeats 4000000 in
theorem kparse_any {s:List Nat} {f n:Nat} {nodes:List GNode} (hs:By s) (hl:s.length≤65536) (hn:s.length=n) (hv:valK s f 0 ⟨0,[]⟩=some (0,⟨n,nodes⟩)) (hnn:0<nodes.length) (w:World) :
  Calls Tryz.prog 31 #[.string (mks s)] w (ParseK nodes w):=by
 obtain⟨h1,h2,hb3,hz3⟩:=two_box w 26 4 [.slice none 0 0,.int .i64 0] [.bool false]
 have hmf:∀(fn:Fn) (first cap:Array Value) (w:World),(Instr.makeFunc fn first cap).run Tryz.prog w=.ok (.func fn first cap) w:=fun _ _ _ _=>rfl
 have HS:=Lib.hid hs
 have HV:=Lib.hid hv
 have HN:=Lib.hid hn
 have hsz:(mks s).size=n:=by rw [size_mks];exact hn
 clear hs hv hn
 go_enter_defers Tryz.func31,Tryz.ntmps31
 go_upto_region 1 with(fail)
 generalize ((w.alloc (.cells #[.slice none 0 0,.int .i64 0] 26)).alloc (.cells #[.bool false] 4))=W2 at *
 obtain⟨gb,hgb⟩:∃x,w.heap.size=x:=⟨_,rfl⟩
 obtain⟨ob,hob⟩:∃x,gb+1=x:=⟨_,rfl⟩
 have HGB:=Lib.hid hgb
 rw [hgb] at h1 h2 hb3 hz3 ⊢
 rw [hob] at h2 ⊢
 have lgo:gb<ob:=by omega
 have loz:ob<W2.heap.size:=by have:=hz3.out;omega
 have hgo:gb≠ob:=by omega
 have HB3:=Lib.hid hb3
 clear hgb hob hb3 hz3
 have hbA:Below W2.heap.size W2 (W2.alloc (.cells #[.string (mks s),.int .i64 0,.slice none 0 0] 116)):=(Below.refl _ _).alloc (Nat.le_refl _) _
 have h1b:=Lib.hid (h1.out.keep hbA)
 have h2b:=Lib.hid (h2.out.keep hbA)
 have hp3:Hid (Arr (W2.alloc (.cells #[.string (mks s),.int .i64 0,.slice none 0 0] 116)) W2.heap.size 116 [.string (mks s),.int .i64 0,.slice none 0 0]):=Arr.new W2 _ _
 have hb4:Hid (Below gb w (W2.alloc (.cells #[.string (mks s),.int .i64 0,.slice none 0 0] 116))):=HB3.out.trans (hbA.mono (by omega))
 go_upto_region 3 with(fail)
 generalize (W2.alloc (.cells #[.string (mks s),.int .i64 0,.slice none 0 0] 116))=W3 at *
 obtain⟨B,hB⟩:∃x,W2.heap.size=x:=⟨_,rfl⟩
 rw [hB] at hp3 loz ⊢
 clear hB hbA h1 h2 HB3
 have hM:Hid (KM W3 B s (.slice none 0 0) [] (fun _=>none) (fun _=>False) ⟨0,[]⟩):=⟨hp3.out,World.ownsRow_nil _ _ _ _,fun i nd h=>by simp at h,fun g h=>by simp at h⟩
 have DV:Hid (Calls Tryz.prog 61 #[.pointer (some ⟨B,0,none⟩),.int .i64 0] W3 (ValRK B s (fun _=>False) W3 (.slice none 0 0) (fun _=>none) ⟨0,[]⟩ 0 ⟨n,nodes⟩)):=kval_any HS.out hl f 0 _ _ _ _ _ _ _ W3 HV.out hM.out
 go_upto_region 4 with(go_at_call 61;((with_reducible refine DV.out.mono ?_));rintro e w4 ⟨rfl,vn4,ncs4,lab4,K4,P4,_,_⟩)
 obtain⟨g4,c4,rfl,hc41,hc42⟩:=own_slice0 K4.nod hnn
 have hfar:∀k,k<W3.heap.size→k≠B→¬KF B (.slice (some ⟨g4,0,none⟩) nodes.length c4) lab4 k:=fun k hk hne e=>by
  rcases P4.new k e with(e2 | e2 | e2) | e2
  ·exact hne e2
  ·simp [Value.ownBlock] at e2
  ·simp at e2
  ·omega
 have lB:B<W3.heap.size:=hp3.out.lt
 have h1c:=Lib.hid ((P4.keep gb h1b.out.lt (fun e=>by rcases e with e | e | e;omega;simp [Value.ownBlock] at e;simp at e)).trans h1b.out)
 have h2c:=Lib.hid ((P4.keep ob h2b.out.lt (fun e=>by rcases e with e | e | e;omega;simp [Value.ownBlock] at e;simp at e)).trans h2b.out)
 have hB4:Hid (Below gb w w4):=by
  refine⟨P4.os.trans hb4.out.os,P4.tape.trans hb4.out.tape,P4.output.trans hb4.out.output,Nat.le_trans hb4.out.size P4.size,fun k hk=>(P4.keep k (by have:=h1b.out.lt;omega) (fun e=>by rcases e with e | e | e;omega;simp [Value.ownBlock] at e;simp at e)).trans (hb4.out.block k hk)⟩
 have hfg:=hfar gb (by have:=h1b.out.lt;omega) (by omega)
 have hfo:=hfar ob (by have:=h2b.out.lt;omega) (by omega)
 have a1:Arr w4 gb 26 [.slice none 0 0,.int .i64 0]:=h1c.out
 have a2:Arr w4 ob 4 [.bool false]:=h2c.out
 have c1:w4.cell? ⟨B,1,none⟩=some (.int .i64 (n:Int)):=K4.c1
 have c2:w4.cell? ⟨B,2,none⟩=some (.slice (some ⟨g4,0,none⟩) nodes.length c4):=K4.c2
 have x0:=a1.cell' (i:=0) rfl
 have x1:=a1.cell' (i:=1) rfl
 have xf0:=a1.frozen 0
 have xf1:=a1.frozen 1
 have y0:=a2.cell' (i:=0) rfl
 have yf0:=a2.frozen 0
 have A9:Hid (Arr (((w4.setCell ⟨gb,0,none⟩ (.slice (some ⟨g4,0,none⟩) nodes.length c4)).setCell ⟨gb,1,none⟩ (.int .i64 0)).setCell ⟨ob,0,none⟩ (.bool true)) gb 26 [.slice (some ⟨g4,0,none⟩) nodes.length c4,.int .i64 0]):=((a1.store 0 _).store 1 _).far (p:=⟨ob,0,none⟩) hgo _
 have O9:Hid (Arr (((w4.setCell ⟨gb,0,none⟩ (.slice (some ⟨g4,0,none⟩) nodes.length c4)).setCell ⟨gb,1,none⟩ (.int .i64 0)).setCell ⟨ob,0,none⟩ (.bool true)) ob 4 [.bool true]):=((a2.far (p:=⟨gb,0,none⟩) (Ne.symm hgo) _).far (p:=⟨gb,1,none⟩) (Ne.symm hgo) _).store 0 _
 have K9:Hid (KM (((w4.setCell ⟨gb,0,none⟩ (.slice (some ⟨g4,0,none⟩) nodes.length c4)).setCell ⟨gb,1,none⟩ (.int .i64 0)).setCell ⟨ob,0,none⟩ (.bool true)) B s (.slice (some ⟨g4,0,none⟩) nodes.length c4) ncs4 lab4 (fun _=>False) ⟨n,nodes⟩):=((K4.far (p:=⟨gb,0,none⟩) hfg _).far (p:=⟨gb,1,none⟩) hfg _).far (p:=⟨ob,0,none⟩) hfo _
 have B9:Hid (Below gb w (((w4.setCell ⟨gb,0,none⟩ (.slice (some ⟨g4,0,none⟩) nodes.length c4)).setCell ⟨gb,1,none⟩ (.int .i64 0)).setCell ⟨ob,0,none⟩ (.bool true))):=((hB4.out.setCell (p:=⟨gb,0,none⟩) (Nat.le_refl _) _).setCell (p:=⟨gb,1,none⟩) (Nat.le_refl _) _).setCell (p:=⟨ob,0,none⟩) (Nat.le_of_lt lgo) _
 have hnb:gb≠B:=by omega
 have hnb2:ob≠B:=by omega
 clear K4 P4 hfar hfg hfo a1 a2 h1b h2b h1c h2c hB4 hb4 hM DV hp3
 go_region_held3 (fun w'=>w'.cell? ⟨B,1,none⟩=some (.int .i64 (n:Int))∧w'.cell? ⟨B,2,none⟩=some (.slice (some ⟨g4,0,none⟩) nodes.length c4)) (first | exact⟨by assumption,by assumption⟩ | (refine⟨?_,?_⟩ <;> (simp only [World.cell?_setCell_far _ _ _ _ hnb,World.cell?_setCell_far _ _ _ _ hnb2];assumption)) | go_keep) (fail)
 all_goals
  go_wp2_with (fail)
  have A10:=Lib.hid (arr_drew A9.out)
  have O10:=Lib.hid (arr_drew O9.out)
  have K10:=Lib.hid K9.out.drew
  have B10:=Lib.hid B9.out.drew
  clear A9 O9 K9 B9 c1 c2 x0 x1 xf0 xf1 y0 yf0
  generalize (((w4.setCell ⟨gb,0,none⟩ (.slice (some ⟨g4,0,none⟩) nodes.length c4)).setCell ⟨gb,1,none⟩ (.int .i64 0)).setCell ⟨ob,0,none⟩ (.bool true)).drew=w9 at *
  have p0:=A10.out.cell' (i:=0) rfl
  have p1:=A10.out.cell' (i:=1) rfl
  have r0:=O10.out.cell' (i:=0) rfl
  have hG9:Hid (GK w9 g4 nodes):=KM.gk (st:=⟨n,nodes⟩) K10.out
  have hPR:ParseK nodes w (.returned (.tuple #[.agg #[.slice (some ⟨g4,0,none⟩) nodes.length c4,.int .i64 0],.bool true])) w9:=⟨g4,c4,rfl,by rw [HGB.out];exact B10.out,hG9.out⟩
  refine leaves_cons (f:=60) (args:=#[.pointer (some ⟨gb,0,none⟩),.pointer (some ⟨ob,0,none⟩)]) (by simp) (by simp [go_sem]) ?_
  refine(kcatch_idle ⟨gb,0,none⟩ ⟨ob,0,none⟩ _).mono ?_
  rintro e u' w'' ⟨rfl,rfl,rfl⟩
  simp [Leaves,settle,results,Tryz.results31,go_sem,p0,p1,r0]
  exact hPR
end Go.Proofs.YtnnnagnjikdnnaaGreatDoor
namespace Go.Proofs.YtnnnagnjikdnnaaGreatDoor
open Go.RowKit
end Go.Proofs.YtnnnagnjikdnnaaGreatDoor
namespace Go.Proofs.YtnnnagnjikdnnaaGreatDoor
open Go.RowKit
end Go.Proofs.YtnnnagnjikdnnaaGreatDoor
namespace Go.Proofs.YtnnnagnjikdnnaaGreatDoor
open Go.RowKit
abbrev ChS:=List Bool×List Int
structure CnB where
 bm:Nat
 bo:Nat
 bg:Nat
 bv:Nat
 mb:Nat
structure Fr (w w':World) (mb bo:Nat) (ov ov':Value):Prop where
 os:w'.os=w.os
 tape:w'.tape=w.tape
 output:w'.output=w.output
 size:w.heap.size≤w'.heap.size
 block:∀b,b<w.heap.size→b≠mb→b≠bo→ov.ownBlock≠some b→w'.heap[b]? = w.heap[b]?
 own:ov'.ownBlock=ov.ownBlock∨∃b,ov'.ownBlock=some b∧w.heap.size≤b
theorem Fr.refl (w:World) (mb bo:Nat) (ov:Value):Fr w w mb bo ov ov:=⟨rfl,rfl,rfl,Nat.le_refl _,fun _ _ _ _ _=>rfl,.inl rfl⟩
theorem Fr.trans {a b c:World} {mb bo:Nat} {u v x:Value} (h:Fr a b mb bo u v) (k:Fr b c mb bo v x):Fr a c mb bo u x:=by
 refine⟨k.os.trans h.os,k.tape.trans h.tape,k.output.trans h.output,Nat.le_trans h.size k.size,fun j hj h1 h2 h3=>?_,?_⟩
 ·refine(k.block j (Nat.lt_of_lt_of_le hj h.size) h1 h2 (fun e=>?_)).trans (h.block j hj h1 h2 h3)
  rcases h.own with e1 | ⟨q,e1,e2⟩
  ·exact h3 (e1▸e)
  ·rw [e1] at e;have:=Option.some.inj e;omega
 ·rcases k.own with e1 | ⟨q,e1,e2⟩
  ·rcases h.own with e3 | ⟨p,e3,e4⟩
   ·exact .inl (e1.trans e3)
   ·exact .inr ⟨p,e1.trans e3,e4⟩
  ·exact .inr ⟨q,e1,Nat.le_trans h.size e2⟩
theorem Fr.below {w w':World} {mb bo z:Nat} {u v:Value} (h:Fr w w' mb bo u v) (h1:z≤mb) (h2:z≤bo) (h3:∀b,u.ownBlock=some b→z≤b) (hz:z≤w.heap.size):Below z w w':=
 ⟨h.os,h.tape,h.output,h.size,fun j hj=>h.block j (by omega) (by omega) (by omega) (fun e=>by have:=h3 j e;omega)⟩
theorem Fr.new {w w' w0:World} {mb bo:Nat} {u v:Value} (h:Fr w w' mb bo u v) (hb:Below w0.heap.size w0 w):Fr w0 w' mb bo u v:=by
 refine⟨h.os.trans hb.os,h.tape.trans hb.tape,h.output.trans hb.output,Nat.le_trans hb.size h.size,fun j hj h1 h2 h3=>(h.block j (Nat.lt_of_lt_of_le hj hb.size) h1 h2 h3).trans (hb.block j hj),?_⟩
 rcases h.own with e1 | ⟨q,e1,e2⟩
 ·exact .inl e1
 ·exact .inr ⟨q,e1,Nat.le_trans hb.size e2⟩
theorem Fr.arr {w w':World} {mb bo b:Nat} {u v:Value} {t:TypeId} {xs:List Value} (h:Fr w w' mb bo u v) (ha:Arr w b t xs) (h1:b≠mb) (h2:b≠bo) (h3:u.ownBlock≠some b):Arr w' b t xs:=(h.block b ha.lt h1 h2 h3).trans ha
section
variable {w w':World} {z B g o c:Nat} {nodes:List GNode} {root:Int} {e:CnB} {s:ChS} {ov:Value}
end
end Go.Proofs.YtnnnagnjikdnnaaGreatDoor
namespace Go.Proofs.YtnnnagnjikdnnaaGreatDoor
open Go.RowKit
end Go.Proofs.YtnnnagnjikdnnaaGreatDoor
namespace Go.Proofs.YtnnnagnjikdnnaaGreatDoor
open Go.RowKit
end Go.Proofs.YtnnnagnjikdnnaaGreatDoor
