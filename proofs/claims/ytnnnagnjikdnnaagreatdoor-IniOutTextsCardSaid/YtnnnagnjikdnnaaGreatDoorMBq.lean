/- The walk of rosettalaw10.Few, for every graph. -/
import Derived.Test.YtnnnagnjikdnnaaGreatDoorMAg
import Derived.Test.YtnnnagnjikdnnaaGreatDoorMAf
import Derived.RangeFuncNested
import Derived.RangeFuncBound
import Derived.RangeFuncCalls
import Derived.RangeFuncLeaves
import Derived.Test.YtnnnagnjikdnnaaGreatDoorMAa
import Derived.Test.YtnnnagnjikdnnaaGreatDoorMBm
import Derived.Test.YtnnnagnjikdnnaaGreatDoorMBi
set_option linter.unusedVariables false
set_option linter.unusedSimpArgs false
set_option linter.defProp false
set_option linter.constructorNameAsVariable false
namespace Go.Proofs.YtnnnagnjikdnnaaGreatDoor
open Go.RowKit
def fewN (nd:GNode):Bool:=decide (nd.text.length≤100) && (decide (nd.keys.length≤80) && decide (nd.items.length≤80))
def refsN (N:List GNode):Nat:=(N.map fun nd=>nd.keys.length+nd.items.length).sum
def bytesN (N:List GNode):Nat:=(N.map fun nd=>nd.text.length).sum
def fewG (N:List GNode):Bool:=decide (N.length≤40) && (N.all fewN && (decide (refsN N≤240) && decide (bytesN N≤300)))
theorem refsN_snoc (N:List GNode) (nd:GNode):refsN (N ++ [nd])=refsN N+(nd.keys.length+nd.items.length):=by simp [refsN]
theorem bytesN_snoc (N:List GNode) (nd:GNode):bytesN (N ++ [nd])=bytesN N+nd.text.length:=by simp [bytesN]
theorem take_snoc_nd {N:List GNode} {i:Nat} (h:i<N.length):N.take (i+1)=N.take i ++ [ndAt N i]:=by
 rw [List.take_add_one,List.getElem?_eq_getElem h]
 unfold ndAt
 rw [List.getD_eq_getElem?_getD,List.getElem?_eq_getElem h]
 rfl
theorem few_bound {N:List GNode}:∀i,i≤N.length→(N.take i).all fewN=true→refsN (N.take i)≤160*i∧bytesN (N.take i)≤100*i:=by
 intro i
 induction i with
 | zero=>intro _ _;simp [refsN,bytesN]
 | succ i ih=>
  intro hi ha
  rw [take_snoc_nd (by omega)] at ha ⊢
  rw [List.all_append,Bool.and_eq_true] at ha
  have h1:=ih (by omega) ha.1
  have h2:fewN (ndAt N i)=true:=by simpa using ha.2
  unfold fewN at h2
  simp only [Bool.and_eq_true,decide_eq_true_eq] at h2
  rw [refsN_snoc,bytesN_snoc]
  omega
theorem few_not {N:List GNode} {i:Nat} (hi:i<N.length) (h:fewN (ndAt N i)=false):fewG N=false:=by
 have ha:N.all fewN=false:=by
  rw [←Bool.not_eq_true]
  intro h2
  rw [List.all_eq_true] at h2
  have:=h2 (ndAt N i) (by unfold ndAt;rw [List.getD_eq_getElem?_getD,List.getElem?_eq_getElem hi];exact List.getElem_mem hi)
  rw [h] at this
  cases this
 unfold fewG
 rw [ha]
 simp
set_option maxRecDepth 20000 in
set_option maxHeartbeats 8000000 in
theorem few10_any {B g o c:Nat} {N:List GNode} {r:Int} (hL:NL 65536 N) (w:World) (hG:GRd w B g o N) :
  Calls Tryz.prog 5 #[.agg #[.slice (some ⟨g,o,none⟩) N.length c,.int .i64 r]] w fun e w'=>e=.returned (.bool (fewG N))∧Below w.heap.size w w':=by
 obtain⟨n,hn⟩:∃n,N.length=n:=⟨_,rfl⟩
 obtain⟨fv,hfv⟩:∃fv,fewG N=fv:=⟨_,rfl⟩
 have HF:=Lib.hid hfv
 have HN:=Lib.hid hn
 have HL:=Lib.hid hL
 have HG:=Lib.hid (hG.up hG.2.1 (Nat.le_refl _))
 have h1:Hid (Arr (w.alloc (.cells #[.slice (some ⟨g,o,none⟩) n c,.int .i64 r] 26)) w.heap.size 26 [.slice (some ⟨g,o,none⟩) n c,.int .i64 r]):=Arr.new w _ _
 have hb1:Hid (Below w.heap.size w (w.alloc (.cells #[.slice (some ⟨g,o,none⟩) n c,.int .i64 r] 26))):=(Below.refl _ _).alloc (Nat.le_refl _) _
 rw [hn,hfv]
 clear hL hG hn hfv
 go_enter Tryz.func5,Tryz.ntmps5
 go_upto_region 1 with(fail)
 generalize (w.alloc (.cells #[.slice (some ⟨g,o,none⟩) n c,.int .i64 r] 26))=w1 at *
 obtain⟨gb,hgb⟩:∃x,w.heap.size=x:=⟨_,rfl⟩
 rw [hgb] at h1 hb1 HG ⊢
 have HGB:=Lib.hid hgb
 clear hgb
 have x0:=h1.out.cell' (i:=0) rfl
 by_cases h40:40<n
 ·have h40':(n:Int) > 40:=by omega
  have hfv:fv=false:=by
   rw [←HF.out]
   unfold fewG
   rw [show decide (N.length≤40)=false by rw [HN.out,decide_eq_false_iff_not];omega]
   rfl
  have HFV:=Lib.hid hfv
  clear HF hfv
  go_wp2_with (fail)
  go_ret
  refine⟨?_,by rw [HGB.out];exact hb1.out⟩
  rw [HFV.out]
  rfl
 ·have h40':¬(n:Int) > 40:=by omega
  have hn40:n≤40:=by omega
  have R0:Hid ((N.take 0).all fewN=true):=by show _=_;simp
  have HX0:=Lib.hid x0
  have s0:(0:Int)=((refsN (N.take 0):Nat):Int):=by simp [refsN]
  have s1:(0:Int)=((bytesN (N.take 0):Nat):Int):=by simp [bytesN]
  have S0:=Lib.hid s0
  have S1:=Lib.hid s1
  clear s0 s1
  go_upto_region 5 with(fail)
  go_loopw [3,4,5] (fun rv bv iv wr=>∃i:Nat,i≤n∧iv=.int .i64 (i:Int)∧rv=.int .i64 ((refsN (N.take i):Nat):Int)∧bv=.int .i64 ((bytesN (N.take i):Nat):Int)∧Hid ((N.take i).all fewN=true)∧Hid (Arr wr gb 26 [.slice (some ⟨g,o,none⟩) n c,.int .i64 r])∧Hid (Below gb w wr)) (fun _ _ iv _=>n - (intOf iv).toNat)
  case atStart=>exact⟨0,Nat.zero_le _,rfl,congrArg (Value.int .i64) S0.out,congrArg (Value.int .i64) S1.out,R0,h1,hb1⟩
  case round=>
   obtain⟨i,hi,rfl,rfl,rfl,hall,hA,hB⟩:=hrel
   clear HX0 x0 h1 hb1 R0 S0 S1
   have x0:=hA.out.cell' (i:=0) rfl
   have hbd:=few_bound (N:=N) i (by rw [HN.out];exact hi) hall.out
   obtain⟨rf,hrf⟩:∃rf,refsN (N.take i)=rf:=⟨_,rfl⟩
   obtain⟨bt,hbt⟩:∃bt,bytesN (N.take i)=bt:=⟨_,rfl⟩
   rw [hrf,hbt] at hbd ⊢
   have HRF:=Lib.hid hrf
   have HBT:=Lib.hid hbt
   have hr1:rf≤6400:=by omega
   have hb1:bt≤4000:=by omega
   clear hrf hbt hbd
   by_cases hin:i=n
   ·have hi':¬(i:Int)<n:=by omega
    have hall2:N.all fewN=true:=by
     have h:=hall.out
     rw [hin,←HN.out,List.take_length] at h
     exact h
    have hrf2:refsN N=rf:=by
     have h:=HRF.out
     rw [hin,←HN.out,List.take_length] at h
     exact h
    have hbt2:bytesN N=bt:=by
     have h:=HBT.out
     rw [hin,←HN.out,List.take_length] at h
     exact h
    have hfin:fv=(decide (rf≤240) && decide (bt≤300)):=by
     rw [←HF.out]
     unfold fewG
     rw [hall2,hrf2,hbt2,HN.out,show decide (n≤40)=true by rw [decide_eq_true_eq];exact hn40]
     rfl
    have HFV:=Lib.hid hfin
    clear hall2 hrf2 hbt2 hfin
    have HBB:=Lib.hid hB.out
    clear hin hi
    by_cases h1:rf≤240
    ·have h1':(rf:Int)≤240:=by omega
     by_cases h2:bt≤300
     ·have h2':(bt:Int)≤300:=by omega
      go_wp2_with (fail)
      go_ret
      refine⟨?_,by rw [HGB.out];exact HBB.out⟩
      rw [HFV.out,decide_eq_true h1,decide_eq_true h2]
      rfl
     ·have h2':¬(bt:Int)≤300:=by omega
      go_wp2_with (fail)
      go_ret
      refine⟨?_,by rw [HGB.out];exact HBB.out⟩
      rw [HFV.out,decide_eq_true h1,decide_eq_false h2]
      rfl
    ·have h1':¬(rf:Int)≤240:=by omega
     go_wp2_with (fail)
     go_ret
     refine⟨?_,by rw [HGB.out];exact HBB.out⟩
     rw [HFV.out,decide_eq_false h1]
     rfl
   ·have hi':(i:Int)<n:=by omega
    have i0:(0:Int)≤i:=by omega
    have hiN:i<N.length:=by rw [HN.out];omega
    have hGr:=HG.out.below hB.out (Nat.le_refl _)
    obtain⟨K,ck,I,ci,c0,c1,c2,c3,c4,_,_⟩:=hGr.of_at (i:=i) hiN
    have hbf:=few_bound (N:=N) (i+1) (by omega)
    have hsn:=take_snoc_nd hiN
    obtain⟨nd,hnd⟩:∃nd,ndAt N i=nd:=⟨_,rfl⟩
    have hnl:=HL.out i hiN
    rw [hnd] at c0 c1 c2 c3 c4 hsn hnl
    obtain⟨lt,hlt⟩:∃l,nd.text.length=l:=⟨_,rfl⟩
    obtain⟨lk,hlk⟩:∃l,nd.keys.length=l:=⟨_,rfl⟩
    obtain⟨li,hli⟩:∃l,nd.items.length=l:=⟨_,rfl⟩
    obtain⟨tx,htx⟩:∃t,mks nd.text=t:=⟨_,rfl⟩
    have hts:tx.size=lt:=by rw [←htx,size_mks,hlt]
    rw [hlk] at c3 hnl
    rw [hli] at c4 hnl
    rw [htx] at c1
    have hfe:fewN nd=(decide (lt≤100) && (decide (lk≤80) && decide (li≤80))):=by unfold fewN;rw [hlt,hlk,hli]
    have hbad:Hid (fewN nd=false→fv=false):=fun h=>by rw [←HF.out];exact few_not hiN (by rw [hnd];exact h)
    have hgood:Hid (fewN nd=true→(N.take (i+1)).all fewN=true):=fun h=>by rw [hsn,List.all_append,hall.out];simp [h]
    have hrs:refsN (N.take (i+1))=rf+(lk+li):=by rw [hsn,refsN_snoc,HRF.out,hlk,hli]
    have hbs:bytesN (N.take (i+1))=bt+lt:=by rw [hsn,bytesN_snoc,HBT.out,hlt]
    have HRS:=Lib.hid hrs
    have HBS:=Lib.hid hbs
    have HFE:=Lib.hid hfe
    have hbA:Below wr.heap.size wr (wr.alloc (.cells #[.int .i64 nd.kind,.string tx,.bool nd.ord,.slice K lk ck,.slice I li ci] 30)):=(Below.refl _ _).alloc (Nat.le_refl _) _
    have HB2:Hid (Below gb w (wr.alloc (.cells #[.int .i64 nd.kind,.string tx,.bool nd.ord,.slice K lk ck,.slice I li ci] 30))):=hB.out.trans (hbA.mono (by have:=hA.out.lt;omega))
    have HA2:=Lib.hid (hA.out.keep hbA)
    have hgl:=hA.out.lt
    obtain⟨kd,hkd⟩:∃k,nd.kind=k:=⟨_,rfl⟩
    obtain⟨od,hod⟩:∃k,nd.ord=k:=⟨_,rfl⟩
    rw [hkd] at c0 HB2 HA2
    rw [hod] at c2 HB2 HA2
    clear hkd hod hbA hbs hrs hfe hsn hlt hlk hli htx hnd hbf hGr hall hA hB
    by_cases ht:lt≤100
    ·have ht':¬(lt:Int) > 100:=by omega
     by_cases hk:lk≤80
     ·have hk':¬(lk:Int) > 80:=by omega
      by_cases hz:li≤80
      ·have hz':¬(li:Int) > 80:=by omega
       have hall3:=Lib.hid (hgood.out (by rw [HFE.out,decide_eq_true ht,decide_eq_true hk,decide_eq_true hz];rfl))
       clear hbad hgood
       go_wp2_with (fail)
       go_roundw
       case rel=>exact⟨i+1,by omega,i64e (by omega),by rw [HRS.out];exact i64e (by omega),by rw [HBS.out];exact i64e (by omega),hall3,HA2,HB2⟩
       case measure=>simp [intOf];omega
      ·have hz':(li:Int) > 80:=by omega
       have HFV:=Lib.hid (hbad.out (by rw [HFE.out,decide_eq_false hz];simp))
       go_wp2_with (fail)
       go_ret
       refine⟨?_,by rw [HGB.out];exact HB2.out⟩
       rw [HFV.out]
       rfl
     ·have hk':(lk:Int) > 80:=by omega
      have HFV:=Lib.hid (hbad.out (by rw [HFE.out,decide_eq_false hk];simp))
      go_wp2_with (fail)
      go_ret
      refine⟨?_,by rw [HGB.out];exact HB2.out⟩
      rw [HFV.out]
      rfl
    ·have ht':(lt:Int) > 100:=by omega
     have HFV:=Lib.hid (hbad.out (by rw [HFE.out,decide_eq_false ht];simp))
     go_wp2_with (fail)
     go_ret
     refine⟨?_,by rw [HGB.out];exact HB2.out⟩
     rw [HFV.out]
     rfl
end Go.Proofs.YtnnnagnjikdnnaaGreatDoor
namespace Go.Proofs.YtnnnagnjikdnnaaGreatDoor
open Go Go.RowKit
def SeqList {α:Type} (F:Fence) (n:Nat) (P:Program) (g:Nat) (lb:Array Value) (encs:α→Array Value) (Kp:World→World→Prop) (L:List α) (w:World):Prop:=
 ∀(l:Nat) (J:Nat→World→Prop) (W:World),Below w.heap.size w W→AbidesFrom W.heap.size J →
  (∀k x W1,L[k]? = some x→J k W1→YieldAt F (n - 1) P l (encs x) W1 fun e W'=>e=.returned (.bool true)∧J (k+1) W'∧Kp W1 W') →
  J 0 W→CallsIn F n P g (#[.func (.yield l) #[] #[]] ++ lb) W fun e W'=>(∃v,e=.returned v)∧J L.length W'
structure Keep2 (B:Nat) (W W':World):Prop where
 size:W.heap.size≤W'.heap.size
 same:∀(k:Nat) (o:Obj),k=B∨k=B+1→W.heap[k]? = some o→W'.heap[k]? = some o
def goesOn (B:Nat) (Kp:World→World→Prop) (I:Nat→World→Prop) (k:Nat) (W:World):Exit→Act→World→Prop
 | .normal,_,W'=>Keep2 B W W'∧Kp W W'∧I k W'
 | _,_,_=>False
variable {F:Fence} {n:Nat} {P:Program}
theorem wpIn_rangeFunc_list {α:Type} {g:Operand} {ps:Array Tmp} {assign body:Code} {Q:Exit→Act→World→Prop} {a:Act} {w:World}
  (hro:F.round=none) (h1:1≤n) {gf:Nat} {lb:Array Value} (hg:a.eval g=.func (.func gf) #[] lb) (hFg:F.fn gf) (eg:∀args w,(callFunc gf args).run P w=.ok (.enter gf args) w)
  {encs:α→Array Value} {Kp:World→World→Prop} {L:List α} {w0:World} (hseq:SeqList F (n - 1) P gf lb encs Kp L w0)
  (hKt:∀{A B C:World},Kp A B→Kp B C→Kp A C) (hKb:∀(W:World) (l:Nat) (o o':Obj),w.heap.size≤l→W.heap[l]? = some o→o.isCells=false→o.isWalk=false→Kp W (W.putObj l o')) (hb0:Below w0.heap.size w0 w) (hps:∀x,(encs x).size=ps.size)
  (I:Nat→World→Prop) (hI:OwnFrom w.heap.size I) (h0:I 0 w) (Ax:Nat×α×Act→World→Prop) (hAx:OwnFrom w.heap.size Ax)
  (hassign:∀(l k:Nat) (x:α) (W:World) (K:Act→World→Prop),w.heap.size+1<W.heap.size→L[k]? = some x→I k W→(∀a' W',Keep2 w.heap.size W W'→Kp W W'→Ax (k,x,a') W'→K a' W') →
   assign.wpIn (F.inRound l) (n - 1 - 1) P (Exit.then K (fun _ _ _=>False)) { tmps:=(ps.zip (encs x)).foldl (fun t (p,v)=>t.setIfInBounds p v) a.tmps,defers:=[] } W)
  (hbody:∀(l k:Nat) (x:α) (a':Act) (W:World),w.heap.size+1<W.heap.size→L[k]? = some x→Ax (k,x,a') W→body.wpIn (F.inRound l) (n - 1 - 1) P (goesOn w.heap.size Kp I (k+1) W) a' W)
  (hdone:∀(D:Nat) (W:World),w.heap.size≤D→I L.length W→W.heap[D]? = some (.deferred (some []))→Q .normal { a with defers:={ target:=.collected D,args:=#[] } :: a.defers } W) :
  (Code.rangeFunc g ps assign body).wpIn F n P Q a w:=by
 refine wpIn_rangeFunc ?_
 intro fn hfn
 rw [hro]
 obtain⟨rec,hrec⟩:∃rec:LoopState→Option Code→Loop,rec=fun st pe=>{ state:=st,pending:=pe,fn,tmps:=a.tmps,params:=ps,assign,body,defers:=w.heap.size }:=⟨_,rfl⟩
 obtain⟨W1,hW1⟩:∃W1,(w.alloc (.deferred (some []))).alloc (.loop (rec .ready none))=W1:=⟨_,rfl⟩
 have hL1:W1.heap[w.heap.size+1]? = some (.loop (rec .ready none)):=by
  rw [←hW1]
  have h:=World.alloc_heap_new (w.alloc (.deferred (some []))) (.loop (rec .ready none))
  rwa [World.size_alloc] at h
 have hK1:W1.heap[w.heap.size]? = some (.deferred (some [])):=by
  rw [←hW1]
  exact(Below.heap_alloc _ _ _ (by simp)).trans (World.alloc_heap_new w _)
 have hI1:I 0 W1:=by rw [←hW1];exact hI.alloc _ (hI.alloc _ h0)
 have hb1:Below w0.heap.size w0 W1:=by
  rw [←hW1]
  exact hb0.trans ((((Below.refl _ w).alloc (Nat.le_refl _) _).alloc (by simp) _).mono hb0.size)
 refine⟨w.heap.size+1,[{ target:=.collected w.heap.size,args:=#[] }],W1,{ target:=.fn (.func gf) lb,args:=#[.func (.yield (w.heap.size+1)) #[] #[]] },W1,gf,
  #[.func (.yield (w.heap.size+1)) #[] #[]] ++ lb,W1,?_,?_,?_,?_,fun _=>h1,?_⟩
 ·rw [←hW1,hrec];exact run_enterLoop_outer _ _ _ _ _
 ·simp only [resolve,hg]
  simp [go_sem]
 ·intro f' hf'
  simp [Target.leads] at hf'
  subst hf'
  exact hFg
 ·simp [invoke,go_sem,eg]
 ·refine(hseq (w.heap.size+1) (fun k W=>I k W∧W.heap[w.heap.size+1]? = some (.loop (rec .ready none))∧W.heap[w.heap.size]? = some (.deferred (some []))) W1 hb1
   (fun s A B row hs hg' hr=>⟨hI s A B row hs.1 hg' (fun r e=>by
    obtain⟨hB,o,ho,hw⟩:=hr r e
    exact⟨by rw [←hW1] at hB;simp at hB;omega,o,ho,Obj.not_cells_of_walk hw⟩),(grownBy_keeps hg' (fun r e=>(hr r e).2) hs.2.1 rfl).trans hs.2.1,(grownBy_keeps hg' (fun r e=>(hr r e).2) hs.2.2 rfl).trans hs.2.2⟩)
   ?_ ⟨hI1,hL1,hK1⟩).mono ?_
  ·rintro k x W hx ⟨hi,hl,hk⟩
   have hlt:w.heap.size+1<W.heap.size:=(Array.getElem?_eq_some_iff.1 hl).1
   have hy:=run_yield (P:=P) (args:=encs x) hl (by rw [hrec];exact hps x)
   rw [hrec] at hy
   refine⟨fn,_,assign,body,hy,roundIn_of_wpIn hfn (hassign _ k x W _ hlt hx hi fun a' W' hkf hkp hax=>?_)⟩
   have hl':=hkf.same _ _ (.inr rfl) hl
   have hk':=hkf.same _ _ (.inl rfl) hk
   refine⟨_,run_beginRound hl' (by rw [hrec]),?_⟩
   have hlt':w.heap.size+1<W'.heap.size:=(Array.getElem?_eq_some_iff.1 hl').1
   have hl2:(W'.putObj (w.heap.size+1) (.loop { rec .ready none with state:=.busy })).heap[w.heap.size+1]? = some (.loop { rec .ready none with state:=.busy }):=World.putObj_heap_same hlt'
   have hk2:(W'.putObj (w.heap.size+1) (.loop { rec .ready none with state:=.busy })).heap[w.heap.size]? = some (.deferred (some [])):=(World.putObj_heap_other (by omega)).trans hk'
   have hw2:Kp W (W'.putObj (w.heap.size+1) (.loop { rec .ready none with state:=.busy })):=hKt hkp (hKb _ _ _ _ (by omega) hl' rfl rfl)
   refine wpIn_mono (hbody _ k x a' _ (by simpa using hlt') hx (hAx.putObj _ hax (by omega) hl' rfl)) ?_
   rintro e a3 W3 hp
   cases e with
   | normal=>
    obtain⟨hk3,hkp3,hi3⟩:=hp
    have hl3:=hk3.same _ _ (.inr rfl) hl2
    have hr:=run_endRound (P:=P) none hl3
    rw [hrec] at hr
    have hl4:(W3.putObj (w.heap.size+1) (.loop (rec .ready none))).heap[w.heap.size+1]? = some (.loop (rec .ready none)):=World.putObj_heap_same (Array.getElem?_eq_some_iff.1 hl3).1
    have hk4:(W3.putObj (w.heap.size+1) (.loop (rec .ready none))).heap[w.heap.size]? = some (.deferred (some [])):=(World.putObj_heap_other (by omega)).trans (hk3.same _ _ (.inl rfl) hk2)
    rw [hrec] at hl4 hk4
    exact⟨_,_,hr,rfl,⟨hI.putObj _ hi3 (by omega) hl3 rfl,by rw [hrec];exact hl4,hk4⟩,hKt (hKt hw2 hkp3) (hKb _ _ _ _ (by omega) hl3 rfl rfl)⟩
   | ret=>exact hp.elim
   | exit id=>exact hp.elim
   | goto t=>exact hp.elim
   | panic ch=>exact hp.elim
   | outgrown=>exact hp.elim
  ·rintro e W2 ⟨⟨v,rfl⟩,hi,hl,hk⟩
   have hr:=run_endLoop (P:=P) hl (by rw [hrec];simp)
   rw [hrec] at hr
   exact⟨none,_,hr,hdone _ _ (Nat.le_refl _) (hI.putObj _ hi (by omega) hl rfl) ((World.putObj_heap_other (by omega)).trans hk)⟩
end Go.Proofs.YtnnnagnjikdnnaaGreatDoor
namespace Go.Proofs.YtnnnagnjikdnnaaGreatDoor
open Go.RowKit
inductive NameAt (S:List Nat) (i e en:Nat) (t:List Nat) (stop x:Nat):Prop
 | quo (hq:QuoAt S i e t) (hs:i+(quoI t).length=stop) (hb:BlkI S stop e x) (hx:x<e) (hen:S[x]? = some en) (ht:By t):NameAt S i e en t stop x
 | bare (h0:∃c,S[i]? = some c∧c≠34) (hr:∀y,i≤y→y<x→∃c,S[y]? = some c∧c≠en) (hx:x<e) (hen:S[x]? = some en) (hs:TrmI S i x stop) (hi:i<stop) (ht:(S.take stop).drop i=t):NameAt S i e en t stop x
inductive ValAt (S:List Nat) (f b:Nat) (t:List Nat) (g:Nat):Prop
 | quo (g0:Nat) (hf:f<b) (h0:TrmI S f b g0) (hq:QuoAt S f b t) (hg:f+(quoI t).length=g) (hb:BlkI S g b b) (ht:By t):ValAt S f b t g
 | bare (h0:f=b∨∃c,S[f]? = some c∧c≠34) (hs:TrmI S f b g) (ht:(S.take g).drop f=t):ValAt S f b t g
inductive Item where
 | none
 | hdr (t:List Nat)
 | ent (k v:List Nat)
inductive OneAt (S:List Nat) (a b:Nat):Item→Prop
 | none (h:BlkI S a b b):OneAt S a b .none
 | hdr {t:List Nat} (i j stop x:Nat) (h:BlkI S a b i) (hi:i<b) (hc:S[i]? = some 91) (hj:BlkI S (i+1) b j) (hn:NameAt S j b 93 t stop x) (he:BlkI S (x+1) b b):OneAt S a b (.hdr t)
 | ent {k v:List Nat} (i c stop x f g:Nat) (h:BlkI S a b i) (hi:i<b) (hc:S[i]? = some c) (h1:c≠59) (h2:c≠35) (h3:c≠91) (hn:NameAt S i b 61 k stop x) (hf:BlkI S (x+1) b f) (hv:ValAt S f b v g):OneAt S a b (.ent k v)
inductive LnsAt (S:List Nat):Nat→List (Nat×Nat)→Prop
 | last {a:Nat} (h:a≤S.length) (hn:∀x,a≤x→x<S.length→S[x]?≠some 10):LnsAt S a [(a,S.length)]
 | next {a e:Nat} {L:List (Nat×Nat)} (h:a≤e) (he:S[e]? = some 10) (hn:∀x,a≤x→x<e→S[x]?≠some 10) (hr:∀x,a<x→x=e→S[x - 1]?≠some 13) (hL:LnsAt S (e+1) L):LnsAt S a ((a,e) :: L)
def addN (nodes:List GNode) (tn:Nat) (key:List Nat) (n:GNode):List GNode:=
 nodes.set tn { ndAt nodes tn with keys:=(ndAt nodes tn).keys ++ [(nodes.length:Int)],items:=(ndAt nodes tn).items ++ [((nodes.length+1:Nat):Int)] } ++ [tN key,n]
structure AddOK (nodes:List GNode) (tn:Nat) (key:List Nat):Prop where
 lt:tn<nodes.length
 len:nodes.length+2≤4096
 kl:(ndAt nodes tn).keys.length≤4096
 il:(ndAt nodes tn).items.length≤4096
 new:∀x∈(ndAt nodes tn).keys,∃k:Nat,x=(k:Int)∧k<nodes.length∧((mks (ndAt nodes k).text).toList == (mks key).toList)=false
inductive StepI:Item→Nat×List GNode→Nat×List GNode→Prop
 | none (s:Nat×List GNode):StepI .none s s
 | hdr {t:List Nat} {tn:Nat} {nodes:List GNode} (h:AddOK nodes 0 t):StepI (.hdr t) (tn,nodes) (nodes.length+1,addN nodes 0 t ⟨10,[],false,[],[]⟩)
 | ent {k v:List Nat} {tn:Nat} {nodes:List GNode} (h:AddOK nodes tn k):StepI (.ent k v) (tn,nodes) (tn,addN nodes tn k (tN v))
inductive RunI (S:List Nat):List (Nat×Nat)→Nat×List GNode→Nat×List GNode→Prop
 | nil (s:Nat×List GNode):RunI S [] s s
 | cons {l:Nat×Nat} {L:List (Nat×Nat)} {s s1 s2:Nat×List GNode} (it:Item) (h1:l.1≤l.2) (h2:l.2≤S.length) (h:OneAt S l.1 l.2 it) (hs:StepI it s s1) (hL:RunI S L s1 s2):RunI S (l :: L) s s2
theorem slice_eq {S K:List Nat} {p n q:Nat} (hn:K.length=n) (hq:q=p+n) (h:∀j,j<n→S[p+j]? = K[j]?):(S.take q).drop p=K:=by
 apply List.ext_getElem?
 intro j
 rw [List.getElem?_drop,List.getElem?_take]
 by_cases hj:j<n
 ·rw [if_pos (by omega),h j hj]
 ·rw [if_neg (by omega),List.getElem?_eq_none (by omega)]
section
variable {k v S:List Nat} {n m:Nat}
theorem quo_at {p e q:Nat} {t:List Nat} (hq:(quoI t).length=q) (h1:p+q≤e) (h2:e≤S.length) (h:∀j,j<q→S[p+j]? = (quoI t)[j]?):QuoAt S p e t:=⟨by omega,h2,fun j hj=>h j (by omega)⟩
theorem nb {c:Nat} (h:c≠32) (h2:c≠9):¬blankI c:=by rintro(e | e) <;> contradiction
theorem key_case {p:Nat} (hn:(keyI k).length=n) (hK:∀j,j<n→S[p+j]? = (keyI k)[j]?):(keyI k=quoI k∧S[p]? = some 34)∨(keyI k=k∧0<n∧∀j,j<n→∃c,S[p+j]? = some c∧bareI c=true):=by
 cases hq:keyQ k with
 | true=>
  have e:keyI k=quoI k:=by unfold keyI;rw [hq,if_pos rfl]
  refine .inl ⟨e,?_⟩
  have h0:=hK 0 (by rw [←hn,e,quo_end];simp)
  rw [e] at h0
  rw [show S[p]? = S[p+0]? from rfl,h0]
  rfl
 | false=>
  have e:keyI k=k:=by unfold keyI;rw [hq,if_neg (by decide)]
  have h:=keyQ_no hq
  rw [e] at hn hK
  refine .inr ⟨e,by have:=List.length_pos_iff.2 h.1;omega,fun j hj=>?_⟩
  obtain⟨c,hc⟩:∃c,k[j]? = some c:=⟨_,List.getElem?_eq_getElem (by omega)⟩
  exact⟨c,(hK j hj).trans hc,h.2 c (List.mem_of_getElem? hc)⟩
theorem val_case {p:Nat} (hn:(valI v).length=m) (hV:∀j,j<m→S[p+j]? = (valI v)[j]?):(valI v=quoI v∧S[p]? = some 34∧0<m∧S[p+m - 1]? = some 34)∨(valI v=v∧0<m∧(∃c,S[p]? = some c∧c≠34∧c≠32∧c≠9)∧(∃c,S[p+m - 1]? = some c∧c≠32∧c≠9)):=by
 cases hq:valQ v with
 | true=>
  have e:valI v=quoI v:=by unfold valI;rw [hq,if_pos rfl]
  have hm:m=(escIL v).length+2:=by rw [←hn,e,quo_end];simp
  refine .inl ⟨e,?_,by omega,?_⟩
  ·have h0:=hV 0 (by omega)
   rw [e] at h0
   rw [show S[p]? = S[p+0]? from rfl,h0]
   rfl
  ·have h0:=hV (m - 1) (by omega)
   rw [e,quo_end,List.getElem?_append_right (by simp;omega)] at h0
   rw [show p+m - 1=p+(m - 1) by omega,h0]
   simp [hm]
 | false=>
  have e:valI v=v:=by unfold valI;rw [hq,if_neg (by decide)]
  obtain⟨h1,h2,h3,h4,h5⟩:=valQ_no hq
  rw [e] at hn hV
  have hpos:=List.length_pos_iff.2 h1
  refine .inr ⟨e,by omega,?_,?_⟩
  ·obtain⟨c,r,rfl⟩:∃c r,v=c :: r:=by cases v with
    | nil=>exact absurd rfl h1
    | cons c r=>exact⟨c,r,rfl⟩
   have h0:=hV 0 (by omega)
   have h6:=h5 c (by simp)
   have h7:c≠34:=h2
   have h8:c≠32:=h3
   exact⟨c,h0,h7,h8,by omega⟩
  ·obtain⟨c,hc⟩:∃c,v[m - 1]? = some c:=⟨_,List.getElem?_eq_getElem (by omega)⟩
   have h0:=hV (m - 1) (by omega)
   have h6:=h5 c (List.mem_of_getElem? hc)
   have h7:c≠32:=by
    rw [List.getLastD_eq_getLast?,List.getLast?_eq_getElem?,hn,hc] at h4
    exact h4
   exact⟨c,by rw [show p+m - 1=p+(m - 1) by omega,h0,hc],h7,by omega⟩
theorem name_hdr (h:SrcAt S (keyI k) (valI v) n m) (hk:By k) (hn:(keyI k).length=n):NameAt S 1 (n+2) 93 k (n+1) (n+1):=by
 have hl:=h.len
 have h93:BlkI S (n+1) (n+2) (n+1):=BlkI.here (by omega) h.s1 (nb (by decide) (by decide))
 rcases key_case (p:=1) hn h.k1 with⟨e,h0⟩ | ⟨e,hn0,hb⟩
 ·have hq:(quoI k).length=n:=by rw [←e];exact hn
  exact .quo (quo_at hq (by omega) (by omega) (fun j hj=>by rw [h.k1 j hj,e])) (by omega) h93 (by omega) h.s1 hk
 ·have hkl:k.length=n:=by rw [←e];exact hn
  refine .bare ?_ (fun y h1 h2=>?_) (by omega) h.s1 ?_ (by omega) (slice_eq hkl (by omega) (fun j hj=>by rw [h.k1 j hj,e]))
  ·obtain⟨c,hc,hbc⟩:=hb 0 hn0
   exact⟨c,hc,by have:=bareI_is hbc;omega⟩
  ·obtain⟨c,hc,hbc⟩:=hb (y - 1) (by omega)
   exact⟨c,by rw [show y=1+(y - 1) by omega];exact hc,by have:=bareI_is hbc;omega⟩
  ·obtain⟨c,hc,hbc⟩:=hb (n - 1) (by omega)
   have:=bareI_is hbc
   exact TrmI.here (by omega) (c:=c) (by rw [show n+1 - 1=1+(n - 1) by omega];exact hc) (nb (by omega) (by omega))
theorem name_ent (h:SrcAt S (keyI k) (valI v) n m) (hk:By k) (hn:(keyI k).length=n):NameAt S (n+3) (2*n+6+m) 61 k (2*n+3) (2*n+4):=by
 have hl:=h.len
 have h61:BlkI S (2*n+3) (2*n+6+m) (2*n+4):=BlkI.next h.s3 (.inl rfl) (BlkI.here (by omega) h.s4 (nb (by decide) (by decide)))
 rcases key_case (p:=n+3) hn h.k2 with⟨e,h0⟩ | ⟨e,hn0,hb⟩
 ·have hq:(quoI k).length=n:=by rw [←e];exact hn
  exact .quo (quo_at hq (by omega) (by omega) (fun j hj=>by rw [h.k2 j hj,e])) (by omega) h61 (by omega) h.s4 hk
 ·have hkl:k.length=n:=by rw [←e];exact hn
  refine .bare ?_ (fun y h1 h2=>?_) (by omega) h.s4 ?_ (by omega) (slice_eq hkl (by omega) (fun j hj=>by rw [h.k2 j hj,e]))
  ·obtain⟨c,hc,hbc⟩:=hb 0 hn0
   exact⟨c,hc,by have:=bareI_is hbc;omega⟩
  ·by_cases hy:y=2*n+3
   ·subst hy;exact⟨32,h.s3,by decide⟩
   ·obtain⟨c,hc,hbc⟩:=hb (y - (n+3)) (by omega)
    exact⟨c,by rw [show y=n+3+(y - (n+3)) by omega];exact hc,by have:=bareI_is hbc;omega⟩
  ·obtain⟨c,hc,hbc⟩:=hb (n - 1) (by omega)
   have:=bareI_is hbc
   exact TrmI.next h.s3 (.inl rfl) (TrmI.here (by omega) (c:=c) (by rw [show 2*n+3 - 1=n+3+(n - 1) by omega];exact hc) (nb (by omega) (by omega)))
theorem key_first (h:SrcAt S (keyI k) (valI v) n m) (hn:(keyI k).length=n):∃c,S[n+3]? = some c∧c≠59∧c≠35∧c≠91∧¬blankI c:=by
 rcases key_case (p:=n+3) hn h.k2 with⟨e,h0⟩ | ⟨e,hn0,hb⟩
 ·exact⟨34,h0,by decide,by decide,by decide,nb (by decide) (by decide)⟩
 ·obtain⟨c,hc,hbc⟩:=hb 0 hn0
  have:=bareI_is hbc
  exact⟨c,hc,by omega,by omega,by omega,nb (by omega) (by omega)⟩
theorem val_at (h:SrcAt S (keyI k) (valI v) n m) (hv:By v) (hm:(valI v).length=m):BlkI S (2*n+5) (2*n+6+m) (2*n+6)∧ValAt S (2*n+6) (2*n+6+m) v (2*n+6+m):=by
 have hl:=h.len
 rcases val_case (p:=2*n+6) hm h.v1 with⟨e,h0,hm0,h9⟩ | ⟨e,hm0,⟨c,hc,c1,c2,c3⟩,⟨d,hd,d1,d2⟩⟩
 ·have hq:(quoI v).length=m:=by rw [←e];exact hm
  exact⟨BlkI.next h.s5 (.inl rfl) (BlkI.here (by omega) h0 (nb (by decide) (by decide))),
   .quo (2*n+6+m) (by omega) (TrmI.here (by omega) h9 (nb (by decide) (by decide))) (quo_at hq (by omega) (by omega) (fun j hj=>by rw [h.v1 j hj,e])) (by omega) (BlkI.stop _) hv⟩
 ·have hvl:v.length=m:=by rw [←e];exact hm
  exact⟨BlkI.next h.s5 (.inl rfl) (BlkI.here (by omega) hc (nb c2 c3)),
   .bare (.inr ⟨c,hc,c1⟩) (TrmI.here (by omega) hd (nb d1 d2)) (slice_eq hvl (by omega) (fun j hj=>by rw [h.v1 j hj,e]))⟩
theorem no_lf {x:Nat} (h:SrcAt S (keyI k) (valI v) n m) (hn:(keyI k).length=n) (hm:(valI v).length=m) (hx:x<2*n+m+7) (h1:x≠n+2) (h2:x≠2*n+6+m):S[x]?≠some 10∧S[x]?≠some 13:=by
 have key:∀{K:List Nat} {p q:Nat},K.length=q→(∀j,j<q→S[p+j]? = K[j]?)→(∀c∈K,32≤c)→p≤x→x<p+q→S[x]?≠some 10∧S[x]?≠some 13:=fun {K p q} hq hK hs h3 h4=>by
  obtain⟨c,hc⟩:∃c,K[x - p]? = some c:=⟨_,List.getElem?_eq_getElem (by omega)⟩
  have h5:=hK (x - p) (by omega)
  rw [show p+(x - p)=x by omega,hc] at h5
  have:=hs c (List.mem_of_getElem? hc)
  rw [h5]
  exact⟨by intro e;have:=Option.some.inj e;omega,by intro e;have:=Option.some.inj e;omega⟩
 have lit:∀{p c:Nat},S[p]? = some c→c≠10→c≠13→x=p→S[x]?≠some 10∧S[x]?≠some 13:=fun {p c} hp a1 a2 e=>by
  rw [e,hp]
  exact⟨fun e=>a1 (Option.some.inj e),fun e=>a2 (Option.some.inj e)⟩
 by_cases c0:x=0
 ·exact lit h.s0 (by decide) (by decide) c0
 by_cases c1:x<1+n
 ·exact key hn h.k1 keyI_seen (by omega) c1
 by_cases c2:x=n+1
 ·exact lit h.s1 (by decide) (by decide) c2
 by_cases c3:x<n+3+n
 ·exact key hn h.k2 keyI_seen (by omega) c3
 by_cases c4:x=2*n+3
 ·exact lit h.s3 (by decide) (by decide) c4
 by_cases c5:x=2*n+4
 ·exact lit h.s4 (by decide) (by decide) c5
 by_cases c6:x=2*n+5
 ·exact lit h.s5 (by decide) (by decide) c6
 exact key hm h.v1 valI_seen (by omega) (by omega)
theorem srcI_run (h:SrcAt S (keyI k) (valI v) n m) (hk:By k) (hv:By v) (hn:(keyI k).length=n) (hm:(valI v).length=m) :
  ∃L,L.length≤4000∧LnsAt S 0 L∧RunI S L (0,[⟨10,[],false,[],[]⟩]) (2,nodesI k v):=by
 have hl:=h.len
 refine⟨[(0,n+2),(n+3,2*n+6+m),(2*n+6+m+1,S.length)],by simp,?_,?_⟩
 ·refine .next (Nat.zero_le _) h.s2 (fun x _ hx=>(no_lf h hn hm (by omega) (by omega) (by omega)).1) (fun x hx he=>(no_lf h hn hm (by omega) (by omega) (by omega)).2) ?_
  refine .next (by omega) h.s6 (fun x h1 hx=>(no_lf h hn hm (by omega) (by omega) (by omega)).1) (fun x hx he=>(no_lf h hn hm (by omega) (by omega) (by omega)).2) ?_
  exact .last (by omega) (fun x h1 h2=>by omega)
 ·refine .cons (s1:=(2,[⟨10,[],false,[1],[2]⟩,tN k,⟨10,[],false,[],[]⟩])) (.hdr k) (by show 0≤n+2;omega) (by show n+2≤_;omega) (.hdr 0 1 (n+1) (n+1) (BlkI.here (by omega) h.s0 (nb (by decide) (by decide))) (by show 0<n+2;omega) h.s0 ?_ (name_hdr h hk hn) (BlkI.stop _)) (.hdr ⟨by decide,by decide,by decide,by decide,fun x hx=>by cases hx⟩) ?_
  ·have hn1:1≤n:=by have:=keyI_len hk;omega
   rcases key_case (p:=1) hn h.k1 with⟨e,h0⟩ | ⟨e,hn0,hb⟩
   ·exact BlkI.here (by show 1≤n+2;omega) h0 (nb (by decide) (by decide))
   ·obtain⟨c,hc,hbc⟩:=hb 0 hn0
    have:=bareI_is hbc
    exact BlkI.here (by show 1≤n+2;omega) hc (nb (by omega) (by omega))
  obtain⟨c,hc,c1,c2,c3,c4⟩:=key_first h hn
  obtain⟨hf,hva⟩:=val_at h hv hm
  refine .cons (s1:=(2,nodesI k v)) (.ent k v) (by show n+3≤2*n+6+m;omega) (by show 2*n+6+m≤_;omega) (.ent (n+3) c (2*n+3) (2*n+4) (2*n+6) (2*n+6+m) (BlkI.here (by show n+3≤2*n+6+m;omega) hc c4) (by show n+3<2*n+6+m;omega) hc c1 c2 c3 (name_ent h hk hn) hf hva) (.ent ⟨by show 2<3;decide,by show 3+2≤4096;decide,by show 0≤4096;decide,by show 0≤4096;decide,fun x hx=>by cases hx⟩) ?_
  refine .cons .none (by show 2*n+6+m+1≤S.length;omega) (Nat.le_refl _) (.none ?_) (.none _) (.nil _)
  rw [show S.length=2*n+6+m+1 by omega]
  exact BlkI.stop _
end
end Go.Proofs.YtnnnagnjikdnnaaGreatDoor
