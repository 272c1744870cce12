/- A graph in memory, as graph.Check reads it; a slice of bools and of integers known whole. -/
import Derived.Test.YtijoollonkibfaaGreatDoorMGa
import Derived.Test.YtijoollonkibfaaGreatDoorProg
import Derived.Laws.EntriesVeiled
set_option linter.unusedVariables false
set_option linter.unusedSimpArgs false
set_option linter.defProp false
set_option linter.constructorNameAsVariable false
namespace Go.Proofs.YtijoollonkibfaaGreatDoor
open Go.RowKit
def Bs (m:List Bool):List Value:=m.map Value.bool
theorem Bs_get {m:List Bool} {k:Nat} (h:k<m.length):(Bs m)[k]? = some (.bool (m.getD k false)):=by
 unfold Bs
 rw [List.getElem?_map,List.getD_eq_getElem?_getD,List.getElem?_eq_getElem h];rfl
theorem Bs_set (m:List Bool) (k:Nat) (b:Bool):(Bs m).set k (.bool b)=Bs (m.set k b):=by simp [Bs,List.map_set]
theorem Bs_rep (n:Nat):List.replicate n (Value.bool false)=Bs (noMarks n):=by simp [Bs,noMarks]
theorem I64_getD {l:List Int} {k:Nat} (h:k<l.length):(I64 l)[k]? = some (.int .i64 (l.getD k 0)):=by
 unfold I64
 rw [List.getElem?_map,List.getD_eq_getElem?_getD,List.getElem?_eq_getElem h];rfl
theorem I64_rep (n:Nat) (v:Int):List.replicate n (Value.int .i64 v)=I64 (List.replicate n v):=by simp [I64]
theorem box2 (w:World) (t t':TypeId) (xs ys:List Value) :
  Hid (Arr ((w.alloc (.cells xs.toArray t)).alloc (.cells ys.toArray t')) w.heap.size t xs)∧Hid (Arr ((w.alloc (.cells xs.toArray t)).alloc (.cells ys.toArray t')) (w.heap.size+1) t' ys) ∧
   Below w.heap.size w ((w.alloc (.cells xs.toArray t)).alloc (.cells ys.toArray t'))∧Hid (((w.alloc (.cells xs.toArray t)).alloc (.cells ys.toArray t')).heap.size=w.heap.size+2):=by
 refine⟨(Arr.new w t xs).alloc _,?_,((Below.refl _ _).alloc (Nat.le_refl _) _).alloc (by simp) _,?_⟩
 ·have h:=Arr.new (w.alloc (.cells xs.toArray t)) t' ys
  have e:(w.alloc (.cells xs.toArray t)).heap.size=w.heap.size+1:=by simp
  rw [e] at h
  exact h
 ·show _=_
  simp
theorem box3 (w:World) (t t' t'':TypeId) (xs ys zs:List Value) :
  Hid (Arr (((w.alloc (.cells xs.toArray t)).alloc (.cells ys.toArray t')).alloc (.cells zs.toArray t'')) w.heap.size t xs)∧Hid (Arr (((w.alloc (.cells xs.toArray t)).alloc (.cells ys.toArray t')).alloc (.cells zs.toArray t'')) (w.heap.size+1) t' ys) ∧
   Hid (Arr (((w.alloc (.cells xs.toArray t)).alloc (.cells ys.toArray t')).alloc (.cells zs.toArray t'')) (w.heap.size+2) t'' zs) ∧
   Below w.heap.size w (((w.alloc (.cells xs.toArray t)).alloc (.cells ys.toArray t')).alloc (.cells zs.toArray t''))∧Hid ((((w.alloc (.cells xs.toArray t)).alloc (.cells ys.toArray t')).alloc (.cells zs.toArray t'')).heap.size=w.heap.size+3):=by
 obtain⟨h1,h2,h3,h4⟩:=box2 w t t' xs ys
 refine⟨Arr.alloc h1 _,Arr.alloc h2 _,?_,h3.alloc (by have:=h4.out;omega) _,?_⟩
 ·have h:=Arr.new ((w.alloc (.cells xs.toArray t)).alloc (.cells ys.toArray t')) t'' zs
  rw [h4.out] at h
  exact h
 ·show _=_
  simp
def NodeC (w:World) (B g p:Nat) (nd:GNode):Prop:=∃K ck I ci,
 w.cell? ⟨g,p,none⟩=some (.int .i64 nd.kind)∧w.cell? ⟨g,p+1,none⟩=some (.string (mks nd.text))∧w.cell? ⟨g,p+2,none⟩=some (.bool nd.ord) ∧
 w.cell? ⟨g,p+3,none⟩=some (.slice K nd.keys.length ck)∧w.cell? ⟨g,p+4,none⟩=some (.slice I nd.items.length ci) ∧
 (Rd w K (I64 nd.keys)∧∀ad,K=some ad→ad.block<B)∧(Rd w I (I64 nd.items)∧∀ad,I=some ad→ad.block<B)
def GRd (w:World) (B g o:Nat) (nodes:List GNode):Prop:=g<B∧B≤w.heap.size∧∀i nd,nodes[i]? = some nd→NodeC w B g (o+i*5) nd
theorem NodeC.up {w:World} {B B' g p:Nat} {nd:GNode} (h:NodeC w B g p nd) (hB:B≤B'):NodeC w B' g p nd:=by
 obtain⟨K,ck,I,ci,h0,h1,h2,h3,h4,⟨h5,h6⟩,h7,h8⟩:=h
 exact⟨K,ck,I,ci,h0,h1,h2,h3,h4,⟨h5,fun ad e=>Nat.lt_of_lt_of_le (h6 ad e) hB⟩,h7,fun ad e=>Nat.lt_of_lt_of_le (h8 ad e) hB⟩
theorem GRd.up {w:World} {B B' g o:Nat} {nodes:List GNode} (h:GRd w B g o nodes) (hB:B≤B') (hw:B'≤w.heap.size):GRd w B' g o nodes:=
 ⟨Nat.lt_of_lt_of_le h.1 hB,hw,fun i nd hi=>(h.2.2 i nd hi).up hB⟩
theorem NodeC.same {w w':World} {B g p:Nat} {nd:GNode} (h:NodeC w B g p nd) (hg:g<B) (hk:∀a:Addr,a.block<B→∀u,w.cell? a=some u→w'.cell? a=some u):NodeC w' B g p nd:=by
 obtain⟨K,ck,I,ci,h0,h1,h2,h3,h4,⟨h5,h6⟩,h7,h8⟩:=h
 refine⟨K,ck,I,ci,hk _ hg _ h0,hk _ hg _ h1,hk _ hg _ h2,hk _ hg _ h3,hk _ hg _ h4,⟨fun j u hj=>?_,h6⟩,fun j u hj=>?_,h8⟩
 ·obtain⟨ad,e,hc⟩:=h5 j u hj
  exact⟨ad,e,hk _ (by rw [blk_add];exact h6 ad e) _ hc⟩
 ·obtain⟨ad,e,hc⟩:=h7 j u hj
  exact⟨ad,e,hk _ (by rw [blk_add];exact h8 ad e) _ hc⟩
theorem GRd.below {w w':World} {B B' g o:Nat} {nodes:List GNode} (h:GRd w B g o nodes) (hb:Below B' w w') (hB:B≤B'):GRd w' B g o nodes:=
 ⟨h.1,Nat.le_trans h.2.1 hb.size,fun i nd hi=>(h.2.2 i nd hi).same h.1 fun a ha u hu=>by rw [hb.cell (by omega)];exact hu⟩
theorem GRd.grown {w w':World} {B g o b:Nat} {nodes:List GNode} (h:GRd w B g o nodes) (hb:w.grownBy w' (some b)) (hB:B≤b):GRd w' B g o nodes:=
 ⟨h.1,Nat.le_trans h.2.1 hb.size,fun i nd hi=>(h.2.2 i nd hi).same h.1 fun a ha u hu=>hb.cell hu (by intro e;have:=Option.some.inj e;omega)⟩
theorem GRd.of_at {w:World} {g o:Nat} {B:Nat} {nodes:List GNode} (h:GRd w B g o nodes) {i:Nat} (hi:i<nodes.length):NodeC w B g (o+i*5) (ndAt nodes i):=h.2.2 i _ (ndAt_get hi)
def NL (L:Nat) (nodes:List GNode):Prop:=∀i,i<nodes.length→(ndAt nodes i).keys.length≤L∧(ndAt nodes i).items.length≤L
theorem grown_set (w:World) (p:Addr) (u:Value):w.grownBy (w.setCell p u) (some p.block):=
 ⟨rfl,rfl,rfl,by simp [World.setCell],fun k _ hk=>Below.heap_setCell w p u k (by rintro rfl;exact hk rfl)⟩
theorem grown_trans {a b c:World} {row:Option Nat} (h:a.grownBy b row) (k:b.grownBy c row):a.grownBy c row:=
 ⟨k.os.trans h.os,k.tape.trans h.tape,k.output.trans h.output,Nat.le_trans h.size k.size,fun j hj hr=>(k.block j (Nat.lt_of_lt_of_le hj h.size) hr).trans (h.block j hj hr)⟩
theorem below_row {a b c:World} {B r:Nat} (h:Below B a b) (k:b.grownBy c (some r)) (hB:B≤b.heap.size) (hr:B≤r):Below B a c:=
 h.trans ⟨k.os,k.tape,k.output,k.size,fun j hj=>k.block j (by omega) (by intro e;have:=Option.some.inj e;omega)⟩
theorem drop_cons_at {l:List Int} {k:Nat} {x:Int} (h:l[k]? = some x):l.drop k=x :: l.drop (k+1):=by
 have hk:=(List.getElem?_eq_some_iff.1 h).1
 have hx:=(List.getElem?_eq_some_iff.1 h).2
 rw [List.drop_eq_getElem_cons hk,hx]
end Go.Proofs.YtijoollonkibfaaGreatDoor
namespace Go.Proofs.YtijoollonkibfaaGreatDoor
open Go.RowKit
structure VE (w:World) (B g o c xb gb vb mb:Nat) (nodes:List GNode) (root:Int):Prop where
 gr:GRd w B g o nodes
 bx:Arr w xb 78 [.slice (some ⟨mb,0,none⟩) nodes.length nodes.length]
 bg:Arr w gb 25 [.slice (some ⟨g,o,none⟩) nodes.length c,.int .i64 root]
 bv:Arr w vb 70 [.func (.func 56) #[] #[.pointer (some ⟨xb,0,none⟩),.pointer (some ⟨gb,0,none⟩),.pointer (some ⟨vb,0,none⟩)]]
 lo:B≤mb
 nx:xb≠mb
 ng:gb≠mb
 nv:vb≠mb
theorem VE.grown {w w':World} {B g o c xb gb vb mb:Nat} {nodes:List GNode} {root:Int} (h:VE w B g o c xb gb vb mb nodes root) (hb:w.grownBy w' (some mb)):VE w' B g o c xb gb vb mb nodes root:=
 ⟨h.gr.grown hb h.lo,h.bx.grown hb (by intro e;exact h.nx (Option.some.inj e)),h.bg.grown hb (by intro e;exact h.ng (Option.some.inj e)),h.bv.grown hb (by intro e;exact h.nv (Option.some.inj e)),h.lo,h.nx,h.ng,h.nv⟩
def VisC (w:World) (mb:Nat) (m:List Bool) (e:Ending) (w':World):Prop:=e=.returned (.tuple #[])∧w.grownBy w' (some mb)∧Hid (Arr w' mb 4 (Bs m))
theorem visitV_len {nodes:List GNode} {f:Nat} {x:Int} {m m':List Bool} (h:visitV nodes f x m=some m') (hl:m.length=nodes.length):m'.length=nodes.length:=by
 induction f generalizing x m m' with
 | zero=>cases h
 | succ f ih=>
  rw [visitV] at h
  split at h
  ·split at h
   ·rw [←Option.some.inj h];exact hl
   ·have run:∀(xs:List Int) (a b:List Bool),runG (visitV nodes f) xs a=some b→a.length=nodes.length→b.length=nodes.length:=by
     intro xs
     induction xs with
     | nil=>intro a b e ha;rw [←Option.some.inj e];exact ha
     | cons y xs ihx=>
      intro a b e ha
      rw [runG] at e
      split at e
      ·cases e
      ·rename_i a1 e1
       exact ihx a1 b e (ih e1 ha)
    split at h
    ·cases h
    ·rename_i m1 e1
     exact run _ _ _ h (run _ _ _ e1 (by rw [List.length_set];exact hl))
  ·cases h
set_option maxRecDepth 20000 in
set_option maxHeartbeats 4000000 in
theorem visit_any {B g o c xb gb vb mb:Nat} {nodes:List GNode} {root:Int} (hI:Idx nodes) (hL:NL 65536 nodes) (f:Nat):∀(k:Nat) (m m':List Bool) (w:World),visitV nodes f (k:Int) m=some m'→m.length=nodes.length →
  VE w B g o c xb gb vb mb nodes root→Arr w mb 4 (Bs m)→Calls Tryz.prog 56 #[.int .i64 (k:Int),.pointer (some ⟨xb,0,none⟩),.pointer (some ⟨gb,0,none⟩),.pointer (some ⟨vb,0,none⟩)] w (VisC w mb m'):=by
 induction f with
 | zero=>intro k m m' w h;cases h
 | succ f ih=>
  intro k m m' w h hl hE hM
  rw [visitV] at h
  split at h
  ·rename_i hin
   obtain⟨_,hk2⟩:=inB_iff.1 hin
   have hk:k<nodes.length:=by omega
   have hkl:(k:Int)<nodes.length:=by omega
   have hk0:(0:Int)≤k:=by omega
   rw [Int.toNat_natCast] at h
   have x0:=hE.bx.cell' (i:=0) rfl
   have m0:=hM.cell' (Bs_get (m:=m) (k:=k) (by omega))
   by_cases hm:m.getD k false=true
   ·rw [if_pos hm] at h
    obtain rfl:=Option.some.inj h
    rw [hm] at m0
    go_enter Tryz.func56,Tryz.ntmps56
    go_wp2_with (fail)
    go_end0
    exact⟨rfl,World.grownBy.refl _ _,hM⟩
   ·rw [if_neg hm] at h
    have hm':m.getD k false=false:=by simpa using hm
    rw [hm'] at m0
    have f0:=hM.frozen k
    have hM1:Hid (Arr (w.setCell ⟨mb,k,none⟩ (.bool true)) mb 4 (Bs (m.set k true))):=by
     have:=hM.store k (.bool true)
     rw [Bs_set] at this
     exact this
    have hg1:=grown_set w ⟨mb,k,none⟩ (.bool true)
    have hE1:=hE.grown hg1
    have HG:=Lib.hid hg1
    go_enter Tryz.func56,Tryz.ntmps56
    go_upto_region 2 with(fail)
    clear m0 f0 x0 hm hm' hg1
    generalize w.setCell ⟨mb,k,none⟩ (.bool true)=w1 at *
    have hlm:(m.set k true).length=nodes.length:=by rw [List.length_set];exact hl
    obtain⟨K,ck,I,ci,c0,c1,c2,c3,c4,⟨hK,hKb⟩,hI',hIb⟩:=hE1.gr.of_at hk
    obtain⟨hKl,hIl⟩:=hL k hk
    have g0:=hE1.bg.cell' (i:=0) rfl
    have hrefs:=Lib.hid (hI k hk)
    have HK:=Lib.hid hK
    have HI:=Lib.hid hI'
    have HKB:=Lib.hid hKb
    have HIB:=Lib.hid hIb
    clear hKb hIb hK hI' c0 c1 c2 hin hk2
    generalize hnd:ndAt nodes k=nd at *
    generalize hmk:m.set k true=m0 at *
    cases hr:runG (visitV nodes f) nd.keys m0 with
    | none=>rw [hr] at h;cases h
    | some mk=>
     rw [hr] at h
     have h2:runG (visitV nodes f) nd.items mk=some m':=h
     have HR:=Lib.hid hr
     have HH:=Lib.hid h2
     have HLM:=Lib.hid hlm
     clear h h2 hr hnd hmk hl hlm
     go_wp2_with (fail)
     go_loopw [23] (fun v wr=>∃(j:Nat) (m1:List Bool),j≤nd.keys.length∧v=.int .i64 (j:Int)∧Hid (runG (visitV nodes f) (nd.keys.drop j) m1=some mk)∧Hid (m1.length=nodes.length)∧Hid (Arr wr mb 4 (Bs m1))∧w1.grownBy wr (some mb)) (fun v _=>nd.keys.length - (intOf v).toNat)
     case atStart=>exact⟨0,m0,Nat.zero_le _,rfl,HR,HLM,hM1,World.grownBy.refl _ _⟩
     case round=>
      obtain⟨j,m1,hj,rfl,hrun,hlm1,hMr,hgr⟩:=hrel
      have hEr:=hE1.grown hgr
      by_cases hjl:j=nd.keys.length
      ·have hjl':¬(j:Int)<nd.keys.length:=by omega
       have hmk:m1=mk:=by
        have:=hrun.out
        rw [List.drop_of_length_le (by omega)] at this
        exact Option.some.inj this
       subst hmk
       have g0':=hEr.bg.cell' (i:=0) rfl
       have hk4:wr.cell? ⟨g,o+k*5+4,none⟩=some (.slice I nd.items.length ci):=hgr.cell c4 (by intro e;have e':g=mb:=Option.some.inj e;have:=hE1.gr.1;have:=hE1.lo;omega)
       have HI2:=Lib.hid (HI.out.grown hgr (fun ad e h=>by have:=HIB.out ad e;have:=Option.some.inj h;have:=hE1.lo;omega))
       clear hrun
       obtain⟨wo,hwo⟩:∃wo:World,wo=wr:=⟨_,rfl⟩
       subst hwo
       go_wp2_with (fail)
       go_loopw [38] (fun v wr=>∃(j:Nat) (m1:List Bool),j≤nd.items.length∧v=.int .i64 (j:Int)∧Hid (runG (visitV nodes f) (nd.items.drop j) m1=some m')∧Hid (m1.length=nodes.length)∧Hid (Arr wr mb 4 (Bs m1))∧wo.grownBy wr (some mb)) (fun v _=>nd.items.length - (intOf v).toNat)
       case atStart=>exact⟨0,m1,Nat.zero_le _,rfl,HH,hlm1,hMr,World.grownBy.refl _ _⟩
       case round=>
        obtain⟨i,m3,hi,rfl,hrun,hlm3,hMs,hgs⟩:=hrel
        have hEs:=hEr.grown hgs
        by_cases hil:i=nd.items.length
        ·have hil':¬(i:Int)<nd.items.length:=by omega
         have hm3:m3=m':=by
          have:=hrun.out
          rw [List.drop_of_length_le (by omega)] at this
          exact Option.some.inj this
         subst hm3
         go_wp2_with (fail)
         go_end0
         exact⟨rfl,grown_trans HG.out (grown_trans hgr hgs),hMs⟩
        ·have hil':(i:Int)<nd.items.length:=by omega
         obtain⟨x,hx⟩:∃x,nd.items[i]? = some x:=⟨_,List.getElem?_eq_getElem (by omega)⟩
         obtain⟨ad,rfl,hc⟩:=(HI2.out.grown hgs (fun ad e h=>by have:=HIB.out ad e;have:=Option.some.inj h;have:=hE1.lo;omega)).at_ (I64_get hx)
         have hxr:=hrefs.out x (by unfold refs;exact List.mem_append.2 (.inr (List.mem_of_getElem? hx)))
         obtain⟨kx,rfl⟩:∃kx:Nat,x=(kx:Int):=⟨x.toNat,by omega⟩
         have hrun':=hrun.out
         rw [drop_cons_at hx,runG] at hrun'
         cases hv:visitV nodes f (kx:Int) m3 with
         | none=>rw [hv] at hrun';cases hrun'
         | some m2=>
          rw [hv] at hrun'
          have HRUN:=Lib.hid hrun'
          have D:=Lib.hid (ih kx m3 m2 wr hv hlm3.out hEs hMs.out)
          have HL2:=Lib.hid (visitV_len hv hlm3.out)
          have v0:=hEs.bv.cell' (i:=0) rfl
          clear hrun hrun' hv hxr hrefs hx
          go_wp2_with (go_at_call 56;((with_reducible refine D.out.mono ?_));rintro e w2 ⟨rfl,hg2,hM2⟩)
          go_roundw
          case rel=>exact⟨i+1,m2,by omega,i64e (by omega),HRUN,HL2,hM2,grown_trans hgs hg2⟩
          case measure=>simp [intOf];omega
      ·have hjl':(j:Int)<nd.keys.length:=by omega
       obtain⟨x,hx⟩:∃x,nd.keys[j]? = some x:=⟨_,List.getElem?_eq_getElem (by omega)⟩
       obtain⟨ad,rfl,hc⟩:=(HK.out.grown hgr (fun ad e h=>by have:=HKB.out ad e;have:=Option.some.inj h;have:=hE1.lo;omega)).at_ (I64_get hx)
       have hxr:=hrefs.out x (by unfold refs;exact List.mem_append.2 (.inl (List.mem_of_getElem? hx)))
       obtain⟨kx,rfl⟩:∃kx:Nat,x=(kx:Int):=⟨x.toNat,by omega⟩
       have hrun':=hrun.out
       rw [drop_cons_at hx,runG] at hrun'
       cases hv:visitV nodes f (kx:Int) m1 with
       | none=>rw [hv] at hrun';cases hrun'
       | some m2=>
        rw [hv] at hrun'
        have HRUN:=Lib.hid hrun'
        have D:=Lib.hid (ih kx m1 m2 wr hv hlm1.out hEr hMr.out)
        have HL2:=Lib.hid (visitV_len hv hlm1.out)
        have v0:=hEr.bv.cell' (i:=0) rfl
        clear hrun hrun' hv hxr hrefs hx
        go_wp2_with (go_at_call 56;((with_reducible refine D.out.mono ?_));rintro e w2 ⟨rfl,hg2,hM2⟩)
        go_roundw
        case rel=>exact⟨j+1,m2,by omega,i64e (by omega),HRUN,HL2,hM2,grown_trans hgr hg2⟩
        case measure=>simp [intOf];omega
  ·cases h
set_option maxRecDepth 20000 in
set_option maxHeartbeats 4000000 in
theorem reached_any {B g o c mb:Nat} {nodes:List GNode} {root:Int} (hI:Idx nodes) (hL:NL 65536 nodes) (k:Nat) (hk:k<nodes.length) (m:List Bool) (w:World) (hl:m.length=nodes.length) (hG:GRd w B g o nodes) (hB:B≤mb) (hM:Arr w mb 4 (Bs m)) :
  Calls Tryz.prog 36 #[.agg #[.slice (some ⟨g,o,none⟩) nodes.length c,.int .i64 root],.int .i64 (k:Int),.slice (some ⟨mb,0,none⟩) nodes.length nodes.length] w (VisC w mb (reachedV nodes (k:Int) m)):=by
 have hv:=(reachedV_ok hI (at_:=(k:Int)) ⟨by omega,by omega⟩ hl).1
 have hmf:∀(fn:Fn) (first cap:Array Value) (w:World),(Instr.makeFunc fn first cap).run Tryz.prog w=.ok (.func fn first cap) w:=fun _ _ _ _=>rfl
 have hml:=hM.lt
 go_enter Tryz.func36,Tryz.ntmps36
 go_upto_region 2 with(fail)
 obtain⟨h1,h2,h3,h4,_⟩:=box3 w 25 78 70 [.slice (some ⟨g,o,none⟩) nodes.length c,.int .i64 root] [.slice (some ⟨mb,0,none⟩) nodes.length nodes.length] [.nilFunc]
 have hX:Hid (Arr (((w.alloc (.cells #[.slice (some ⟨g,o,none⟩) nodes.length c,.int .i64 root] 25)).alloc (.cells #[.slice (some ⟨mb,0,none⟩) nodes.length nodes.length] 78)).alloc (.cells #[.nilFunc] 70)) w.heap.size 25 [.slice (some ⟨g,o,none⟩) nodes.length c,.int .i64 root]):=h1
 have hY:Hid (Arr (((w.alloc (.cells #[.slice (some ⟨g,o,none⟩) nodes.length c,.int .i64 root] 25)).alloc (.cells #[.slice (some ⟨mb,0,none⟩) nodes.length nodes.length] 78)).alloc (.cells #[.nilFunc] 70)) (w.heap.size+1) 78 [.slice (some ⟨mb,0,none⟩) nodes.length nodes.length]):=h2
 have hZ:Hid (Arr (((w.alloc (.cells #[.slice (some ⟨g,o,none⟩) nodes.length c,.int .i64 root] 25)).alloc (.cells #[.slice (some ⟨mb,0,none⟩) nodes.length nodes.length] 78)).alloc (.cells #[.nilFunc] 70)) (w.heap.size+1+1) 70 [.nilFunc]):=h3
 have hB3:Below w.heap.size w (((w.alloc (.cells #[.slice (some ⟨g,o,none⟩) nodes.length c,.int .i64 root] 25)).alloc (.cells #[.slice (some ⟨mb,0,none⟩) nodes.length nodes.length] 78)).alloc (.cells #[.nilFunc] 70)):=h4
 clear h1 h2 h3 h4
 generalize (((w.alloc (.cells #[.slice (some ⟨g,o,none⟩) nodes.length c,.int .i64 root] 25)).alloc (.cells #[.slice (some ⟨mb,0,none⟩) nodes.length nodes.length] 78)).alloc (.cells #[.nilFunc] 70))=W at *
 obtain⟨vb,hvb⟩:∃b,w.heap.size+1+1=b:=⟨_,rfl⟩
 obtain⟨xb,hxb⟩:∃b,w.heap.size+1=b:=⟨_,rfl⟩
 obtain⟨gb,hgb⟩:∃b,w.heap.size=b:=⟨_,rfl⟩
 have l1:mb<gb∧gb<xb∧xb<vb:=by omega
 have hgb0:=Lib.hid hgb
 rw [hvb] at hZ ⊢
 rw [hxb] at hY ⊢
 rw [hgb] at hX ⊢
 have hBL:=Lib.hid hB3
 clear hvb hxb hgb hB3
 obtain⟨l2,l3,l4⟩:=l1
 have z0:=hZ.out.cell' (i:=0) rfl
 have zf:=hZ.out.frozen 0
 have hZ1:Hid (Arr (W.setCell ⟨vb,0,none⟩ (.func (.func 56) #[] #[.pointer (some ⟨xb,0,none⟩),.pointer (some ⟨gb,0,none⟩),.pointer (some ⟨vb,0,none⟩)])) vb 70 [.func (.func 56) #[] #[.pointer (some ⟨xb,0,none⟩),.pointer (some ⟨gb,0,none⟩),.pointer (some ⟨vb,0,none⟩)]]):=hZ.out.store 0 _
 have hX1:=Lib.hid (hX.out.far (p:=⟨vb,0,none⟩) (show gb≠vb by omega) (.func (.func 56) #[] #[.pointer (some ⟨xb,0,none⟩),.pointer (some ⟨gb,0,none⟩),.pointer (some ⟨vb,0,none⟩)]))
 have hY1:=Lib.hid (hY.out.far (p:=⟨vb,0,none⟩) (show xb≠vb by omega) (.func (.func 56) #[] #[.pointer (some ⟨xb,0,none⟩),.pointer (some ⟨gb,0,none⟩),.pointer (some ⟨vb,0,none⟩)]))
 have hB4:=Lib.hid (hBL.out.setCell (p:=⟨vb,0,none⟩) (by show w.heap.size≤vb;rw [hgb0.out];omega) (.func (.func 56) #[] #[.pointer (some ⟨xb,0,none⟩),.pointer (some ⟨gb,0,none⟩),.pointer (some ⟨vb,0,none⟩)]))
 clear hX hY hZ hBL
 go_upto_region 3 with(fail)
 clear z0 zf
 generalize W.setCell ⟨vb,0,none⟩ (.func (.func 56) #[] #[.pointer (some ⟨xb,0,none⟩),.pointer (some ⟨gb,0,none⟩),.pointer (some ⟨vb,0,none⟩)])=W4 at *
 have hE:VE W4 B g o c xb gb vb mb nodes root:=⟨hG.below hB4.out (by omega),hY1.out,hX1.out,hZ1.out,hB,by omega,by omega,by omega⟩
 have D:=Lib.hid (visit_any hI hL (nodes.length+1) k m (reachedV nodes (k:Int) m) W4 hv hl hE (hM.below hB4.out hml))
 have v0:=hZ1.out.cell' (i:=0) rfl
 have hgw:w.grownBy W4 (some mb):=⟨hB4.out.os,hB4.out.tape,hB4.out.output,hB4.out.size,fun j hj _=>hB4.out.block j hj⟩
 clear hv hl hM hE hX1 hY1 hZ1
 go_wp2_with (go_at_call 56;((with_reducible refine D.out.mono ?_));rintro e w5 ⟨rfl,hg5,hM5⟩)
 go_end0
 exact⟨rfl,grown_trans hgw hg5,hM5⟩
end Go.Proofs.YtijoollonkibfaaGreatDoor
namespace Go.Proofs.YtijoollonkibfaaGreatDoor
open Go.RowKit
def NodeB (w:World) (b B:Nat) (nd:GNode):Prop:=∃K ck I ci,
 Arr w b 40 [.int .i64 nd.kind,.string (mks nd.text),.bool nd.ord,.slice K nd.keys.length ck,.slice I nd.items.length ci]∧(Rd w K (I64 nd.keys)∧∀ad,K=some ad→ad.block<B)∧(Rd w I (I64 nd.items)∧∀ad,I=some ad→ad.block<B)
def CB (l:List Int) (q:Nat):Prop:=∀k,0≤l.getD k 0∧l.getD k 0≤(q:Int)
theorem CB.zero (n:Nat):CB (List.replicate n 0) 0:=fun k=>by
 rw [List.getD_eq_getElem?_getD,List.getElem?_replicate];split <;> simp
theorem CB.bump {l:List Int} {q:Nat} (h:CB l q) (x:Int):CB (bump l x) (q+1):=fun k=>by
 unfold Proofs.YtijoollonkibfaaGreatDoor.bump
 rw [List.getD_eq_getElem?_getD,List.getElem?_set]
 have h1:=h k
 have h2:=h x.toNat
 split
 ·split
  ·simp only [Option.getD_some];omega
  ·simp only [Option.getD_none];omega
 ·rw [←List.getD_eq_getElem?_getD];omega
theorem flat_drop {nodes:List GNode} {i:Nat} (h:i<nodes.length):(nodes.drop i).flatMap refs=(ndAt nodes i).keys ++ ((ndAt nodes i).items ++ (nodes.drop (i+1)).flatMap refs):=by
 rw [List.drop_eq_getElem_cons h,List.flatMap_cons]
 have e:nodes[i]=ndAt nodes i:=by have:=ndAt_get h;rw [List.getElem?_eq_getElem h] at this;exact Option.some.inj this
 rw [e]
 unfold refs
 rw [List.append_assoc]
theorem infoInt:(Tryz.prog.info? 3).map (fun i=>(i.zero,i.size,i.bytes))=some (some (.int .i64 0),1,8):=by kernel_rfl
theorem infoBool:(Tryz.prog.info? 4).map (fun i=>(i.zero,i.size,i.bytes))=some (some (.bool false),1,1):=by kernel_rfl
set_option maxRecDepth 20000 in
set_option maxHeartbeats 4000000 in
theorem counts_any {B g o c:Nat} {nodes:List GNode} {root:Int} (hV:indicesV nodes root=true) (hL:NL 65536 nodes) (hN:nodes.length≤65536) (w:World) (hG:GRd w B g o nodes) :
  Calls Tryz.prog 38 #[.agg #[.slice (some ⟨g,o,none⟩) nodes.length c,.int .i64 root]] w fun e w'=>∃cb,e=.returned (.slice (some ⟨cb,0,none⟩) nodes.length nodes.length)∧w.heap.size≤cb∧Below w.heap.size w w'∧Hid (Arr w' cb 3 (I64 (countsV nodes root))):=by
 obtain⟨⟨hr1,hr2⟩,hI⟩:=idx_of hV
 obtain⟨r,rfl⟩:∃r:Nat,root=(r:Int):=⟨root.toNat,by omega⟩
 have h1:Hid (Arr (w.alloc (.cells #[.slice (some ⟨g,o,none⟩) nodes.length c,.int .i64 (r:Int)] 25)) w.heap.size 25 [.slice (some ⟨g,o,none⟩) nodes.length c,.int .i64 (r:Int)]):=Arr.new w 25 [.slice (some ⟨g,o,none⟩) nodes.length c,.int .i64 (r:Int)]
 have hB1:Hid (Below w.heap.size w (w.alloc (.cells #[.slice (some ⟨g,o,none⟩) nodes.length c,.int .i64 (r:Int)] 25))):=(Below.refl _ _).alloc (Nat.le_refl _) _
 have HV:=Lib.hid hV
 have HG:=Lib.hid hG
 have hI':=Lib.hid hI
 clear hV hG hI
 go_enter Tryz.func38,Tryz.ntmps38
 go_upto_region 1 with(fail)
 generalize w.alloc (.cells #[.slice (some ⟨g,o,none⟩) nodes.length c,.int .i64 (r:Int)] 25)=W at *
 have hGW:Hid (GRd W B g o nodes):=HG.out.below hB1.out (by exact HG.out.2.1)
 obtain⟨n,hn⟩:∃n,nodes.length=n:=⟨_,rfl⟩
 obtain⟨gb,hgb⟩:∃b,w.heap.size=b:=⟨_,rfl⟩
 have hgbl:=h1.out.lt
 rw [hgb] at h1 hgbl hB1 ⊢
 rw [hn] at h1 hr2 hN ⊢
 have x0:=h1.out.cell' (i:=0) rfl
 have x1:=h1.out.cell' (i:=1) rfl
 have HN:=Lib.hid hn
 have HGB:=Lib.hid hgb
 clear hn hgb
 go_upto_region 2 with(at_make;go_loud (refine wpList_mk rfl _ _ 38 rfl 3 _ _ Tryz.underlying38 infoInt rfl _ _ _ _ rfl rfl n n (by omega) (by omega) (by omega) (by omega) (by unfold maxLen;omega) ?_;intro cb w2 hcb hC hb2 hz2))
 have hB2:Hid (Below gb w w2):=hB1.out.trans (hb2.mono (Nat.le_of_lt hgbl))
 have l1:gb<cb:=by have:=hcb.out;omega
 have hX:=h1.out.keep hb2
 have y0:=hX.cell' (i:=0) rfl
 have y1:=hX.cell' (i:=1) rfl
 have hCz:Hid (Arr w2 cb 3 (I64 (List.replicate n 0))):=by rw [←I64_rep];exact hC
 have z0:w2.cell? ⟨cb,r,none⟩=some (.int .i64 0):=by
  have:=hCz.out.cell' (I64_getD (l:=List.replicate n 0) (k:=r) (by simp;omega))
  rw [this,List.getD_eq_getElem?_getD,List.getElem?_replicate];split <;> rfl
 have zf:=hCz.out.frozen r
 have hC3:Hid (Arr (w2.setCell ⟨cb,r,none⟩ (.int .i64 1)) cb 3 (I64 (bump (List.replicate n 0) (r:Int)))):=by
  have h:=hCz.out.store r (.int .i64 1)
  rw [I64_set] at h
  have e:(List.replicate n (0:Int)).set r 1=bump (List.replicate n 0) (r:Int):=by
   unfold bump
   rw [Int.toNat_natCast]
   have:(List.replicate n (0:Int)).getD r 0=0:=by rw [List.getD_eq_getElem?_getD,List.getElem?_replicate];split <;> rfl
   rw [this];rfl
  rw [e] at h
  exact h
 have hB3:=Lib.hid (hB2.out.setCell (p:=⟨cb,r,none⟩) (show gb≤cb by omega) (.int .i64 1))
 have hX3:=Lib.hid (hX.far (p:=⟨cb,r,none⟩) (show gb≠cb by omega) (.int .i64 1))
 clear hC hCz hB2 hb2 hz2 x0 x1 h1 hX
 go_upto_region 3 with(fail)
 clear y0 y1 z0 zf
 generalize w2.setCell ⟨cb,r,none⟩ (.int .i64 1)=w3 at *
 have y0:=hX3.out.cell' (i:=0) rfl
 have HCB:Hid (CB (bump (List.replicate n 0) (r:Int)) 1):=(CB.zero n).bump _
 have HFI:Hid (((nodes.drop 0).flatMap refs).foldl bump (bump (List.replicate n 0) (r:Int))=countsV nodes (r:Int)):=by
  rw [List.drop_zero,←HN.out];exact rfl
 have hlen0:Hid ((bump (List.replicate n 0) (r:Int)).length=n):=by rw [bump_len];exact List.length_replicate
 go_wp2_with (fail)
 go_loopw [24] (fun v wr=>∃(i:Nat) (cur:List Int) (q:Nat),i≤n∧v=.int .i64 (i:Int)∧q≤1+i*131072∧Hid (CB cur q)∧Hid (cur.length=n)∧Hid (((nodes.drop i).flatMap refs).foldl bump cur=countsV nodes (r:Int))∧Hid (Arr wr cb 3 (I64 cur))∧Hid (Below gb w wr)∧w3.grownBy wr (some cb)) (fun v _=>n - (intOf v).toNat)
 case atStart=>exact⟨0,_,1,Nat.zero_le _,rfl,by omega,HCB,hlen0,HFI,hC3,hB3,World.grownBy.refl _ _⟩
 case round=>
  obtain⟨i,cur,q,hi,rfl,hq,hcb1,hcl,hfi,hCr,hBr,hgr⟩:=hrel
  by_cases hin:i=n
  ·have hin':¬(i:Int)<n:=by omega
   have he:cur=countsV nodes (r:Int):=by
    have:=hfi.out
    rw [List.drop_of_length_le (by have:=HN.out;omega)] at this
    exact this
   subst he
   go_wp2_with (fail)
   go_ret
   exact⟨cb,by rw [HN.out];rfl,by have:=HGB.out;omega,by rw [HGB.out];exact hBr,hCr⟩
  ·have hin':(i:Int)<n:=by omega
   have hi2:i<nodes.length:=by have:=HN.out;omega
   have hGr:=(HG.out.below hBr.out (by have:=HG.out.2.1;have:=HGB.out;omega)).of_at hi2
   obtain⟨K,ck,I,ci,c0,c1,c2,c3,c4,⟨hK,hKb⟩,hIt,hIb⟩:=hGr
   have k0:(0:Int)≤i:=by omega
   have hcbl:=hCr.out.lt
   have hND:Hid (Arr (wr.alloc (.cells #[.int .i64 (ndAt nodes i).kind,.string (mks (ndAt nodes i).text),.bool (ndAt nodes i).ord,.slice K (ndAt nodes i).keys.length ck,.slice I (ndAt nodes i).items.length ci] 40)) wr.heap.size 40 [.int .i64 (ndAt nodes i).kind,.string (mks (ndAt nodes i).text),.bool (ndAt nodes i).ord,.slice K (ndAt nodes i).keys.length ck,.slice I (ndAt nodes i).items.length ci]):=Arr.new wr _ _
   have hbn:Hid (Below wr.heap.size wr (wr.alloc (.cells #[.int .i64 (ndAt nodes i).kind,.string (mks (ndAt nodes i).text),.bool (ndAt nodes i).ord,.slice K (ndAt nodes i).keys.length ck,.slice I (ndAt nodes i).items.length ci] 40))):=(Below.refl _ _).alloc (Nat.le_refl _) _
   have HK:=Lib.hid hK
   have HI:=Lib.hid hIt
   have HKB:=Lib.hid hKb
   have HIB:=Lib.hid hIb
   clear hK hIt hKb hIb
   go_upto_region 6 with(fail)
   clear c0 c1 c2 c3 c4
   generalize (wr.alloc (.cells #[.int .i64 (ndAt nodes i).kind,.string (mks (ndAt nodes i).text),.bool (ndAt nodes i).ord,.slice K (ndAt nodes i).keys.length ck,.slice I (ndAt nodes i).items.length ci] 40))=w5 at *
   have hB5:Hid (Below gb w w5):=hBr.out.trans (hbn.out.mono (by have:=hBr.out.size;have:=HGB.out;omega))
   have hC5:=Lib.hid (hCr.out.keep hbn.out)
   have hK5:=Lib.hid (HK.out.keep hbn.out)
   have hI5:=Lib.hid (HI.out.keep hbn.out)
   have hg5:Hid (w3.grownBy w5 (some cb)):=grown_trans hgr ⟨hbn.out.os,hbn.out.tape,hbn.out.output,hbn.out.size,fun j hj _=>hbn.out.block j hj⟩
   have hnbl:=hND.out.lt
   obtain⟨nb,hnb⟩:∃b,wr.heap.size=b:=⟨_,rfl⟩
   rw [hnb] at hND hnbl hcbl ⊢
   have hgbn:gb<nb:=by have:=hBr.out.size;have:=HGB.out;omega
   obtain⟨hLk,hLi⟩:=hL i hi2
   have hrf:=Lib.hid (hI'.out i hi2)
   rw [flat_drop hi2,List.foldl_append,List.foldl_append] at hfi
   clear hnb hBr hCr HK HI hbn hgr
   generalize ndAt nodes i=nd at *
   have n3:=hND.out.cell' (i:=3) rfl
   go_wp2_with (fail)
   go_loopw [31] (fun v ws=>∃(j:Nat) (cu:List Int) (q':Nat),j≤nd.keys.length∧v=.int .i64 (j:Int)∧q'≤q+j∧Hid (CB cu q')∧Hid (cu.length=n)∧Hid (((nd.keys.drop j)).foldl bump cu=nd.keys.foldl bump cur)∧Hid (Arr ws cb 3 (I64 cu))∧Hid (Below gb w ws)∧w5.grownBy ws (some cb)) (fun v _=>nd.keys.length - (intOf v).toNat)
   case atStart=>exact⟨0,cur,q,Nat.zero_le _,rfl,by omega,hcb1,hcl,rfl,hC5,hB5,World.grownBy.refl _ _⟩
   case round=>
    obtain⟨j,cu,q',hj,rfl,hq',hcb2,hcl2,hfk,hCs,hBs,hgs⟩:=hrel
    by_cases hjl:j=nd.keys.length
    ·have hjl':¬(j:Int)<nd.keys.length:=by omega
     have he:cu=nd.keys.foldl bump cur:=by
      have:=hfk.out
      rw [List.drop_of_length_le (by omega)] at this
      exact this
     subst he
     obtain⟨q6,hq6⟩:∃x,x=q':=⟨_,rfl⟩
     subst hq6
     obtain⟨w6,hw6⟩:∃w:World,w=wr:=⟨_,rfl⟩
     subst hw6
     have hg6:=Lib.hid hgs
     have hcb6:=hcb2
     have hcl6:=hcl2
     have hC6:=hCs
     have hB6:=hBs
     have hI6:=Lib.hid (hI5.out.grown hgs (fun ad e h=>by have:=HIB.out ad e;have:=Option.some.inj h;have:=HG.out.2.1;have:=HGB.out;omega))
     have n4:=(hND.out.grown hgs (by intro e;have e':nb=cb:=Option.some.inj e;omega)).cell' (i:=4) rfl
     clear hfk hcb2 hcl2 hCs hBs hgs n3
     go_wp2_with (fail)
     go_loopw [45] (fun v ws=>∃(j:Nat) (cu:List Int) (q':Nat),j≤nd.items.length∧v=.int .i64 (j:Int)∧q'≤q6+j∧Hid (CB cu q')∧Hid (cu.length=n)∧Hid (((nd.items.drop j)).foldl bump cu=nd.items.foldl bump (nd.keys.foldl bump cur))∧Hid (Arr ws cb 3 (I64 cu))∧Hid (Below gb w ws)∧w6.grownBy ws (some cb)) (fun v _=>nd.items.length - (intOf v).toNat)
     case atStart=>exact⟨0,_,q6,Nat.zero_le _,rfl,by omega,hcb6,hcl6,rfl,hC6,hB6,World.grownBy.refl _ _⟩
     case round=>
      obtain⟨j,cu,q',hj,rfl,hq',hcb2,hcl2,hfk,hCs,hBs,hgs⟩:=hrel
      by_cases hjl:j=nd.items.length
      ·have hjl':¬(j:Int)<nd.items.length:=by omega
       have he:cu=nd.items.foldl bump (nd.keys.foldl bump cur):=by
        have:=hfk.out
        rw [List.drop_of_length_le (by omega)] at this
        exact this
       subst he
       have hgo:=Lib.hid (grown_trans hg5.out (grown_trans hg6.out hgs))
       go_wp2_with (fail)
       go_roundw
       case rel=>exact⟨i+1,_,q',by omega,i64e (by omega),by omega,hcb2,hcl2,hfi,hCs,hBs,hgo.out⟩
       case measure=>simp [intOf];omega
      ·have hjl':(j:Int)<nd.items.length:=by omega
       obtain⟨x,hx⟩:∃x,nd.items[j]? = some x:=⟨_,List.getElem?_eq_getElem (by omega)⟩
       obtain⟨ad,rfl,hc⟩:=(hI6.out.grown hgs (fun ad e h=>by have:=HIB.out ad e;have:=Option.some.inj h;have:=HG.out.2.1;have:=HGB.out;omega)).at_ (I64_get hx)
       have hxr:=hrf.out x (by unfold refs;exact List.mem_append.2 (.inr (List.mem_of_getElem? hx)))
       obtain⟨kx,rfl⟩:∃kx:Nat,x=(kx:Int):=⟨x.toNat,by omega⟩
       have hkn:(kx:Int)<n:=by have:=HN.out;omega
       have p0:=hCs.out.cell' (I64_getD (l:=cu) (k:=kx) (by have:=hcl2.out;omega))
       have pf:=hCs.out.frozen kx
       obtain⟨hv1,hv2⟩:=hcb2.out kx
       have hCt:Hid (Arr (wr.setCell ⟨cb,kx,none⟩ (.int .i64 (cu.getD kx 0+1))) cb 3 (I64 (bump cu (kx:Int)))):=by
        have h:=hCs.out.store kx (.int .i64 (cu.getD kx 0+1))
        rw [I64_set] at h
        exact h
       have hgt:=Lib.hid (grown_trans hgs (grown_set wr ⟨cb,kx,none⟩ (.int .i64 (cu.getD kx 0+1))))
       have hBt:=Lib.hid (hBs.out.setCell (p:=⟨cb,kx,none⟩) (show gb≤cb by omega) (.int .i64 (cu.getD kx 0+1)))
       have hfk2:Hid ((nd.items.drop (j+1)).foldl bump (bump cu (kx:Int))=nd.items.foldl bump (nd.keys.foldl bump cur)):=by
        have:=hfk.out
        rw [drop_cons_at hx,List.foldl_cons] at this
        exact this
       have hcl3:Hid ((bump cu (kx:Int)).length=n):=by rw [bump_len];exact hcl2.out
       have hcb3:=Lib.hid (hcb2.out.bump (kx:Int))
       clear hfk hx hxr hCs
       generalize cu.getD kx 0=vx at *
       go_wp2_with (fail)
       go_roundw
       case rel=>exact⟨j+1,bump cu (kx:Int),q'+1,by omega,i64e (by omega),by omega,hcb3,hcl3,hfk2,hCt,hBt,hgt.out⟩
       case measure=>simp [intOf];omega
    ·have hjl':(j:Int)<nd.keys.length:=by omega
     obtain⟨x,hx⟩:∃x,nd.keys[j]? = some x:=⟨_,List.getElem?_eq_getElem (by omega)⟩
     obtain⟨ad,rfl,hc⟩:=(hK5.out.grown hgs (fun ad e h=>by have:=HKB.out ad e;have:=Option.some.inj h;have:=HG.out.2.1;have:=HGB.out;omega)).at_ (I64_get hx)
     have hxr:=hrf.out x (by unfold refs;exact List.mem_append.2 (.inl (List.mem_of_getElem? hx)))
     obtain⟨kx,rfl⟩:∃kx:Nat,x=(kx:Int):=⟨x.toNat,by omega⟩
     have hkn:(kx:Int)<n:=by have:=HN.out;omega
     have p0:=hCs.out.cell' (I64_getD (l:=cu) (k:=kx) (by have:=hcl2.out;omega))
     have pf:=hCs.out.frozen kx
     obtain⟨hv1,hv2⟩:=hcb2.out kx
     have hCt:Hid (Arr (wr.setCell ⟨cb,kx,none⟩ (.int .i64 (cu.getD kx 0+1))) cb 3 (I64 (bump cu (kx:Int)))):=by
      have h:=hCs.out.store kx (.int .i64 (cu.getD kx 0+1))
      rw [I64_set] at h
      exact h
     have hgt:=Lib.hid (grown_trans hgs (grown_set wr ⟨cb,kx,none⟩ (.int .i64 (cu.getD kx 0+1))))
     have hBt:=Lib.hid (hBs.out.setCell (p:=⟨cb,kx,none⟩) (show gb≤cb by omega) (.int .i64 (cu.getD kx 0+1)))
     have hfk2:Hid ((nd.keys.drop (j+1)).foldl bump (bump cu (kx:Int))=nd.keys.foldl bump cur):=by
      have:=hfk.out
      rw [drop_cons_at hx,List.foldl_cons] at this
      exact this
     have hcl3:Hid ((bump cu (kx:Int)).length=n):=by rw [bump_len];exact hcl2.out
     have hcb3:=Lib.hid (hcb2.out.bump (kx:Int))
     clear hfk hx hxr hCs
     generalize cu.getD kx 0=vx at *
     go_wp2_with (fail)
     go_roundw
     case rel=>exact⟨j+1,bump cu (kx:Int),q'+1,by omega,i64e (by omega),by omega,hcb3,hcl3,hfk2,hCt,hBt,hgt.out⟩
     case measure=>simp [intOf];omega
end Go.Proofs.YtijoollonkibfaaGreatDoor
namespace Go.Proofs.YtijoollonkibfaaGreatDoor
open Go.RowKit
theorem keys_drop {nodes:List GNode} {i:Nat} (h:i<nodes.length):(nodes.drop i).flatMap GNode.keys=(ndAt nodes i).keys ++ (nodes.drop (i+1)).flatMap GNode.keys:=by
 rw [List.drop_eq_getElem_cons h,List.flatMap_cons]
 have e:nodes[i]=ndAt nodes i:=by have:=ndAt_get h;rw [List.getElem?_eq_getElem h] at this;exact Option.some.inj this
 rw [e]
def markK (nodes:List GNode) (m:List Bool) (k:Int):List Bool:=reachedV nodes k m
set_option maxRecDepth 20000 in
set_option maxHeartbeats 4000000 in
theorem inKeys_any {B g o c:Nat} {nodes:List GNode} {root:Int} (hI:Idx nodes) (hL:NL 65536 nodes) (hN:nodes.length≤65536) (w:World) (hG:GRd w B g o nodes) :
  Calls Tryz.prog 39 #[.agg #[.slice (some ⟨g,o,none⟩) nodes.length c,.int .i64 root]] w fun e w'=>∃mb,e=.returned (.slice (some ⟨mb,0,none⟩) nodes.length nodes.length)∧w.heap.size≤mb∧Below w.heap.size w w'∧Hid (Arr w' mb 4 (Bs (inKeysV nodes))):=by
 have h1:Hid (Arr (w.alloc (.cells #[.slice (some ⟨g,o,none⟩) nodes.length c,.int .i64 root] 25)) w.heap.size 25 [.slice (some ⟨g,o,none⟩) nodes.length c,.int .i64 root]):=Arr.new w 25 [.slice (some ⟨g,o,none⟩) nodes.length c,.int .i64 root]
 have hB1:Hid (Below w.heap.size w (w.alloc (.cells #[.slice (some ⟨g,o,none⟩) nodes.length c,.int .i64 root] 25))):=(Below.refl _ _).alloc (Nat.le_refl _) _
 have HG:=Lib.hid hG
 have hI':=Lib.hid hI
 clear hG
 go_enter Tryz.func39,Tryz.ntmps39
 go_upto_region 1 with(fail)
 generalize w.alloc (.cells #[.slice (some ⟨g,o,none⟩) nodes.length c,.int .i64 root] 25)=W at *
 obtain⟨n,hn⟩:∃n,nodes.length=n:=⟨_,rfl⟩
 obtain⟨gb,hgb⟩:∃b,w.heap.size=b:=⟨_,rfl⟩
 have hgbl:=h1.out.lt
 rw [hgb] at h1 hgbl hB1 ⊢
 rw [hn] at h1 hN ⊢
 have x0:=h1.out.cell' (i:=0) rfl
 have HN:=Lib.hid hn
 have HGB:=Lib.hid hgb
 clear hn hgb
 go_upto_region 2 with(at_make;go_loud (refine wpList_mk rfl _ _ 78 rfl 4 _ _ Tryz.underlying78 infoBool rfl _ _ _ _ rfl rfl n n (by omega) (by omega) (by omega) (by omega) (by unfold maxLen;omega) ?_;intro mb w2 hmb hM hb2 hz2))
 have hB2:Hid (Below gb w w2):=hB1.out.trans (hb2.mono (Nat.le_of_lt hgbl))
 have l1:gb<mb:=by have:=hmb.out;omega
 have hX:=Lib.hid (h1.out.keep hb2)
 have y0:=hX.out.cell' (i:=0) rfl
 have hMz:Hid (Arr w2 mb 4 (Bs (noMarks n))):=by rw [←Bs_rep];exact hM
 have HFI:Hid (((nodes.drop 0).flatMap GNode.keys).foldl (markK nodes) (noMarks n)=inKeysV nodes):=by
  rw [List.drop_zero,←HN.out];exact rfl
 have hlen0:Hid ((noMarks n).length=n):=by unfold noMarks;exact List.length_replicate
 clear hM hb2 hz2 h1 x0
 go_wp2_with (fail)
 go_loopw [15] (fun v wr=>∃(i:Nat) (cur:List Bool),i≤n∧v=.int .i64 (i:Int)∧Hid (cur.length=n)∧Hid (((nodes.drop i).flatMap GNode.keys).foldl (markK nodes) cur=inKeysV nodes)∧Hid (Arr wr mb 4 (Bs cur))∧Hid (Below gb w wr)∧w2.grownBy wr (some mb)) (fun v _=>n - (intOf v).toNat)
 case atStart=>exact⟨0,_,Nat.zero_le _,rfl,hlen0,HFI,hMz,hB2,World.grownBy.refl _ _⟩
 case round=>
  obtain⟨i,cur,hi,rfl,hcl,hfi,hCr,hBr,hgr⟩:=hrel
  by_cases hin:i=n
  ·have hin':¬(i:Int)<n:=by omega
   have he:cur=inKeysV nodes:=by
    have:=hfi.out
    rw [List.drop_of_length_le (by have:=HN.out;omega)] at this
    exact this
   subst he
   go_wp2_with (fail)
   go_ret
   exact⟨mb,by rw [HN.out];rfl,by have:=HGB.out;omega,by rw [HGB.out];exact hBr,hCr⟩
  ·have hin':(i:Int)<n:=by omega
   have hi2:i<nodes.length:=by have:=HN.out;omega
   have hGr:=(HG.out.below hBr.out (by have:=HG.out.2.1;have:=HGB.out;omega)).of_at hi2
   obtain⟨K,ck,I,ci,c0,c1,c2,c3,c4,⟨hK,hKb⟩,_⟩:=hGr
   have k0:(0:Int)≤i:=by omega
   have hcbl:=hCr.out.lt
   have hND:Hid (Arr (wr.alloc (.cells #[.int .i64 (ndAt nodes i).kind,.string (mks (ndAt nodes i).text),.bool (ndAt nodes i).ord,.slice K (ndAt nodes i).keys.length ck,.slice I (ndAt nodes i).items.length ci] 40)) wr.heap.size 40 [.int .i64 (ndAt nodes i).kind,.string (mks (ndAt nodes i).text),.bool (ndAt nodes i).ord,.slice K (ndAt nodes i).keys.length ck,.slice I (ndAt nodes i).items.length ci]):=Arr.new wr _ _
   have hbn:Hid (Below wr.heap.size wr (wr.alloc (.cells #[.int .i64 (ndAt nodes i).kind,.string (mks (ndAt nodes i).text),.bool (ndAt nodes i).ord,.slice K (ndAt nodes i).keys.length ck,.slice I (ndAt nodes i).items.length ci] 40))):=(Below.refl _ _).alloc (Nat.le_refl _) _
   have HK:=Lib.hid hK
   have HKB:=Lib.hid hKb
   clear hK hKb
   go_upto_region 5 with(fail)
   clear c0 c1 c2 c3 c4
   generalize (wr.alloc (.cells #[.int .i64 (ndAt nodes i).kind,.string (mks (ndAt nodes i).text),.bool (ndAt nodes i).ord,.slice K (ndAt nodes i).keys.length ck,.slice I (ndAt nodes i).items.length ci] 40))=w5 at *
   have hB5:Hid (Below gb w w5):=hBr.out.trans (hbn.out.mono (by have:=hBr.out.size;have:=HGB.out;omega))
   have hC5:=Lib.hid (hCr.out.keep hbn.out)
   have hK5:=Lib.hid (HK.out.keep hbn.out)
   have hg5:Hid (w2.grownBy w5 (some mb)):=grown_trans hgr ⟨hbn.out.os,hbn.out.tape,hbn.out.output,hbn.out.size,fun j hj _=>hbn.out.block j hj⟩
   obtain⟨nb,hnb⟩:∃b,wr.heap.size=b:=⟨_,rfl⟩
   rw [hnb] at hND hcbl ⊢
   have hgbn:gb<nb:=by have:=hBr.out.size;have:=HGB.out;omega
   obtain⟨hLk,_⟩:=hL i hi2
   have hrf:=Lib.hid (hI'.out i hi2)
   rw [keys_drop hi2,List.foldl_append] at hfi
   clear hnb hBr hCr HK hbn hgr
   generalize ndAt nodes i=nd at *
   have n3:=hND.out.cell' (i:=3) rfl
   go_wp2_with (fail)
   go_loopw [22] (fun v ws=>∃(j:Nat) (cu:List Bool),j≤nd.keys.length∧v=.int .i64 (j:Int)∧Hid (cu.length=n)∧Hid (((nd.keys.drop j)).foldl (markK nodes) cu=nd.keys.foldl (markK nodes) cur)∧Hid (Arr ws mb 4 (Bs cu))∧Hid (Below gb w ws)∧w5.grownBy ws (some mb)) (fun v _=>nd.keys.length - (intOf v).toNat)
   case atStart=>exact⟨0,cur,Nat.zero_le _,rfl,hcl,rfl,hC5,hB5,World.grownBy.refl _ _⟩
   case round=>
    obtain⟨j,cu,hj,rfl,hcl2,hfk,hCs,hBs,hgs⟩:=hrel
    by_cases hjl:j=nd.keys.length
    ·have hjl':¬(j:Int)<nd.keys.length:=by omega
     have he:cu=nd.keys.foldl (markK nodes) cur:=by
      have:=hfk.out
      rw [List.drop_of_length_le (by omega)] at this
      exact this
     subst he
     have hgo:=Lib.hid (grown_trans hg5.out hgs)
     go_wp2_with (fail)
     go_roundw
     case rel=>exact⟨i+1,_,by omega,i64e (by omega),hcl2,hfi,hCs,hBs,hgo.out⟩
     case measure=>simp [intOf];omega
    ·have hjl':(j:Int)<nd.keys.length:=by omega
     obtain⟨x,hx⟩:∃x,nd.keys[j]? = some x:=⟨_,List.getElem?_eq_getElem (by omega)⟩
     obtain⟨ad,rfl,hc⟩:=(hK5.out.grown hgs (fun ad e h=>by have:=HKB.out ad e;have:=Option.some.inj h;have:=HG.out.2.1;have:=HGB.out;omega)).at_ (I64_get hx)
     have hxr:=hrf.out x (by unfold refs;exact List.mem_append.2 (.inl (List.mem_of_getElem? hx)))
     obtain⟨kx,rfl⟩:∃kx:Nat,x=(kx:Int):=⟨x.toNat,by omega⟩
     have hGs:=HG.out.below hBs.out (by have:=HG.out.2.1;have:=HGB.out;omega)
     have D:=reached_any (c:=c) (root:=root) hI hL kx (by omega) cu wr (by have:=hcl2.out;have:=HN.out;omega) hGs (by have:=HG.out.2.1;have:=HGB.out;omega) hCs.out
     rw [HN.out] at D
     have D':=Lib.hid D
     have hXs:=(hX.out.grown (grown_trans hg5.out hgs) (by intro e;have e':gb=mb:=Option.some.inj e;omega))
     have x0:=hXs.cell' (i:=0) rfl
     have x1:=hXs.cell' (i:=1) rfl
     have hfk2:Hid ((nd.keys.drop (j+1)).foldl (markK nodes) (reachedV nodes (kx:Int) cu)=nd.keys.foldl (markK nodes) cur):=by
      have:=hfk.out
      rw [drop_cons_at hx,List.foldl_cons] at this
      exact this
     have hcl3:Hid ((reachedV nodes (kx:Int) cu).length=n):=by
      have:=(reachedV_ok hI (at_:=(kx:Int)) (m:=cu) hxr (by have:=hcl2.out;have:=HN.out;omega)).2.len
      show _=n
      rw [this];exact hcl2.out
     clear hfk hx hxr D hXs hGs
     go_wp2_with (go_at_call 36;((with_reducible refine D'.out.mono ?_));rintro e w6 ⟨rfl,hg6,hM6⟩)
     go_roundw
     case rel=>exact⟨j+1,reachedV nodes (kx:Int) cu,by omega,i64e (by omega),hcl3,hfk2,hM6,below_row hBs.out hg6 (by have:=HGB.out;have:=hBs.out.size;omega) (by omega),grown_trans hgs hg6⟩
     case measure=>simp [intOf];omega
end Go.Proofs.YtijoollonkibfaaGreatDoor
namespace Go.Proofs.YtijoollonkibfaaGreatDoor
open Go.RowKit
theorem inAll_drop {nodes:List GNode} {i:Nat} (n:Nat) (h:i<nodes.length):(nodes.drop i).all (inAll n)=(inAll n (ndAt nodes i) && (nodes.drop (i+1)).all (inAll n)):=by
 rw [List.drop_eq_getElem_cons h,List.all_cons]
 have e:nodes[i]=ndAt nodes i:=by have:=ndAt_get h;rw [List.getElem?_eq_getElem h] at this;exact Option.some.inj this
 rw [e]
theorem allIn_drop {l:List Int} {k:Nat} {x:Int} (n:Nat) (h:l[k]? = some x):(l.drop k).all (inB n)=(inB n x && (l.drop (k+1)).all (inB n)):=by
 rw [drop_cons_at h,List.all_cons]
def twoL (nd:GNode) (j:Nat):List Int:=if j=0 then nd.keys else nd.items
def restOK (n:Nat) (nd:GNode) (j:Nat):Bool:=if j=0 then inAll n nd else if j=1 then nd.items.all (inB n) else true
theorem restOK_step {n:Nat} {nd:GNode} {j:Nat} (h:j<2):restOK n nd j=((twoL nd j).all (inB n) && restOK n nd (j+1)):=by
 rcases(show j=0∨j=1 by omega) with rfl | rfl
 ·rfl
 ·simp [restOK,twoL]
set_option maxRecDepth 20000 in
set_option maxHeartbeats 8000000 in
theorem indices_any {B g o c:Nat} {nodes:List GNode} {root:Int} (hL:NL 65536 nodes) (hN:nodes.length≤65536) (w:World) (hG:GRd w B g o nodes) :
  Calls Tryz.prog 35 #[.agg #[.slice (some ⟨g,o,none⟩) nodes.length c,.int .i64 root]] w fun e w'=>e=.returned (.bool (indicesV nodes root))∧Below w.heap.size w w':=by
 have h1:Hid (Arr (w.alloc (.cells #[.slice (some ⟨g,o,none⟩) nodes.length c,.int .i64 root] 25)) w.heap.size 25 [.slice (some ⟨g,o,none⟩) nodes.length c,.int .i64 root]):=Arr.new w 25 [.slice (some ⟨g,o,none⟩) nodes.length c,.int .i64 root]
 have hB1:Hid (Below w.heap.size w (w.alloc (.cells #[.slice (some ⟨g,o,none⟩) nodes.length c,.int .i64 root] 25))):=(Below.refl _ _).alloc (Nat.le_refl _) _
 have HG:=Lib.hid hG
 clear hG
 go_enter Tryz.func35,Tryz.ntmps35
 go_upto_region 1 with(fail)
 generalize w.alloc (.cells #[.slice (some ⟨g,o,none⟩) nodes.length c,.int .i64 root] 25)=W at *
 obtain⟨n,hn⟩:∃n,nodes.length=n:=⟨_,rfl⟩
 obtain⟨gb,hgb⟩:∃b,w.heap.size=b:=⟨_,rfl⟩
 have hgbl:=h1.out.lt
 rw [hgb] at h1 hgbl hB1 ⊢
 rw [hn] at h1 hN ⊢
 have x0:=h1.out.cell' (i:=0) rfl
 have x1:=h1.out.cell' (i:=1) rfl
 have HN:=Lib.hid hn
 have HGB:=Lib.hid hgb
 have hVV:Hid (indicesV nodes root=(inB n root && (nodes.drop 0).all (inAll n))):=by unfold indicesV;rw [HN.out];rfl
 have hroot:Hid (inB n root=(decide (0≤root) && decide (root<(n:Int)))):=rfl
 clear hn hgb
 generalize inB n root=b0 at *
 obtain⟨V,hVe⟩:∃V,indicesV nodes root=V:=⟨_,rfl⟩
 rw [hVe] at hVV
 have HVE:=Lib.hid hVe
 clear hVe
 have hcases:(0≤root∧root<(n:Int)∧b0=true)∨(0≤root∧¬root<(n:Int)∧b0=false)∨(¬0≤root∧b0=false):=by
  by_cases r0:0≤root
  ·by_cases r1:root<(n:Int)
   ·exact .inl ⟨r0,r1,by rw [hroot.out];simp [r0,r1]⟩
   ·exact .inr (.inl ⟨r0,r1,by rw [hroot.out];simp [r1]⟩)
  ·exact .inr (.inr ⟨r0,by rw [hroot.out];simp [r0]⟩)
 clear hroot
 rcases hcases with⟨r0,r1,hb0⟩ | ⟨r0,r1,hb0⟩ | ⟨r0,hb0⟩
 all_goals
  subst hb0
  go_upto_region 3 with(fail)
  clear r0 x1
  go_loopw [3,24] (fun u v wr=>∃(i:Nat) (b:Bool),i≤n∧v=.int .i64 (i:Int)∧u=.bool b∧Hid (V=(b && (nodes.drop i).all (inAll n)))∧Hid (Below gb w wr)∧Below W.heap.size W wr) (fun _ v _=>n - (intOf v).toNat)
  case atStart=>exact⟨0,_,Nat.zero_le _,rfl,rfl,hVV,hB1,Below.refl _ _⟩
  case round=>
   obtain⟨i,b,hi,rfl,rfl,hv,hBr,hgr⟩:=hrel
   by_cases hin:i=n
   ·have hin':¬(i:Int)<n:=by omega
    have he:b=V:=by
     have:=hv.out
     rw [List.drop_of_length_le (by have:=HN.out;omega)] at this
     simpa using this.symm
    subst he
    go_wp2_with (fail)
    go_ret
    exact⟨by rw [HVE.out];rfl,by rw [HGB.out];exact hBr.out⟩
   ·have hin':(i:Int)<n:=by omega
    have hi2:i<nodes.length:=by have:=HN.out;omega
    have hGr:=(HG.out.below hBr.out (by have:=HG.out.2.1;have:=HGB.out;omega)).of_at hi2
    obtain⟨K,ck,I,ci,c0,c1,c2,c3,c4,⟨hK,hKb⟩,hIt,hIb⟩:=hGr
    have k0:(0:Int)≤i:=by omega
    have hND:Hid (Arr (wr.alloc (.cells #[.int .i64 (ndAt nodes i).kind,.string (mks (ndAt nodes i).text),.bool (ndAt nodes i).ord,.slice K (ndAt nodes i).keys.length ck,.slice I (ndAt nodes i).items.length ci] 40)) wr.heap.size 40 [.int .i64 (ndAt nodes i).kind,.string (mks (ndAt nodes i).text),.bool (ndAt nodes i).ord,.slice K (ndAt nodes i).keys.length ck,.slice I (ndAt nodes i).items.length ci]):=Arr.new wr _ _
    have hbn:Hid (Below wr.heap.size wr (wr.alloc (.cells #[.int .i64 (ndAt nodes i).kind,.string (mks (ndAt nodes i).text),.bool (ndAt nodes i).ord,.slice K (ndAt nodes i).keys.length ck,.slice I (ndAt nodes i).items.length ci] 40))):=(Below.refl _ _).alloc (Nat.le_refl _) _
    have HK:=Lib.hid hK
    have HI:=Lib.hid hIt
    clear hK hKb hIt hIb
    go_upto_region 5 with(fail)
    clear c0 c1 c2 c3 c4
    generalize (wr.alloc (.cells #[.int .i64 (ndAt nodes i).kind,.string (mks (ndAt nodes i).text),.bool (ndAt nodes i).ord,.slice K (ndAt nodes i).keys.length ck,.slice I (ndAt nodes i).items.length ci] 40))=w5 at *
    have hB5:Hid (Below gb w w5):=hBr.out.trans (hbn.out.mono (by have:=hBr.out.size;have:=HGB.out;omega))
    have hW5:Hid (Below W.heap.size W w5):=hgr.trans (hbn.out.mono hgr.size)
    have hK5:=Lib.hid (HK.out.keep hbn.out)
    have hI5:=Lib.hid (HI.out.keep hbn.out)
    obtain⟨nb,hnb⟩:∃b,wr.heap.size=b:=⟨_,rfl⟩
    rw [hnb] at hND ⊢
    obtain⟨hLk,hLi⟩:=hL i hi2
    rw [inAll_drop n hi2] at hv
    have hv0:Hid (V=(b && (restOK n (ndAt nodes i) 0 && (nodes.drop (i+1)).all (inAll n)))):=hv
    clear hnb hBr HK HI hbn hgr hv
    generalize ndAt nodes i=nd at *
    have n3:=hND.out.cell' (i:=3) rfl
    have n4:=hND.out.cell' (i:=4) rfl
    have hS:Hid (Arr (w5.alloc (.cells #[.slice K nd.keys.length ck,.slice I nd.items.length ci] 38)) w5.heap.size 38 [.slice K nd.keys.length ck,.slice I nd.items.length ci]):=Arr.new w5 _ _
    have hbs:Hid (Below w5.heap.size w5 (w5.alloc (.cells #[.slice K nd.keys.length ck,.slice I nd.items.length ci] 38))):=(Below.refl _ _).alloc (Nat.le_refl _) _
    go_upto_region 6 with(fail)
    clear n3 n4
    generalize w5.alloc (.cells #[.slice K nd.keys.length ck,.slice I nd.items.length ci] 38)=w6 at *
    have hB6:Hid (Below gb w w6):=hB5.out.trans (hbs.out.mono (by have:=hB5.out.size;have:=HGB.out;omega))
    have hW6:Hid (Below W.heap.size W w6):=hW5.out.trans (hbs.out.mono hW5.out.size)
    have hK6:=Lib.hid (hK5.out.keep hbs.out)
    have hI6:=Lib.hid (hI5.out.keep hbs.out)
    obtain⟨sb,hsb⟩:∃b,w5.heap.size=b:=⟨_,rfl⟩
    rw [hsb] at hS ⊢
    clear hsb hB5 hW5 hK5 hI5 hbs
    go_loopw [3,34] (fun u v ws=>∃(j:Nat) (b':Bool),j≤2∧v=.int .i64 (j:Int)∧u=.bool b'∧Hid (V=(b' && (restOK n nd j && (nodes.drop (i+1)).all (inAll n))))∧Hid (Below gb w ws)∧Hid (Below W.heap.size W ws)∧Below w6.heap.size w6 ws) (fun _ v _=>2 - (intOf v).toNat)
    case atStart=>exact⟨0,b,by omega,rfl,rfl,hv0,hB6,hW6,Below.refl _ _⟩
    case round=>
     obtain⟨j,b',hj,rfl,rfl,hv1,hB7,hW7,hg7⟩:=hrel
     by_cases hj2:j=2
     ·subst hj2
      have hv2:Hid (V=(b' && (nodes.drop (i+1)).all (inAll n))):=by
       have:=hv1.out
       show _=_
       simpa [restOK] using this
      go_wp2_with (fail)
      go_roundw
      case rel=>exact⟨i+1,b',by omega,i64e (by omega),rfl,hv2,hB7,hW7.out⟩
      case measure=>simp [intOf];omega
     ·have hj':(j:Int)<2:=by omega
      have hj0:(0:Int)≤j:=by omega
      obtain⟨AA,cA,hcA,hRA⟩:∃AA cA,wr.cell? ⟨sb,j,none⟩=some (.slice AA (twoL nd j).length cA)∧Hid (Rd wr AA (I64 (twoL nd j))):=by
       have hSr:=hS.out.keep hg7
       rcases(show j=0∨j=1 by omega) with rfl | rfl
       ·exact⟨K,ck,hSr.cell' (i:=0) rfl,hK6.out.keep hg7⟩
       ·exact⟨I,ci,hSr.cell' (i:=1) rfl,hI6.out.keep hg7⟩
      have hlT:(twoL nd j).length≤65536:=by unfold twoL;split <;> assumption
      rw [restOK_step (show j<2 by omega)] at hv1
      have hv3:Hid (V=(b' && (((twoL nd j).drop 0).all (inB n) && (restOK n nd (j+1) && (nodes.drop (i+1)).all (inAll n))))):=by
       rw [List.drop_zero]
       have:=hv1.out
       rw [Bool.and_assoc] at this
       exact this
      obtain⟨w7,hw7⟩:∃x:World,x=wr:=⟨_,rfl⟩
      subst hw7
      clear hv1
      generalize twoL nd j=L at *
      go_wp2_with (fail)
      go_loopw [3,40] (fun u v ws=>∃(k:Nat) (b'':Bool),k≤L.length∧v=.int .i64 (k:Int)∧u=.bool b''∧Hid (V=(b'' && ((L.drop k).all (inB n) && (restOK n nd (j+1) && (nodes.drop (i+1)).all (inAll n)))))∧w7=ws) (fun _ v _=>L.length - (intOf v).toNat)
      case atStart=>exact⟨0,b',Nat.zero_le _,rfl,rfl,hv3,rfl⟩
      case round=>
       obtain⟨k,b'',hk,rfl,rfl,hv4,rfl⟩:=hrel
       by_cases hkl:k=L.length
       ·have hkl':¬(k:Int)<L.length:=by omega
        have hv5:Hid (V=(b'' && (restOK n nd (j+1) && (nodes.drop (i+1)).all (inAll n)))):=by
         have:=hv4.out
         rw [List.drop_of_length_le (by omega)] at this
         show _=_
         simpa using this
        go_wp2_with (fail)
        go_roundw
        case rel=>exact⟨j+1,b'',by omega,i64e (by omega),rfl,hv5,hB7,hW7,hg7⟩
        case measure=>simp [intOf];omega
       ·have hkl':(k:Int)<L.length:=by omega
        obtain⟨x,hx⟩:∃x,L[k]? = some x:=⟨_,List.getElem?_eq_getElem (by omega)⟩
        obtain⟨ad,rfl,hc⟩:=hRA.out.at_ (I64_get hx)
        have hg0:=((h1.out.keep hW7.out).cell' (i:=0) rfl)
        have hv6:Hid (V=((b'' && inB n x) && ((L.drop (k+1)).all (inB n) && (restOK n nd (j+1) && (nodes.drop (i+1)).all (inAll n))))):=by
         have:=hv4.out
         rw [allIn_drop n hx,Bool.and_assoc (inB n x),←Bool.and_assoc b''] at this
         exact this
        have hbx:Hid (inB n x=(decide (0≤x) && decide (x<(n:Int)))):=rfl
        generalize inB n x=bx at *
        have hcs:(b''=false)∨(b''=true∧0≤x∧x<(n:Int)∧bx=true)∨(b''=true∧0≤x∧¬x<(n:Int)∧bx=false)∨(b''=true∧¬0≤x∧bx=false):=by
         cases b'' with
         | false=>exact .inl rfl
         | true=>
          right
          by_cases r0:0≤x
          ·by_cases r1:x<(n:Int)
           ·exact .inl ⟨rfl,r0,r1,by rw [hbx.out];simp [r0,r1]⟩
           ·exact .inr (.inl ⟨rfl,r0,r1,by rw [hbx.out];simp [r1]⟩)
          ·exact .inr (.inr ⟨rfl,r0,by rw [hbx.out];simp [r0]⟩)
        clear hv4 hbx hx
        rcases hcs with e1 | ⟨e1,e2,e3,e4⟩ | ⟨e1,e2,e3,e4⟩ | ⟨e1,e2,e4⟩
        all_goals
         subst e1
         try subst e4
         go_wp2_with (fail)
         go_roundw
         case rel=>exact⟨k+1,_,by omega,i64e (by omega),rfl,hv6,by first | rfl | trivial⟩
         case measure=>simp [intOf];omega
end Go.Proofs.YtijoollonkibfaaGreatDoor
